import PyProof.Rows.All
import Wide.All
import OpenK.AllK
import Wide.FinOn
import PySem.Challenge.RW_pe0133_01
set_option Elab.async false
/-! # part M1 -/
section
open PySem PySem.W PySem.Calls PyProof.Rows
set_option Elab.async false
set_option maxRecDepth 100000
namespace Mine

/-! ## the frozen part of the heap, and what is said of a value -/
noncomputable abbrev Fz := Addr → Option Obj
noncomputable def FzLe (f g : Fz) : Prop := ∀ a o, f a = some o → g a = some o
theorem FzLe.refl (f : Fz) : FzLe f f := fun _ _ h => h
theorem FzLe.trans {f g h : Fz} (a : FzLe f g) (b : FzLe g h) : FzLe f h := fun x o e => b x o (a x o e)

structure Pd where
  p : Fz → Value → Prop
  mono : ∀ {f g : Fz} {v : Value}, FzLe f g → p f v → p g v

noncomputable def int (i : Int) : Pd := ⟨fun _ v => ∃ t, v = .int i t, fun _ h => h⟩
noncomputable def str (x : Str) : Pd := ⟨fun _ v => ∃ t, v = .str x t, fun _ h => h⟩
noncomputable def boo (b : Bool) : Pd := ⟨fun _ v => v = .bool b, fun _ h => h⟩
noncomputable def non : Pd := ⟨fun _ v => v = .none, fun _ h => h⟩
noncomputable def val (w : Value) : Pd := ⟨fun _ v => v = w, fun _ h => h⟩

noncomputable def All2 (fz : Fz) : List Pd → List Value → Prop
  | [], [] => True
  | P :: ps, v :: vs => P.p fz v ∧ All2 fz ps vs
  | _, _ => False
theorem All2.mono {f g : Fz} (h : FzLe f g) : ∀ {ps vs}, All2 f ps vs → All2 g ps vs
  | [], [], _ => trivial
  | _ :: _, _ :: _, x => ⟨Pd.mono _ h x.1, All2.mono h x.2⟩
  | [], _ :: _, x => x.elim
  | _ :: _, [], x => x.elim
theorem All2.length {f : Fz} : ∀ {ps vs}, All2 f ps vs → ps.length = vs.length
  | [], [], _ => rfl
  | _ :: _, _ :: _, x => by rw [List.length_cons, List.length_cons, All2.length x.2]
  | [], _ :: _, x => x.elim
  | _ :: _, [], x => x.elim
theorem All2.append {f : Fz} : ∀ {ps vs qs ws}, All2 f ps vs → All2 f qs ws → All2 f (ps ++ qs) (vs ++ ws)
  | [], [], _, _, _, y => y
  | _ :: _, _ :: _, _, _, x, y => ⟨x.1, All2.append x.2 y⟩
  | [], _ :: _, _, _, x, _ => x.elim
  | _ :: _, [], _, _, x, _ => x.elim
theorem All2.get {f : Fz} : ∀ {ps vs} {i : Nat} {P : Pd}, All2 f ps vs → ps[i]? = some P → ∃ v, vs[i]? = some v ∧ P.p f v
  | [], _, _, _, _, h => by simp at h
  | P :: ps, v :: vs, 0, Q, x, h => by simp at h; subst h; exact ⟨v, by simp, x.1⟩
  | P :: ps, v :: vs, i + 1, Q, x, h => by
    simp only [List.getElem?_cons_succ] at h ⊢
    exact All2.get x.2 h
  | _ :: _, [], _, _, x, _ => x.elim
theorem All2.get' {f : Fz} : ∀ {ps vs} {i : Nat} {v : Value}, All2 f ps vs → vs[i]? = some v → ∃ P : Pd, ps[i]? = some P ∧ P.p f v
  | _, [], _, _, _, h => by simp at h
  | P :: ps, v :: vs, 0, Q, x, h => by simp at h; subst h; exact ⟨P, by simp, x.1⟩
  | P :: ps, v :: vs, i + 1, Q, x, h => by
    simp only [List.getElem?_cons_succ] at h ⊢
    exact All2.get' x.2 h
  | [], _ :: _, _, _, x, _ => x.elim
theorem All2.of {f : Fz} : ∀ {ps : List Pd} {vs : List Value}, ps.length = vs.length → (∀ (i : Nat) (P : Pd) (v : Value), ps[i]? = some P → vs[i]? = some v → P.p f v) → All2 f ps vs
  | [], [], _, _ => trivial
  | P :: ps, v :: vs, hl, h => ⟨h 0 P v (by simp) (by simp), All2.of (by simpa using hl) fun i P' v' hp hv => h (i + 1) P' v' (by simpa using hp) (by simpa using hv)⟩
  | [], _ :: _, hl, _ => by simp at hl
  | _ :: _, [], hl, _ => by simp at hl
theorem All2.snoc {f : Fz} {ps vs} {P : Pd} {v : Value} (x : All2 f ps vs) (h : P.p f v) : All2 f (ps ++ [P]) (vs ++ [v]) := x.append ⟨h, trivial⟩

noncomputable def seqIs (cls : String) (ps : List Pd) : Pd :=
  ⟨fun fz v => ∃ a o vs n, v = .ref a ∧ fz a = some o ∧ o.cls = .type cls ∧ o.data = .seq vs n ∧ All2 fz ps vs.toList,
   fun h ⟨a, o, vs, n, e1, e2, e3, e4, e5⟩ => ⟨a, o, vs, n, e1, h _ _ e2, e3, e4, e5.mono h⟩⟩
noncomputable def lst (ps : List Pd) : Pd := seqIs "list" ps
noncomputable def tup (ps : List Pd) : Pd := seqIs "tuple" ps

/-! ## the world that the law's call stands in -/
noncomputable def CodeF (fz : Fz) (cd : Value) (q : Str) : Prop := ∃ c o vs t, cd = .ref c ∧ fz c = some o ∧ o.data = .fields vs ∧ vs[1]? = some (.str q t)
/-- a code table of a def that holds one inner def: empty, or it knows the inner code -/
noncomputable def TabOk (fz : Fz) (h : Heap) (P : Addr) (q : Str) (pos : Pos) : Prop :=
  ∃ ps, h.get? P = some (tabObj ps) ∧ (ps = #[] ∨ ∃ c, ps = #[rawInt pos.line, rawInt pos.col, .ref c] ∧ CodeF fz (.ref c) q)

structure Cx where
  w : World
  h0 : Heap
  mg : Str → Option Value
  mb : Str → Option Value
  gens : Array GenState
  os : OsState
  t1 : Addr
  t2 : Addr
  q1 : Str
  q2 : Str
  pos1 : Pos
  pos2 : Pos
  c1 : Addr
  c2 : Addr
  g : h0.Ns mainGlobals mg
  b : h0.Ns builtinsNs mb
  nolimit : h0.NoLimit
  blt : ∀ x : Str, x ≠ "__name__" → mb x = bootBuiltins x
  hd1 : CodeHd h0 c1 t1
  hd2 : CodeHd h0 c2 t2
  bmain : ∃ bm ob, mg "__builtins__" = some (.ref bm) ∧ bm ≠ builtinsNs ∧ h0.get? bm = some ob ∧ ob.cls = .type "module" ∧ ob.dict = some builtinsNs ∧ ob.data = .plain

noncomputable abbrev M (C : Cx) : Model := model PySem.Challenge.pw_pe0133_01 C.w

structure Wf (C : Cx) (fz : Fz) (s : Shared) : Prop where
  base : ∀ a o, C.h0.get? a = some o → fz a = some o
  le : ∀ a o, fz a = some o → s.heap.get? a = some o
  n1 : fz C.t1 = none
  n2 : fz C.t2 = none
  ne : C.t1 ≠ C.t2
  tab1 : TabOk fz s.heap C.t1 C.q1 C.pos1
  tab2 : TabOk fz s.heap C.t2 C.q2 C.pos2
  gens : s.gens = C.gens
  os : s.os = C.os

theorem CodeF.mono {f g : Fz} {cd q} (h : FzLe f g) (x : CodeF f cd q) : CodeF g cd q :=
  let ⟨c, o, vs, t, e1, e2, e3, e4⟩ := x; ⟨c, o, vs, t, e1, h _ _ e2, e3, e4⟩
theorem CodeF.rec' {f : Fz} {h : Heap} {cd q} (le : ∀ a o, f a = some o → h.get? a = some o) (x : CodeF f cd q) : h.CodeRec cd q :=
  let ⟨c, o, vs, t, e1, e2, e3, e4⟩ := x; ⟨c, o, vs, t, e1, le _ _ e2, e3, e4⟩
theorem TabOk.mono {f g : Fz} {h h' : Heap} {P q pos} (hl : FzLe f g) (hk : ∀ o, h.get? P = some o → h'.get? P = some o) (x : TabOk f h P q pos) : TabOk g h' P q pos :=
  let ⟨ps, e, r⟩ := x; ⟨ps, hk _ e, r.imp id fun ⟨c, e1, e2⟩ => ⟨c, e1, e2.mono hl⟩⟩

/-- from (fz, s) to (fz', s'): nothing that stood has changed but the two code tables; what is frozen newly is new -/
structure Grow (C : Cx) (fz : Fz) (s : Shared) (fz' : Fz) (s' : Shared) : Prop where
  wf : Wf C fz' s'
  eq : ∀ a o, s.heap.get? a = some o → fz' a = fz a
  kp : ∀ a o, a ≠ C.t1 → a ≠ C.t2 → s.heap.get? a = some o → s'.heap.get? a = some o

section
variable {C : Cx} {fz fz' fz'' : Fz} {s s' s'' : Shared}
theorem Grow.refl (W : Wf C fz s) : Grow C fz s fz s := ⟨W, fun _ _ _ => rfl, fun _ _ _ _ e => e⟩
theorem Grow.le (W : Wf C fz s) (G : Grow C fz s fz' s') : FzLe fz fz' := fun a o e => (G.eq a o (W.le a o e)).trans e
theorem Grow.trans (W : Wf C fz s) (G : Grow C fz s fz' s') (G' : Grow C fz' s' fz'' s'') : Grow C fz s fz'' s'' := by
  refine ⟨G'.wf, fun a o e => ?_, fun a o h1 h2 e => G'.kp a o h1 h2 (G.kp a o h1 h2 e)⟩
  by_cases h1 : a = C.t1
  · subst h1; rw [G'.wf.n1, W.n1]
  · by_cases h2 : a = C.t2
    · subst h2; rw [G'.wf.n2, W.n2]
    · exact (G'.eq a o (G.kp a o h1 h2 e)).trans (G.eq a o e)
theorem Wf.toks (W : Wf C fz s) (t : Nat) : Wf C fz { s with toks := t } := ⟨W.base, W.le, W.n1, W.n2, W.ne, W.tab1, W.tab2, W.gens, W.os⟩
theorem Grow.toks (W : Wf C fz s) (t : Nat) : Grow C fz s fz { s with toks := t } := ⟨W.toks t, fun _ _ _ => rfl, fun _ _ _ _ e => e⟩
theorem Wf.ns_ne (W : Wf C fz s) {a : Addr} {m} (h : s.heap.Ns a m) : a ≠ C.t1 ∧ a ≠ C.t2 := by
  obtain ⟨o, es, ep, e, hd, _⟩ := h
  refine ⟨fun q => ?_, fun q => ?_⟩
  · obtain ⟨ps, e1, _⟩ := W.tab1; rw [← q, e] at e1; cases e1; cases hd
  · obtain ⟨ps, e1, _⟩ := W.tab2; rw [← q, e] at e1; cases e1; cases hd
theorem Wf.cell_ne (W : Wf C fz s) {a : Addr} {v} (h : s.heap.IsCell a v) : a ≠ C.t1 ∧ a ≠ C.t2 := by
  obtain ⟨o, e, hd⟩ := h
  refine ⟨fun q => ?_, fun q => ?_⟩
  · obtain ⟨ps, e1, _⟩ := W.tab1; rw [← q, e] at e1; cases e1; cases hd
  · obtain ⟨ps, e1, _⟩ := W.tab2; rw [← q, e] at e1; cases e1; cases hd
theorem Wf.seq_ne (W : Wf C fz s) {a : Addr} {o : Obj} {vs n} (e : s.heap.get? a = some o) (hd : o.data = .seq vs n) : a ≠ C.t1 ∧ a ≠ C.t2 := by
  refine ⟨fun q => ?_, fun q => ?_⟩
  · obtain ⟨ps, e1, _⟩ := W.tab1; rw [← q, e] at e1; cases e1; cases hd
  · obtain ⟨ps, e1, _⟩ := W.tab2; rw [← q, e] at e1; cases e1; cases hd
theorem Wf.keeps (W : Wf C fz s) : ∀ b o, C.h0.get? b = some o → s.heap.get? b = some o := fun b o e => W.le b o (W.base b o e)
theorem Wf.glob (W : Wf C fz s) : s.heap.Ns mainGlobals C.mg := C.g.keeps W.keeps
theorem Wf.blt (W : Wf C fz s) : s.heap.Ns builtinsNs C.mb := C.b.keeps W.keeps
theorem Wf.nolimit (W : Wf C fz s) : s.heap.NoLimit := C.nolimit.keeps W.keeps

/-- the state has changed by a heap that keeps everything that stood -/
theorem Grow.keep (W : Wf C fz s) {h' : Heap} {tk : Nat} (hk : ∀ b o, s.heap.get? b = some o → h'.get? b = some o) : Grow C fz s fz { s with heap := h', toks := tk } :=
  ⟨⟨W.base, fun a o e => hk a o (W.le a o e), W.n1, W.n2, W.ne, W.tab1.mono (.refl _) fun o e => hk _ o e, W.tab2.mono (.refl _) fun o e => hk _ o e, W.gens, W.os⟩,
   fun _ _ _ => rfl, fun a o _ _ e => hk a o e⟩

/-- freeze an object that is new -/
noncomputable def fadd (fz : Fz) (a : Addr) (o : Obj) : Fz := fun b => if b = a then some o else fz b
theorem fadd_self {a : Addr} {o : Obj} : fadd fz a o a = some o := if_pos rfl
theorem fadd_ne {a b : Addr} {o : Obj} (h : b ≠ a) : fadd fz a o b = fz b := if_neg h
theorem fadd_le {a : Addr} {o : Obj} (h : fz a = none) : FzLe fz (fadd fz a o) := fun b o' e => by
  rw [fadd_ne]; exact e
  intro q; subst q; rw [h] at e; cases e
theorem Wf.fadd (W : Wf C fz s) {a : Addr} {o : Obj} (e : s.heap.get? a = some o) (h : fz a = none) (h1 : a ≠ C.t1) (h2 : a ≠ C.t2) : Wf C (Mine.fadd fz a o) s :=
  ⟨fun b o' q => fadd_le h b o' (W.base b o' q), fun b o' q => by
    by_cases hb : b = a
    · subst hb; rw [fadd_self] at q; cases q; exact e
    · rw [fadd_ne hb] at q; exact W.le b o' q,
   by rw [fadd_ne h1.symm]; exact W.n1, by rw [fadd_ne h2.symm]; exact W.n2, W.ne, W.tab1.mono (fadd_le h) fun _ e => e, W.tab2.mono (fadd_le h) fun _ e => e, W.gens, W.os⟩

theorem Grow.fresh (W : Wf C fz s) {a : Addr} {o : Obj} {h' : Heap} {tk : Nat} (hk : ∀ b o, s.heap.get? b = some o → h'.get? b = some o)
    (hn : s.heap.get? a = none) (e : h'.get? a = some o) : Grow C fz s (Mine.fadd fz a o) { s with heap := h', toks := tk } := by
  have G := Grow.keep (tk := tk) W hk
  have hf : fz a = none := by
    cases q : fz a with
    | none => rfl
    | some o' => rw [W.le a o' q] at hn; cases hn
  have h1 : a ≠ C.t1 := fun q => by obtain ⟨ps, e1, _⟩ := W.tab1; rw [← q, hn] at e1; cases e1
  have h2 : a ≠ C.t2 := fun q => by obtain ⟨ps, e1, _⟩ := W.tab2; rw [← q, hn] at e1; cases e1
  refine ⟨G.wf.fadd e hf h1 h2, fun b o' eb => ?_, G.kp⟩
  rw [fadd_ne]
  rintro rfl
  rw [hn] at eb; cases eb
end

/-! ## variables -/
noncomputable def Slot (env : Env) (h : Heap) (x : Str) (ov : Option Value) : Prop :=
  (env.kindOf x = some .local ∧ ∃ m, h.Ns env.locals m ∧ m x = ov) ∨
  ((env.kindOf x = some .cell ∨ env.kindOf x = some .free) ∧ ∃ c, env.cells.lookup x = some c ∧ h.IsCell c ov)

structure EnvOk (env : Env) : Prop where
  kind : env.scope.kind = .function
  glob : env.globals = mainGlobals
  blt : env.builtins = builtinsNs

structure Fe (env : Env) (st : List (Str × Pd)) (fz : Fz) (h : Heap) : Prop where
  ok : EnvOk env
  var : ∀ x P, st.lookup x = some P → ∃ v, Slot env h x (some v) ∧ P.p fz v

section
variable {C : Cx} {fz fz' : Fz} {s s' : Shared} {env : Env} {st : List (Str × Pd)}
theorem Slot.grow {x : Str} {ov : Option Value} (W : Wf C fz s) (G : Grow C fz s fz' s') (h : Slot env s.heap x ov) : Slot env s'.heap x ov := by
  rcases h with ⟨hk, m, hn, hm⟩ | ⟨hk, c, hc, hv⟩
  · obtain ⟨h1, h2⟩ := W.ns_ne hn
    exact .inl ⟨hk, m, hn.at' fun o e => G.kp _ o h1 h2 e, hm⟩
  · obtain ⟨h1, h2⟩ := W.cell_ne hv
    obtain ⟨o, e, hd⟩ := hv
    exact .inr ⟨hk, c, hc, o, G.kp _ o h1 h2 e, hd⟩
theorem Fe.grow (W : Wf C fz s) (F : Fe env st fz s.heap) (G : Grow C fz s fz' s') : Fe env st fz' s'.heap :=
  ⟨F.ok, fun x P e => let ⟨v, hs, hp⟩ := F.var x P e; ⟨v, hs.grow W G, P.mono (G.le W) hp⟩⟩
end

noncomputable abbrev NoE : Value → Shared → Prop := fun _ _ => False
noncomputable def Rs (C : Cx) (fz : Fz) (s : Shared) (P : Pd) : Value → Shared → Prop := fun v s' => ∃ fz', Grow C fz s fz' s' ∧ P.p fz' v
noncomputable def Rb (C : Cx) (fz : Fz) (s : Shared) (b : Bool) : Bool → Shared → Prop := fun v s' => v = b ∧ ∃ fz', Grow C fz s fz' s'
noncomputable def Rl (C : Cx) (fz : Fz) (s : Shared) (ps : List Pd) : List Value → Shared → Prop := fun vs s' => ∃ fz', Grow C fz s fz' s' ∧ All2 fz' ps vs

noncomputable def Ev (C : Cx) (A : Around) (env : Env) (st : List (Str × Pd)) (e : Expr) (P : Pd) : Prop :=
  ∀ fz s, Wf C fz s → Fe env st fz s.heap → wpAny (M C) A (eval e env) (Rs C fz s P) NoE s
noncomputable def Tr (C : Cx) (A : Around) (env : Env) (st : List (Str × Pd)) (e : Expr) (b : Bool) : Prop :=
  ∀ fz s, Wf C fz s → Fe env st fz s.heap → wpAny (M C) A (isTrue e env (eval e env)) (Rb C fz s b) NoE s
noncomputable def Bin (C : Cx) (A : Around) (op : Operator) (P Q R : Pd) : Prop :=
  ∀ fz s v w, Wf C fz s → P.p fz v → Q.p fz w → wpAny (M C) A (binaryOp op v w) (Rs C fz s R) NoE s
noncomputable def Cmp (C : Cx) (A : Around) (op : CmpOp) (P Q : Pd) (b : Bool) : Prop :=
  ∀ fz s v w, Wf C fz s → P.p fz v → Q.p fz w → wpAny (M C) A (compareOp op v w) (Rs C fz s (boo b)) NoE s
noncomputable def Tt (C : Cx) (A : Around) (P : Pd) (b : Bool) : Prop :=
  ∀ fz s v, Wf C fz s → P.p fz v → wpAny (M C) A (truthy v) (Rb C fz s b) NoE s

section
variable {C : Cx} {A : Around} {fz fz₁ : Fz} {s s₁ : Shared} {env : Env} {st : List (Str × Pd)}
/-- go on behind a step -/
theorem step {α β : Type} {t : Sem α} {Q : α → Shared → Prop} {Q' : α → Shared → Prop} (h : wpAny (M C) A t Q NoE s) (k : ∀ a s', Q a s' → Q' a s') {E} : wpAny (M C) A t Q' E s :=
  wpAny_mono h k fun _ _ f => f.elim
theorem Rs.after {P : Pd} (W : Wf C fz s) (G : Grow C fz s fz₁ s₁) : ∀ v s', Rs C fz₁ s₁ P v s' → Rs C fz s P v s' := fun _ _ ⟨f, g, h⟩ => ⟨f, G.trans W g, h⟩
theorem Rb.after {b : Bool} (W : Wf C fz s) (G : Grow C fz s fz₁ s₁) : ∀ v s', Rb C fz₁ s₁ b v s' → Rb C fz s b v s' := fun _ _ ⟨e, f, g⟩ => ⟨e, f, G.trans W g⟩
theorem Rl.after {ps : List Pd} (W : Wf C fz s) (G : Grow C fz s fz₁ s₁) : ∀ v s', Rl C fz₁ s₁ ps v s' → Rl C fz s ps v s' := fun _ _ ⟨f, g, h⟩ => ⟨f, G.trans W g, h⟩
end
end Mine
end
/-! # part M2 -/
section
open PySem PySem.W PySem.Calls PyProof.Rows
set_option Elab.async false
set_option maxRecDepth 100000
set_option linter.unusedVariables false
namespace Mine
section
variable {C : Cx} {A : Around} {env : Env} {st : List (Str × Pd)}

/-! ## atoms -/
theorem Ev.cint {i : Int} {k pos} : Ev C A env st (.Constant (.int i) k pos) (int i) := fun fz s W _ =>
  wpAny_Constant_int ⟨fz, .toks W _, _, rfl⟩
theorem Ev.cstr {x : Str} {k pos} : Ev C A env st (.Constant (.str x) k pos) (str x) := fun fz s W _ =>
  wpAny_Constant_str ⟨fz, .toks W _, _, rfl⟩
theorem Ev.cbool {b : Bool} {k pos} : Ev C A env st (.Constant (.bool b) k pos) (boo b) := fun fz s W _ =>
  wpAny_Constant_bool ⟨fz, .refl W, rfl⟩
theorem Ev.cnone {k pos} : Ev C A env st (.Constant .none k pos) non := fun fz s W _ =>
  wpAny_Constant_none ⟨fz, .refl W, rfl⟩
theorem Ev.name {x : Str} {pos} {P : Pd} (h : st.lookup x = some P) (hd : (x == ("__debug__" : Str)) = false := by decide)
    (hc : (x == ("__classdict__" : Str)) = false := by decide) : Ev C A env st (.Name x pos) P := fun fz s W F => by
  obtain ⟨v, hs, hp⟩ := F.var x P h
  refine wpAny_Name ?_ hd
  rcases hs with ⟨hk, m, hn, hm⟩ | ⟨hk | hk, c, hcl, hv⟩
  · exact wpAny_loadName_local F.ok.kind hk hn hm ⟨fz, .refl W, hp⟩
  · exact wpAny_loadName_cell F.ok.kind hk hcl hv ⟨fz, .refl W, hp⟩
  · exact wpAny_loadName_free F.ok.kind hk hcl hv ⟨fz, .refl W, hp⟩ hc
theorem Ev.globals {x : Str} {pos} {v : Value} (hk : env.kindOf x = some .globalImplicit) (h : C.mg x = some v) (hd : (x == ("__debug__" : Str)) = false := by decide) :
    Ev C A env st (.Name x pos) (val v) := fun fz s W F =>
  Name_function_global F.ok.kind hk (loadGlobal_global (by rw [F.ok.glob]; exact W.glob) h ⟨fz, .refl W, rfl⟩) hd
theorem Ev.builtins {x : Str} {pos} {v : Value} (hk : env.kindOf x = some .globalImplicit) (h : C.mg x = none) (hb : bootBuiltins x = some v) (hn : x ≠ "__name__" := by decide)
    (hd : (x == ("__debug__" : Str)) = false := by decide) : Ev C A env st (.Name x pos) (val v) := fun fz s W F =>
  Name_function_global F.ok.kind hk (loadGlobal_builtin (by rw [F.ok.glob]; exact W.glob) h (by rw [F.ok.blt]; exact W.blt) ((C.blt x hn).trans hb) ⟨fz, .refl W, rfl⟩) hd
theorem Ev.weak {e : Expr} {P Q : Pd} (h : Ev C A env st e P) (hp : ∀ fz v, P.p fz v → Q.p fz v) : Ev C A env st e Q := fun fz s W F =>
  step (α := Value) (β := Value) (h fz s W F) fun v s' ⟨f, g, x⟩ => ⟨f, g, hp _ _ x⟩

/-! ## operators -/
theorem Ev.bin {l r : Expr} {op pos} {P Q R : Pd} (hl : Ev C A env st l P) (hr : Ev C A env st r Q) (ho : Bin C A op P Q R) : Ev C A env st (.BinOp l op r pos) R := fun fz s W F =>
  wpAny_BinOp (wpAny_mono (hl fz s W F) (fun a s₁ ⟨f₁, G₁, h₁⟩ => wpAny_mono (hr f₁ s₁ G₁.wf (F.grow W G₁)) (fun b s₂ ⟨f₂, G₂, h₂⟩ =>
    wpAny_mono (ho f₂ s₂ a b G₂.wf (P.mono (G₂.le G₁.wf) h₁) h₂) (fun v s₃ h => Rs.after W (G₁.trans W G₂) v s₃ h) fun _ _ e => e) fun _ _ e => e) fun _ _ e => e)
theorem Ev.cmp {l r : Expr} {op pos} {P Q : Pd} {b : Bool} (hl : Ev C A env st l P) (hr : Ev C A env st r Q) (ho : Cmp C A op P Q b) (hm : behindInMarks op r = false := by with_unfolding_all rfl) :
    Ev C A env st (.Compare l [op] [r] pos) (boo b) := fun fz s W F =>
  wpAny_Compare1 (wpAny_mono (hl fz s W F) (fun a s₁ ⟨f₁, G₁, h₁⟩ => wpAny_mono (hr f₁ s₁ G₁.wf (F.grow W G₁)) (fun b s₂ ⟨f₂, G₂, h₂⟩ =>
    wpAny_mono (ho f₂ s₂ a b G₂.wf (P.mono (G₂.le G₁.wf) h₁) h₂) (fun v s₃ h => Rs.after W (G₁.trans W G₂) v s₃ h) fun _ _ e => e) fun _ _ e => e) fun _ _ e => e) hm
theorem Tr.cmp {l r : Expr} {op pos} {P Q : Pd} {b : Bool} (hl : Ev C A env st l P) (hr : Ev C A env st r Q) (ho : Cmp C A op P Q b) (hm : behindInMarks op r = false := by with_unfolding_all rfl) :
    Tr C A env st (.Compare l [op] [r] pos) b := fun fz s W F =>
  wpAny_isTrue_Compare1 (wpAny_mono (hl fz s W F) (fun a s₁ ⟨f₁, G₁, h₁⟩ => wpAny_mono (hr f₁ s₁ G₁.wf (F.grow W G₁)) (fun b s₂ ⟨f₂, G₂, h₂⟩ =>
    wpAny_mono (ho f₂ s₂ a b G₂.wf (P.mono (G₂.le G₁.wf) h₁) h₂) (fun v s₃ ⟨f₃, G₃, h₃⟩ => by
      cases h₃; exact wpAny_truthy_bool ⟨rfl, f₃, (G₁.trans W G₂).trans W G₃⟩) fun _ _ e => e) fun _ _ e => e) fun _ _ e => e) hm
theorem Tr.value {e : Expr} {P : Pd} {b : Bool} (he : Ev C A env st e P) (ht : Tt C A P b)
    (hv : isTrue e env (eval e env) = (do let v ← eval e env; standAt e.pos; holding [v] (truthy v)) := by rfl) : Tr C A env st e b := fun fz s W F =>
  wpAny_isTrue_value (wpAny_mono (he fz s W F) (fun v s₁ ⟨f₁, G₁, h₁⟩ => wpAny_mono (ht f₁ s₁ v G₁.wf h₁) (fun v s₃ h => Rb.after W G₁ v s₃ h) fun _ _ e => e) fun _ _ e => e) hv
theorem Ev.ife {t x y : Expr} {pos} {b : Bool} {P : Pd} (ht : Tr C A env st t b) (hx : b = true → Ev C A env st x P) (hy : b = false → Ev C A env st y P) : Ev C A env st (.IfExp t x y pos) P := fun fz s W F =>
  wpAny_IfExp (wpAny_mono (ht fz s W F) (fun v s₁ ⟨e, f₁, G₁⟩ => by
    subst e
    cases v with
    | true => exact wpAny_mono (hx rfl f₁ s₁ G₁.wf (F.grow W G₁)) (fun v s₃ h => Rs.after W G₁ v s₃ h) fun _ _ e => e
    | false => exact wpAny_mono (hy rfl f₁ s₁ G₁.wf (F.grow W G₁)) (fun v s₃ h => Rs.after W G₁ v s₃ h) fun _ _ e => e) fun _ _ e => e)
theorem Tr.and {x y : Expr} {pos} {a b : Bool} (hx : Tr C A env st x a) (hy : a = true → Tr C A env st y b) (hb : a = false → b = false) : Tr C A env st (.BoolOp .And [x, y] pos) b := fun fz s W F =>
  wpAny_isTrue_BoolOp (wpAny_allTrue_And_cons (wpAny_mono (hx fz s W F) (fun v s₁ ⟨e, f₁, G₁⟩ => by
    subst e
    cases v with
    | false => exact ⟨(hb rfl).symm, f₁, G₁⟩
    | true => exact wpAny_allTrue_And_cons (wpAny_mono (hy rfl f₁ s₁ G₁.wf (F.grow W G₁)) (fun v s₂ ⟨e, f₂, G₂⟩ => by
        subst e
        cases v with
        | false => exact ⟨rfl, f₂, G₁.trans W G₂⟩
        | true => exact wpAny_allTrue_And_nil ⟨rfl, f₂, G₁.trans W G₂⟩) fun _ _ e => e)) fun _ _ e => e))
theorem Tr.or {x y : Expr} {pos} {a b : Bool} (hx : Tr C A env st x a) (hy : a = false → Tr C A env st y b) (hb : a = true → b = true) : Tr C A env st (.BoolOp .Or [x, y] pos) b := fun fz s W F =>
  wpAny_isTrue_BoolOp (wpAny_allTrue_Or_cons (wpAny_mono (hx fz s W F) (fun v s₁ ⟨e, f₁, G₁⟩ => by
    subst e
    cases v with
    | true => exact ⟨(hb rfl).symm, f₁, G₁⟩
    | false => exact wpAny_allTrue_Or_cons (wpAny_mono (hy rfl f₁ s₁ G₁.wf (F.grow W G₁)) (fun v s₂ ⟨e, f₂, G₂⟩ => by
        subst e
        cases v with
        | true => exact ⟨rfl, f₂, G₁.trans W G₂⟩
        | false => exact wpAny_allTrue_Or_nil ⟨rfl, f₂, G₁.trans W G₂⟩) fun _ _ e => e)) fun _ _ e => e))

/-! ## several expressions one behind the other -/
noncomputable def Evs (C : Cx) (A : Around) (env : Env) (st : List (Str × Pd)) (pos : Pos) (es : List Expr) (ps : List Pd) : Prop :=
  ∀ fz s, Wf C fz s → Fe env st fz s.heap → wpAny (M C) A (spliced (backTo pos (starEach es env))) (Rl C fz s ps) NoE s
theorem Evs.nil {pos} : Evs C A env st pos [] [] := fun fz s W F => wpAny_items_nil ⟨fz, .refl W, trivial⟩
theorem Evs.cons {pos} {e : Expr} {es : List Expr} {P : Pd} {ps : List Pd} (h : Evs C A env st pos es ps) (he : Ev C A env st e P) (hs : starEach (e :: es) env = (false, eval e env) :: starEach es env := by rfl) :
    Evs C A env st pos (e :: es) (P :: ps) := fun fz s W F =>
  wpAny_items_cons (wpAny_mono (he fz s W F) (fun a s₁ ⟨f₁, G₁, h₁⟩ => wpAny_mono (h f₁ s₁ G₁.wf (F.grow W G₁)) (fun vs s₂ ⟨f₂, G₂, h₂⟩ =>
    ⟨f₂, G₁.trans W G₂, P.mono (G₂.le G₁.wf) h₁, h₂⟩) fun _ _ e => e) fun _ _ e => e) hs

theorem Grow.seq {fz : Fz} {s : Shared} {cls : String} {vs : List Value} {ps : List Pd} {n : Nat} (W : Wf C fz s) (h : All2 fz ps vs) :
    Rs C fz s (seqIs cls ps) (.ref s.heap.objs.size) { s with heap := s.heap.push { cls := .type cls, data := .seq vs.toArray n } } := by
  have hk : ∀ b o, s.heap.get? b = some o → (s.heap.push { cls := .type cls, data := .seq vs.toArray n }).get? b = some o := fun b o e => Heap.get?_push_of_some _ e
  have hn : s.heap.get? s.heap.objs.size = none := by
    cases e : s.heap.get? s.heap.objs.size with
    | none => rfl
    | some o => exact absurd (Heap.lt_size e) (Nat.lt_irrefl _)
  have G := Grow.fresh (tk := s.toks) W hk hn (Heap.get?_push_size _ rfl)
  exact ⟨_, G, _, _, vs.toArray, n, rfl, fadd_self, rfl, rfl, by simpa using h.mono (G.le W)⟩

theorem Ev.list {es : List Expr} {pos} {ps : List Pd} (h : Evs C A env st pos es ps) (hl : ps.length ≤ sizeLine := by decide) : Ev C A env st (.List es pos) (lst ps) := fun fz s W F =>
  wpAny_List (wpAny_mono (h fz s W F) (fun vs s₁ ⟨f₁, G₁, h₁⟩ => ⟨h₁.length ▸ hl, Rs.after W G₁ _ _ (Grow.seq G₁.wf h₁)⟩) fun _ _ e => e)
theorem Ev.tuple {es : List Expr} {k pos} {ps : List Pd} (h : Evs C A env st pos es ps) (hl : ps.length ≤ sizeLine := by decide) : Ev C A env st (.Tuple es k pos) (tup ps) := fun fz s W F =>
  wpAny_Tuple (wpAny_mono (h fz s W F) (fun vs s₁ ⟨f₁, G₁, h₁⟩ => ⟨h₁.length ▸ hl, Rs.after W G₁ _ _ (Grow.seq G₁.wf h₁)⟩) fun _ _ e => e)

/-! ## subscripts -/
noncomputable def Sb (C : Cx) (A : Around) (slice : Expr) (P Q R : Pd) : Prop :=
  ∀ fz s v w (value : Expr), Wf C fz s → P.p fz v → Q.p fz w → wpAny (M C) A (subscriptTail value slice v w) (Rs C fz s R) NoE s
theorem Ev.sub {v i : Expr} {pos} {P Q R : Pd} (hv : Ev C A env st v P) (hi : Ev C A env st i Q) (ho : Sb C A i P Q R) : Ev C A env st (.Subscript v i pos) R := fun fz s W F =>
  Subscript_ (wpAny_mono (hv fz s W F) (fun a s₁ ⟨f₁, G₁, h₁⟩ => wpAny_mono (hi f₁ s₁ G₁.wf (F.grow W G₁)) (fun b s₂ ⟨f₂, G₂, h₂⟩ =>
    wpAny_mono (ho f₂ s₂ a b v G₂.wf (P.mono (G₂.le G₁.wf) h₁) h₂) (fun v s₃ h => Rs.after W (G₁.trans W G₂) v s₃ h) fun _ _ e => e) fun _ _ e => e) fun _ _ e => e)
/-- a slice object -/
noncomputable def slc (lo hi sp : Option Int) : Pd :=
  ⟨fun fz v => ∃ a o vl vu vs, v = .ref a ∧ fz a = some o ∧ o.cls = .type "slice" ∧ o.data = .fields #[vl, vu, vs] ∧ IsPart vl lo ∧ IsPart vu hi ∧ IsPart vs sp,
   fun h ⟨a, o, vl, vu, vs, e1, e2, r⟩ => ⟨a, o, vl, vu, vs, e1, h _ _ e2, r⟩⟩
noncomputable def EvP (C : Cx) (A : Around) (env : Env) (st : List (Str × Pd)) (e : Option Expr) (k : Option Int) : Prop :=
  ∀ fz s, Wf C fz s → Fe env st fz s.heap → wpAny (M C) A (evalPart e env) (fun v s' => IsPart v k ∧ ∃ fz', Grow C fz s fz' s') NoE s
theorem EvP.none : EvP C A env st none none := fun fz s W F => by rw [evalPart_none]; exact wpAny_pure ⟨.none, fz, .refl W⟩
theorem EvP.some {e : Expr} {i : Int} (h : Ev C A env st e (int i)) : EvP C A env st (some e) (some i) := fun fz s W F => by
  rw [evalPart_some]; exact wpAny_mono (h fz s W F) (fun v s' ⟨f, g, t, e⟩ => ⟨e ▸ .int i t, f, g⟩) fun _ _ e => e
theorem Ev.slice {l u p : Option Expr} {lo hi sp : Option Int} {pos} (hl : EvP C A env st l lo) (hu : EvP C A env st u hi) (hp : EvP C A env st p sp) : Ev C A env st (.Slice l u p pos) (slc lo hi sp) := fun fz s W F =>
  wpAny_Slice (wpAny_mono (hl fz s W F) (fun v₁ s₁ ⟨p₁, f₁, G₁⟩ => wpAny_mono (hu f₁ s₁ G₁.wf (F.grow W G₁)) (fun v₂ s₂ ⟨p₂, f₂, G₂⟩ =>
    wpAny_mono (hp f₂ s₂ G₂.wf (F.grow W (G₁.trans W G₂))) (fun v₃ s₃ ⟨p₃, f₃, G₃⟩ => by
      have hk : ∀ b o, s₃.heap.get? b = some o → (s₃.heap.push { cls := .type "slice", data := .fields #[v₁, v₂, v₃] }).get? b = some o := fun b o e => Heap.get?_push_of_some _ e
      have hn : s₃.heap.get? s₃.heap.objs.size = .none := by
        cases e : s₃.heap.get? s₃.heap.objs.size with
        | none => rfl
        | some o => exact absurd (Heap.lt_size e) (Nat.lt_irrefl _)
      have G := Grow.fresh (tk := s₃.toks) G₃.wf hk hn (Heap.get?_push_size _ rfl)
      exact ⟨_, ((G₁.trans W G₂).trans W G₃).trans W G, _, _, v₁, v₂, v₃, rfl, fadd_self, rfl, rfl, p₁, p₂, p₃⟩) fun _ _ e => e) fun _ _ e => e) fun _ _ e => e)

/-! ## calls -/
noncomputable def Cl (C : Cx) (A : Around) (f : Value) (ps : List Pd) (R : Pd) : Prop :=
  ∀ fz s vs, Wf C fz s → All2 fz ps vs → wpAny (M C) A (call f vs) (Rs C fz s R) NoE s
theorem Ev.callB {x : Str} {p pos} {id : String} {e : Expr} {es : List Expr} {ps : List Pd} {R : Pd} (hf : Ev C A env st (.Name x p) (val (.builtin id))) (ha : Evs C A env st pos (e :: es) ps) (hc : Cl C A (.builtin id) ps R)
    (he : backTo pos (starEach (e :: es) env) = (false, eval e env) :: backTo pos (starEach es env) := by rfl) (hp : (backTo pos (starEach es env)).any (·.1) = false := by rfl) :
    Ev C A env st (.Call (.Name x p) (e :: es) [] pos) R := fun fz s W F =>
  Call_Name rfl (wpAny_mono (hf fz s W F) (fun v s₁ ⟨f₁, G₁, h₁⟩ => by
    cases h₁
    have h2 := ha f₁ s₁ G₁.wf (F.grow W G₁)
    rw [he] at h2 ⊢
    refine callWith_builtin (by rw [List.any_cons, hp]; rfl) (evalArgs_plain (wpAny_mono h2 (fun vs s₂ ⟨f₂, G₂, h₂⟩ => ?_) fun _ _ e => e))
    exact wpAny_mono (hc f₂ s₂ vs G₂.wf h₂) (fun v s₃ h => Rs.after W (G₁.trans W G₂) v s₃ h) fun _ _ e => e) fun _ _ e => e)
theorem Ev.callT {x : Str} {p pos} {id : String} {e : Expr} {es : List Expr} {ps : List Pd} {R : Pd} (hf : Ev C A env st (.Name x p) (val (.type id))) (ha : Evs C A env st pos (e :: es) ps) (hc : Cl C A (.type id) ps R)
    (he : backTo pos (starEach (e :: es) env) = (false, eval e env) :: backTo pos (starEach es env) := by rfl) (hp : (backTo pos (starEach es env)).any (·.1) = false := by rfl) :
    Ev C A env st (.Call (.Name x p) (e :: es) [] pos) R := fun fz s W F =>
  Call_Name rfl (wpAny_mono (hf fz s W F) (fun v s₁ ⟨f₁, G₁, h₁⟩ => by
    cases h₁
    have h2 := ha f₁ s₁ G₁.wf (F.grow W G₁)
    rw [he] at h2 ⊢
    refine PySem.callWith_type (by rw [List.any_cons, hp]; rfl) (evalArgs_plain (wpAny_mono h2 (fun vs s₂ ⟨f₂, G₂, h₂⟩ => ?_) fun _ _ e => e))
    exact wpAny_mono (hc f₂ s₂ vs G₂.wf h₂) (fun v s₃ h => Rs.after W (G₁.trans W G₂) v s₃ h) fun _ _ e => e) fun _ _ e => e)
/-- a def of the text's own -/
noncomputable def IsFn (C : Cx) (a : Addr) (fd : FuncData) : Prop := ∃ o, C.h0.get? a = some o ∧ o.data = .func fd
theorem Ev.callF {x : Str} {p pos} {a : Addr} {fd : FuncData} {e : Expr} {es : List Expr} {ps : List Pd} {R : Pd} (hf : Ev C A env st (.Name x p) (val (.ref a))) (hfd : IsFn C a fd) (ha : Evs C A env st pos (e :: es) ps) (hc : Cl C A (.ref a) ps R)
    (he : backTo pos (starEach (e :: es) env) = (false, eval e env) :: backTo pos (starEach es env) := by rfl) :
    Ev C A env st (.Call (.Name x p) (e :: es) [] pos) R := fun fz s W F =>
  Call_Name rfl (wpAny_mono (hf fz s W F) (fun v s₁ ⟨f₁, G₁, h₁⟩ => by
    cases h₁
    have h2 := ha f₁ s₁ G₁.wf (F.grow W G₁)
    rw [he] at h2 ⊢
    obtain ⟨o, ho, hd⟩ := hfd
    refine callWith_function (o := o) (fd := fd) (evalArgs_plain (wpAny_mono h2 (fun vs s₂ ⟨f₂, G₂, h₂⟩ => ⟨⟨G₂.wf.keeps _ _ ho, hd⟩, ?_⟩) fun _ _ e => e))
    exact wpAny_mono (hc f₂ s₂ vs G₂.wf h₂) (fun v s₃ h => Rs.after W (G₁.trans W G₂) v s₃ h) fun _ _ e => e) fun _ _ e => e)
end
end Mine
end
/-! # part M3 -/
section
open PySem PySem.W PySem.Calls PyProof.Rows
set_option Elab.async false
set_option maxRecDepth 100000
set_option linter.unusedVariables false
namespace Mine
section
variable {C : Cx} {A : Around}

theorem All2.one {fz : Fz} {P : Pd} {vs : List Value} (h : All2 fz [P] vs) : ∃ v, vs = [v] ∧ P.p fz v := by
  cases vs with
  | nil => exact h.elim
  | cons v r => cases r with
    | nil => exact ⟨v, rfl, h.1⟩
    | cons _ _ => exact h.2.elim
theorem All2.two {fz : Fz} {P Q : Pd} {vs : List Value} (h : All2 fz [P, Q] vs) : ∃ v w, vs = [v, w] ∧ P.p fz v ∧ Q.p fz w := by
  cases vs with
  | nil => exact h.elim
  | cons v r => obtain ⟨w, rfl, hw⟩ := All2.one h.2; exact ⟨v, w, rfl, h.1, hw⟩
theorem All2.three {fz : Fz} {P Q R : Pd} {vs : List Value} (h : All2 fz [P, Q, R] vs) : ∃ u v w, vs = [u, v, w] ∧ P.p fz u ∧ Q.p fz v ∧ R.p fz w := by
  cases vs with
  | nil => exact h.elim
  | cons v r => obtain ⟨w, x, rfl, hw⟩ := All2.two h.2; exact ⟨v, w, x, rfl, h.1, hw⟩
/-! ## ints -/
section
variable {a b : Int}
theorem Bin.add : Bin C A .Add (int a) (int b) (int (a + b)) := fun fz s v w W ⟨t, e⟩ ⟨u, e'⟩ => by
  subst e e'; exact PyProof.Rows.add_int ⟨fz, .toks W _, _, rfl⟩
theorem Bin.sub : Bin C A .Sub (int a) (int b) (int (a - b)) := fun fz s v w W ⟨t, e⟩ ⟨u, e'⟩ => by
  subst e e'; exact PyProof.Rows.sub_int ⟨fz, .toks W _, _, rfl⟩
theorem Bin.mul (h : IntMulOk a b) : Bin C A .Mult (int a) (int b) (int (a * b)) := fun fz s v w W ⟨t, e⟩ ⟨u, e'⟩ => by
  subst e e'; exact PyProof.Rows.mul_int ⟨fz, .toks W _, _, rfl⟩ h
theorem Bin.fdiv (hb : b ≠ 0) (hp : Builtin.divisionGoesByPylong a b = false) : Bin C A .FloorDiv (int a) (int b) (int (a.fdiv b)) := fun fz s v w W ⟨t, e⟩ ⟨u, e'⟩ => by
  subst e e'; exact PyProof.Rows.floordiv_int hb ⟨fz, .toks W _, _, rfl⟩ (.inl hp)
theorem Bin.mod (hb : b ≠ 0) : Bin C A .Mod (int a) (int b) (int (a.fmod b)) := fun fz s v w W ⟨t, e⟩ ⟨u, e'⟩ => by
  subst e e'; exact PyProof.Rows.mod_int' hb ⟨fz, .toks W _, _, rfl⟩
theorem Bin.pow (hn : 0 ≤ b) (hz : (Builtin.Int.intBits a : Int) * b ≤ 2 ^ 27) : Bin C A .Pow (int a) (int b) (int (a ^ b.toNat)) := fun fz s v w W ⟨t, e⟩ ⟨u, e'⟩ => by
  subst e e'; exact PyProof.Rows.pow_int hn hz ⟨fz, .toks W _, _, rfl⟩
theorem Bin.shl (hn : 0 ≤ b) (hz : (Builtin.Int.intBits a : Int) + b ≤ 2 ^ 27) : Bin C A .LShift (int a) (int b) (int (a * 2 ^ b.toNat)) := fun fz s v w W ⟨t, e⟩ ⟨u, e'⟩ => by
  subst e e'; exact PyProof.Rows.lshift_int hn hz ⟨fz, .toks W _, _, rfl⟩
theorem Bin.shr (hn : 0 ≤ b) : Bin C A .RShift (int a) (int b) (int (a.fdiv (2 ^ b.toNat))) := fun fz s v w W ⟨t, e⟩ ⟨u, e'⟩ => by
  subst e e'; exact PyProof.Rows.rshift_int hn ⟨fz, .toks W _, _, rfl⟩
theorem Bin.xor : Bin C A .BitXor (int a) (int b) (int (Builtin.bitXor a b)) := fun fz s v w W ⟨t, e⟩ ⟨u, e'⟩ => by
  subst e e'; exact PyProof.Rows.xor_int ⟨fz, .toks W _, _, rfl⟩
theorem Cmp.lt : Cmp C A .Lt (int a) (int b) (decide (a < b)) := fun fz s v w W ⟨t, e⟩ ⟨u, e'⟩ => by
  subst e e'; exact PyProof.Rows.lt_int ⟨fz, .refl W, rfl⟩
theorem Cmp.le : Cmp C A .LtE (int a) (int b) (decide (a ≤ b)) := fun fz s v w W ⟨t, e⟩ ⟨u, e'⟩ => by
  subst e e'; exact PyProof.Rows.le_int ⟨fz, .refl W, rfl⟩
theorem Cmp.gt : Cmp C A .Gt (int a) (int b) (decide (b < a)) := fun fz s v w W ⟨t, e⟩ ⟨u, e'⟩ => by
  subst e e'; exact PyProof.Rows.gt_int ⟨fz, .refl W, rfl⟩
theorem Cmp.eq : Cmp C A .Eq (int a) (int b) (a == b) := fun fz s v w W ⟨t, e⟩ ⟨u, e'⟩ => by
  subst e e'; exact PyProof.Rows.eq_int ⟨fz, .refl W, rfl⟩
theorem Cmp.ne : Cmp C A .NotEq (int a) (int b) (a != b) := fun fz s v w W ⟨t, e⟩ ⟨u, e'⟩ => by
  subst e e'; exact PyProof.Rows.ne_int ⟨fz, .refl W, rfl⟩
theorem Tt.int : Tt C A (int a) (a != 0) := fun fz s v W ⟨t, e⟩ => by
  subst e; exact PySem.P.truthy_int ⟨rfl, fz, .refl W⟩
theorem Tt.boo {b : Bool} : Tt C A (boo b) b := fun fz s v W e => by
  cases e; exact wpAny_truthy_bool ⟨rfl, fz, .refl W⟩
theorem Cmp.isNone : Cmp C A .Is non non true := fun fz s v w W e e' => by
  cases e; cases e'; exact PySem.is_none ⟨fz, .refl W, rfl⟩
end

/-! ## texts -/
section
variable {x y : Str}
theorem Bin.addS (h : x.length + y.length ≤ sizeLine) : Bin C A .Add (str x) (str y) (str (x ++ y)) := fun fz s v w W ⟨t, e⟩ ⟨u, e'⟩ => by
  subst e e'; exact PyProof.Rows.add_str (fun t' tk => ⟨fz, .toks W _, _, rfl⟩) h
theorem Cmp.eqS : Cmp C A .Eq (str x) (str y) (x == y) := fun fz s v w W ⟨t, e⟩ ⟨u, e'⟩ => by
  subst e e'; exact PyProof.Rows.eq_str ⟨fz, .refl W, rfl⟩
theorem Cmp.neS : Cmp C A .NotEq (str x) (str y) (x != y) := fun fz s v w W ⟨t, e⟩ ⟨u, e'⟩ => by
  subst e e'; exact PyProof.Rows.ne_str ⟨fz, .refl W, rfl⟩
theorem Cmp.ltS : Cmp C A .Lt (str x) (str y) (decide (x.cps.toList < y.cps.toList)) := fun fz s v w W ⟨t, e⟩ ⟨u, e'⟩ => by
  subst e e'; exact PyProof.Rows.lt_str ⟨fz, .refl W, rfl⟩
theorem Cl.lenS (h : ¬ (x.length : Int) ≥ 2 ^ 63) : Cl C A (.builtin "len") [str x] (int x.length) := fun fz s vs W h2 => by
  obtain ⟨v, rfl, t, e⟩ := h2.one
  subst e; exact PyProof.Rows.len_str h ⟨fz, .toks W _, _, rfl⟩
/-- an item of a text -/
theorem Sb.strGet {slice : Expr} {i : Int} {c : Nat} (hr : (decide (i < -(2 ^ 63 : Int)) || decide (i ≥ 2 ^ 63)) = false) (hc : (seqIndex? i x.length).bind (x.cps[·]?) = some c)
    (hs : ∀ o i, ∃ ops, subscripted slice false o i = operate ops (getItem o i) := by intro _ _; exact ⟨_, rfl⟩) : Sb C A slice (str x) (int i) (str ⟨#[c]⟩) := fun fz s v w value W ⟨t, e⟩ ⟨u, e'⟩ => by
  subst e e'
  obtain ⟨ops, ho⟩ := hs (.str x t) (.int i u)
  exact tail_any (typeIs_str s x t) PySem.F.slot_str_getitem.lookup (PyProof.Rows.getItem_str hr hc ⟨fz, .toks W _, _, rfl⟩) ho
noncomputable def strSlice (x : Str) (lo hi sp : Option Int) : Str :=
  if (sp.getD 1 == 1 && (Builtin.Str.strSliceIndices lo hi (sp.getD 1) x.length).length == x.length) = true then x else ⟨((Builtin.Str.strSliceIndices lo hi (sp.getD 1) x.length).filterMap (x.cps[·]?)).toArray⟩
theorem part_value {v : Value} {k : Option Int} (h : IsPart v k) : ∃ q : Option (Int × Tok), v = partValue q ∧ q.map (·.1) = k := by
  cases h with
  | none => exact ⟨none, rfl, rfl⟩
  | int i t => exact ⟨some (i, t), rfl, rfl⟩
theorem Sb.strSlice {slice : Expr} {lo hi sp : Option Int} (h0 : (sp.getD 1 == 0) = false) (hz : (Mine.strSlice x lo hi sp).length ≤ sizeLine)
    (hs : ∀ o i, ∃ ops, subscripted slice false o i = operate ops (getItem o i) := by intro _ _; exact ⟨_, rfl⟩) : Sb C A slice (str x) (slc lo hi sp) (str (Mine.strSlice x lo hi sp)) := fun fz s v w value W ⟨t, e⟩ ⟨a, o, vl, vu, vs, e', hf, hc, hd, p1, p2, p3⟩ => by
  subst e e'
  obtain ⟨ops, ho⟩ := hs (.str x t) (.ref a)
  obtain ⟨q1, rfl, r1⟩ := part_value p1
  obtain ⟨q2, rfl, r2⟩ := part_value p2
  obtain ⟨q3, rfl, r3⟩ := part_value p3
  refine tail_any (typeIs_str s x t) PySem.F.slot_str_getitem.lookup (wpAny_getItem_str_slice (l := q1) (u := q2) (st := q3) ⟨o, W.le _ _ hf, hc, hd⟩ (by rw [r3]; exact h0) ?_) ho
  unfold sliceMade slicePicked
  unfold Mine.strSlice at hz ⊢
  rw [r1, r2, r3]
  split
  · rename_i h1
    rw [if_pos h1] at hz
    exact ⟨fz, .refl W, _, rfl⟩
  · rename_i h1
    rw [if_neg h1] at hz
    exact ⟨hz, fz, .toks W _, _, rfl⟩
end

/-! ## lists -/
section
variable {ps qs : List Pd}
theorem seq_list {fz : Fz} {s : Shared} {v : Value} (W : Wf C fz s) (h : (lst ps).p fz v) : ∃ a vs, v = .ref a ∧ s.heap.IsList a vs ∧ All2 fz ps vs.toList ∧ ∃ o n, fz a = some o ∧ o.cls = .type "list" ∧ o.data = .seq vs n :=
  let ⟨a, o, vs, n, e1, e2, e3, e4, e5⟩ := h; ⟨a, vs, e1, ⟨o, W.le _ _ e2, e3, n, e4⟩, e5, o, n, e2, e3, e4⟩
theorem seq_tup {fz : Fz} {s : Shared} {v : Value} (W : Wf C fz s) (h : (tup ps).p fz v) : ∃ a vs, v = .ref a ∧ IsTup s.heap a vs ∧ All2 fz ps vs.toList :=
  let ⟨a, o, vs, n, e1, e2, e3, e4, e5⟩ := h; ⟨a, vs, e1, ⟨o, W.le _ _ e2, e3, n, e4⟩, e5⟩
theorem Bin.addL (hz : ps.length + qs.length ≤ sizeLine) : Bin C A .Add (lst ps) (lst qs) (lst (ps ++ qs)) := fun fz s v w W ⟨a, o, vs, n, e1, e2, e3, e4, e5⟩ ⟨b, o', ws, n', f1, f2, f3, f4, f5⟩ => by
  subst e1 f1
  obtain ⟨cls, dd, data, sl⟩ := o
  obtain ⟨cls2, dd2, data2, sl2⟩ := o'
  simp only at e3 e4 f3 f4
  subst e3 e4 f3 f4
  have h1 := W.le _ _ e2
  have h2 := W.le _ _ f2
  refine concat_meets ⟨_, h1, rfl⟩ ⟨_, h2, rfl⟩ noFill_list_add seq_list_add PySem.F.slot_list_add PySem.F.entry_list_add (PySem.F.args_list_add_2 _ _) (list_addW a b vs ws n n' dd dd2 sl sl2 ?_) ⟨h1, h2, ?_⟩
  · rw [← Array.length_toList, ← Array.length_toList, ← e5.length, ← f5.length]; exact hz
  · have := Grow.seq (cls := "list") (n := 0) W (e5.append f5)
    rw [show (vs.toList ++ ws.toList).toArray = vs ++ ws by simp] at this
    exact this
theorem All2.rep {fz : Fz} {vs : List Value} (h : All2 fz ps vs) : ∀ k : Nat, All2 fz (List.replicate k ps).flatten (List.replicate k vs).flatten
  | 0 => trivial
  | k + 1 => by
    simp only [List.replicate_succ, List.flatten_cons]
    exact h.append (All2.rep h k)
theorem Bin.mulL {x : Int} (hlo : -(2 ^ 63 : Int) ≤ x) (hhi : x < 2 ^ 63) (hz : ps.length * x.toNat ≤ 2 ^ 24) : Bin C A .Mult (lst ps) (int x) (lst (List.replicate x.toNat ps).flatten) := fun fz s v w W ⟨a, o, vs, n, e1, e2, e3, e4, e5⟩ ⟨u, e'⟩ => by
  subst e1 e'
  obtain ⟨cls, dd, data, sl⟩ := o
  simp only at e3 e4
  subst e3 e4
  have h1 := W.le _ _ e2
  have hsz : vs.size * x.toNat ≤ 2 ^ 24 := by rw [← Array.length_toList, ← e5.length]; exact hz
  refine wpAny_binaryOp_repeat_ref (T := "list") (U := "int") (by decide) ⟨_, h1, rfl⟩ (fun s' => typeIs_int s' x u) noFill_list_mul PySem.F.fills_int_mul PySem.F.slot_int_rmul repeat_list PySem.F.slot_int_index.lookup
    (call_meets PySem.F.slot_int_rmul (typeIs_int s x u) PySem.F.entry_int_rmul (PySem.F.args_int_rmul_2 _ _) (lm_int_rmul_list_any x u a vs n dd sl)
      ⟨h1, rfl, ⟨_, h1, rfl⟩, call_meets PySem.F.slot_list_mul ⟨_, h1, rfl⟩ PySem.F.entry_list_mul (PySem.F.args_list_mul_2 _ _)
        (lm_list_mul_any a vs n dd sl x u (by simp [Builtin.List.listFitsIndex]; omega) (by omega) (by simp [Builtin.List.listTooLong, sizeLine]; omega))
        ⟨h1, ?_⟩⟩)
  have := Grow.seq (cls := "list") (n := 0) W (e5.rep x.toNat)
  have e : (List.foldl (fun x1 x2 => x1 ++ x2) #[] (List.replicate (if vs.isEmpty = true then 0 else x.toNat) vs)) = (List.replicate x.toNat vs.toList).flatten.toArray := by
    exact listMul_foldl_if vs x.toNat
  rw [e]
  exact this
theorem Cl.lenL (h : (ps.length : Int) < 2 ^ 63) : Cl C A (.builtin "len") [lst ps] (int ps.length) := fun fz s vs W h2 => by
  obtain ⟨v, rfl, h1⟩ := h2.one
  obtain ⟨a, vs, rfl, hl, h5, _⟩ := seq_list W h1
  have e : vs.size = ps.length := by rw [← Array.length_toList, h5.length]
  refine call_len_list hl (by rw [e]; exact h) ?_
  rw [e]
  exact ⟨fz, .toks W _, _, rfl⟩
theorem Tt.lst (h : (ps.length : Int) < 2 ^ 63) : Tt C A (lst ps) (!ps.isEmpty) := fun fz s v W h1 => by
  obtain ⟨a, vs, rfl, hl, h5, _⟩ := seq_list W h1
  have e : vs.size = ps.length := by rw [← Array.length_toList, h5.length]
  refine wpAny_truthy_list hl (by rw [e]; exact h) ⟨?_, fz, .toks W _⟩
  have h6 := h5.length
  cases ps <;> cases vs with | mk l => cases l <;> simp_all
theorem Tt.tup (h : (ps.length : Int) < 2 ^ 63) : Tt C A (tup ps) (!ps.isEmpty) := fun fz s v W h1 => by
  obtain ⟨a, vs, rfl, hl, h5⟩ := seq_tup W h1
  have e : vs.size = ps.length := by rw [← Array.length_toList, h5.length]
  refine truthy_tuple hl (by rw [e]; exact h) ⟨?_, fz, .toks W _⟩
  have h6 := h5.length
  cases ps <;> cases vs with | mk l => cases l <;> simp_all
theorem Sb.get {slice : Expr} {k : Int} {P : Pd} (h0 : 0 ≤ k) (hf : k < 2 ^ 63) (hp : ps[k.toNat]? = some P)
    (hs : ∀ o i, ∃ ops, subscripted slice false o i = operate ops (getItem o i) := by intro _ _; exact ⟨_, rfl⟩) : Sb C A slice (lst ps) (int k) P := fun fz s v w value W h1 ⟨u, e'⟩ => by
  subst e'
  obtain ⟨a, vs, rfl, hl, h5, _⟩ := seq_list W h1
  obtain ⟨ops, ho⟩ := hs (.ref a) (.int k u)
  obtain ⟨x, hx, hp'⟩ := h5.get hp
  exact tail_any hl.typeIs list_getitem_lookup (wpAny_getItem_list hl h0 hf (by simpa using hx) ⟨fz, .refl W, hp'⟩) ho
theorem Sb.getNeg {slice : Expr} {k : Int} {P : Pd} (h0 : k < 0) (h1 : -(ps.length : Int) ≤ k) (hf : -(2 ^ 63) ≤ k) (hp : ps[(k + ps.length).toNat]? = some P)
    (hs : ∀ o i, ∃ ops, subscripted slice false o i = operate ops (getItem o i) := by intro _ _; exact ⟨_, rfl⟩) : Sb C A slice (lst ps) (int k) P := fun fz s v w value W h1 ⟨u, e'⟩ => by
  subst e'
  obtain ⟨a, vs, rfl, hl, h5, _⟩ := seq_list W h1
  have e : vs.size = ps.length := by rw [← Array.length_toList, h5.length]
  obtain ⟨ops, ho⟩ := hs (.ref a) (.int k u)
  obtain ⟨x, hx, hp'⟩ := h5.get hp
  exact tail_any hl.typeIs list_getitem_lookup (wpAny_getItem_list_neg hl h0 (by rw [e]; assumption) hf (by rw [e]; simpa using hx) ⟨fz, .refl W, hp'⟩) ho
theorem Sb.tupGet {slice : Expr} {k : Int} {j : Nat} {P : Pd} (hlo : -(2 ^ 63) ≤ k) (hhi : k < 2 ^ 63) (hj : seqIndex? k ps.length = some j) (hp : ps[j]? = some P)
    (hs : ∀ o i, ∃ ops, subscripted slice false o i = operate ops (getItem o i) := by intro _ _; exact ⟨_, rfl⟩) : Sb C A slice (tup ps) (int k) P := fun fz s v w value W h1 ⟨u, e'⟩ => by
  subst e'
  obtain ⟨a, vs, rfl, hl, h5⟩ := seq_tup W h1
  have e : vs.size = ps.length := by rw [← Array.length_toList, h5.length]
  obtain ⟨ops, ho⟩ := hs (.ref a) (.int k u)
  obtain ⟨x, hx, hp'⟩ := h5.get hp
  exact tail_any hl.typeIs slot_tuple_getitem.lookup (PyProof.Rows.getItem_tuple hl hlo hhi (by rw [e]; exact hj) (by simpa using hx) ⟨fz, .refl W, hp'⟩) ho
/-- a cut of a list, as the program makes it -/
noncomputable def pick {α : Type} (xs : List α) (lo hi sp : Option Int) : List α :=
  (sliceRange (sliceBounds lo hi sp xs.length).1 (sliceBounds lo hi sp xs.length).2.1 (sliceBounds lo hi sp xs.length).2.2).filterMap (xs[·]?)
theorem All2.pickAt {fz : Fz} {vs : List Value} (h : All2 fz ps vs) : ∀ js : List Nat, All2 fz (js.filterMap (ps[·]?)) (js.filterMap (vs[·]?))
  | [] => trivial
  | j :: js => by
    have ih := All2.pickAt h js
    simp only [List.filterMap_cons]
    cases hp : ps[j]? with
    | none =>
      have : vs[j]? = none := by rw [List.getElem?_eq_none_iff] at hp ⊢; rw [← h.length]; exact hp
      rw [this]; exact ih
    | some P =>
      obtain ⟨v, hv, hpv⟩ := h.get hp
      rw [hv]; exact ⟨hpv, ih⟩
theorem All2.pick {fz : Fz} {vs : Array Value} {lo hi sp : Option Int} (h : All2 fz ps vs.toList) : All2 fz (Mine.pick ps lo hi sp) (slicePick vs lo hi sp).toList := by
  unfold Mine.pick slicePick
  have e : vs.size = ps.length := by rw [← Array.length_toList, h.length]
  rw [e]
  have := h.pickAt (sliceRange (sliceBounds lo hi sp ps.length).1 (sliceBounds lo hi sp ps.length).2.1 (sliceBounds lo hi sp ps.length).2.2)
  simpa using this
theorem Sb.slice {slice : Expr} {lo hi sp : Option Int} (h0 : sp ≠ some 0) (hz : ps.length ≤ sizeLine)
    (hs : ∀ o i, ∃ ops, subscripted slice false o i = operate ops (getItem o i) := by intro _ _; exact ⟨_, rfl⟩) : Sb C A slice (lst ps) (slc lo hi sp) (lst (Mine.pick ps lo hi sp)) := fun fz s v w value W h1 ⟨b, o, vl, vu, vs', e', hf, hc, hd, p1, p2, p3⟩ => by
  subst e'
  obtain ⟨a, vs, rfl, hl, h5, _⟩ := seq_list W h1
  have e : vs.size = ps.length := by rw [← Array.length_toList, h5.length]
  obtain ⟨ops, ho⟩ := hs (.ref a) (.ref b)
  refine tail_any hl.typeIs list_getitem_lookup (wpAny_getItem_list_slice hl ⟨o, W.le _ _ hf, hc, hd⟩ p1 p2 p3 h0 ?_ (by rw [e]; exact hz)) ho
  have := Grow.seq (cls := "list") (n := 0) W (h5.pick (lo := lo) (hi := hi) (sp := sp))
  rw [Array.toArray_toList] at this
  exact this
theorem Sb.tupFrom {slice : Expr} {k : Nat} (h1 : 1 ≤ k) (hk : k ≤ ps.length) (hz : ps.length ≤ sizeLine)
    (hs : ∀ o i, ∃ ops, subscripted slice false o i = operate ops (getItem o i) := by intro _ _; exact ⟨_, rfl⟩) : Sb C A slice (tup ps) (slc (some (k : Int)) none none) (tup (ps.drop k)) := fun fz s v w value W h1' ⟨b, o, vl, vu, vs', e', hf, hc, hd, p1, p2, p3⟩ => by
  subst e'
  obtain ⟨a, vs, rfl, hl, h5⟩ := seq_tup W h1'
  have e : vs.size = ps.length := by rw [← Array.length_toList, h5.length]
  obtain ⟨ops, ho⟩ := hs (.ref a) (.ref b)
  cases p1 with
  | int i t =>
    cases p2
    cases p3
    refine tail_any hl.typeIs slot_tuple_getitem.lookup (getItem_tuple_from (a := k) hl ⟨o, W.le _ _ hf, hc, hd⟩ h1 (by rw [e]; exact hk) ?_ (by rw [e]; exact hz)) ho
    have hd : All2 fz (ps.drop k) (vs.toList.drop k) := All2.of (by rw [List.length_drop, List.length_drop, h5.length]) fun i P v hp hv => by
      rw [List.getElem?_drop] at hp hv
      obtain ⟨v', hv', hp'⟩ := h5.get hp
      rw [hv] at hv'; cases hv'; exact hp'
    exact Grow.seq (cls := "tuple") (n := 0) W hd
end
end
end Mine
end
/-! # part M4 -/
section
open PySem PySem.W PySem.Calls PyProof.Rows
set_option Elab.async false
set_option maxRecDepth 100000
set_option linter.unusedVariables false
namespace Mine

/-! ## what a frame's names hold: a frozen thing, or a list of the frame's own -/
inductive Ent where
  | fix (P : Pd)
  | own (pl : Bool) (ps : List Pd)
noncomputable abbrev Store := List (Str × Ent)
noncomputable def anyP : Pd := ⟨fun _ _ => True, fun _ h => h⟩
noncomputable def seeF : Ent → Pd
  | .fix P => P
  | .own _ _ => anyP
noncomputable def seeA : Ent → Pd
  | .fix P => P
  | .own _ ps => lst ps
noncomputable def see (f : Ent → Pd) (st : Store) : List (Str × Pd) := st.map fun p => (p.1, f p.2)
theorem see_lookup (f : Ent → Pd) (x : Str) : ∀ st : Store, (see f st).lookup x = (st.lookup x).map f
  | [] => rfl
  | (y, e) :: r => by
    show List.lookup x ((y, f e) :: see f r) = _
    rw [List.lookup_cons, List.lookup_cons]
    cases x == y
    · exact see_lookup f x r
    · rfl
noncomputable abbrev listObj (vs : Array Value) (n : Nat) : Obj := { cls := .type "list", data := .seq vs n }

structure FmA (C : Cx) (env : Env) (st : Store) (ad : Str → Addr) (ex fz : Fz) (s : Shared) : Prop where
  ok : EnvOk env
  fix : ∀ x P, st.lookup x = some (.fix P) → ∃ v, Slot env s.heap x (some v) ∧ P.p fz v
  own : ∀ x pl ps, st.lookup x = some (.own pl ps) → Slot env s.heap x (some (.ref (ad x))) ∧ fz (ad x) = none ∧ ex (ad x) = none ∧ ∃ o vs n, s.heap.get? (ad x) = some o ∧ o.cls = .type "list" ∧ o.data = .seq vs n ∧ (pl = true → o = listObj vs n) ∧ All2 fz ps vs.toList
  apart : ∀ x y pl ps ql qs, x ≠ y → st.lookup x = some (.own pl ps) → st.lookup y = some (.own ql qs) → ad x ≠ ad y
  nl : fz env.locals = none
  nc : ∀ x c, env.kindOf x = some .cell → env.cells.lookup x = some c → fz c = none
  hasL : ∃ m, s.heap.Ns env.locals m
  hasC : ∀ x c, env.cells.lookup x = some c → ∃ v, s.heap.IsCell c v
  cells : ∀ x y c, env.cells.lookup x = some c → env.cells.lookup y = some c → x = y
  exle : ∀ a o, ex a = some o → s.heap.get? a = some o
  exL : ex env.locals = none
  exC : ∀ x c, env.kindOf x = some .cell → env.cells.lookup x = some c → ex c = none
noncomputable def Fm (C : Cx) (env : Env) (st : Store) (ex fz : Fz) (s : Shared) : Prop := ∃ ad, FmA C env st ad ex fz s

section
variable {C : Cx} {A : Around} {env : Env} {st st' : Store} {ad : Str → Addr} {ex fz fz' : Fz} {s s' : Shared}

theorem Slot.det {h : Heap} {x : Str} {a b : Option Value} (p : Slot env h x a) (q : Slot env h x b) : a = b := by
  rcases p with ⟨k, m, hn, hm⟩ | ⟨k, c, hc, hv⟩ <;> rcases q with ⟨k', m', hn', hm'⟩ | ⟨k', c', hc', hv'⟩
  · obtain ⟨o, es, ep, e, hd, _, hf⟩ := hn
    obtain ⟨o', es', ep', e', hd', _, hf'⟩ := hn'
    rw [e] at e'; cases e'; rw [hd] at hd'; cases hd'
    rw [← hm, ← hm', ← hf, ← hf']
  · rw [k] at k'; rcases k' with k' | k' <;> cases k'
  · rw [k'] at k; rcases k with k | k <;> cases k
  · rw [hc] at hc'; cases hc'
    obtain ⟨o, e, hd⟩ := hv
    obtain ⟨o', e', hd'⟩ := hv'
    rw [e] at e'; cases e'; rw [hd] at hd'; cases hd'; rfl

theorem FmA.grow (W : Wf C fz s) (F : FmA C env st ad ex fz s) (G : Grow C fz s fz' s') (hx : ∀ a o, ex a = some o → a ≠ C.t1 ∧ a ≠ C.t2) : FmA C env st ad ex fz' s' := by
  obtain ⟨m, hm⟩ := F.hasL
  have hL := W.ns_ne hm
  refine ⟨F.ok, fun x P h => ?_, fun x pl ps h => ?_, F.apart, ?_, fun x c hk h => ?_, ⟨m, hm.at' fun o e => G.kp _ o hL.1 hL.2 e⟩, fun x c h => ?_, F.cells, fun a o h => ?_, F.exL, F.exC⟩
  · obtain ⟨v, hs, hp⟩ := F.fix x P h
    exact ⟨v, hs.grow W G, P.mono (G.le W) hp⟩
  · obtain ⟨hs, hf, he, o, vs, n, hg, hc, hd, hpl, ha⟩ := F.own x pl ps h
    obtain ⟨h1, h2⟩ := W.seq_ne hg hd
    exact ⟨hs.grow W G, (G.eq _ _ hg).trans hf, he, o, vs, n, G.kp _ _ h1 h2 hg, hc, hd, hpl, ha.mono (G.le W)⟩
  · obtain ⟨o, _, _, e, _⟩ := hm
    exact (G.eq _ _ e).trans F.nl
  · obtain ⟨v, o, e, _⟩ := F.hasC x c h
    exact (G.eq _ _ e).trans (F.nc x c hk h)
  · obtain ⟨v, hv⟩ := F.hasC x c h
    obtain ⟨h1, h2⟩ := W.cell_ne hv
    obtain ⟨o, e, hd⟩ := hv
    exact ⟨v, o, G.kp _ o h1 h2 e, hd⟩
  · obtain ⟨h1, h2⟩ := hx a o h
    exact G.kp a o h1 h2 (F.exle a o h)

theorem FmA.feF (F : FmA C env st ad ex fz s) : Fe env (see seeF st) fz s.heap := ⟨F.ok, fun x P h => by
  rw [see_lookup] at h
  cases e : st.lookup x with
  | none => rw [e] at h; cases h
  | some en =>
    rw [e] at h
    cases en with
    | fix P' => cases h; exact F.fix x P' e
    | own pl ps => cases h; exact ⟨_, (F.own x pl ps e).1, trivial⟩⟩

/-- weaken what is known of the names -/
noncomputable def Sub (st' st : Store) : Prop := ∀ p ∈ st', st.lookup p.1 = some p.2
theorem Sub.look (h : Sub st' st) {x : Str} {e : Ent} (hx : st'.lookup x = some e) : st.lookup x = some e := h (x, e) (mem_of_lookup hx)
theorem FmA.sub (F : FmA C env st ad ex fz s) (h : Sub st' st) : FmA C env st' ad ex fz s :=
  ⟨F.ok, fun x P e => F.fix x P (h.look e), fun x pl ps e => F.own x pl ps (h.look e), fun x y pl ps ql qs n e e' => F.apart x y pl ps ql qs n (h.look e) (h.look e'), F.nl, F.nc, F.hasL, F.hasC, F.cells, F.exle, F.exL, F.exC⟩

/-- expressions, seen from a frame -/
noncomputable def SEv (C : Cx) (A : Around) (env : Env) (st : Store) (e : Expr) (P : Pd) : Prop :=
  ∀ ad ex fz s, Wf C fz s → FmA C env st ad ex fz s → wpAny (M C) A (eval e env) (Rs C fz s P) NoE s
noncomputable def STr (C : Cx) (A : Around) (env : Env) (st : Store) (e : Expr) (b : Bool) : Prop :=
  ∀ ad ex fz s, Wf C fz s → FmA C env st ad ex fz s → wpAny (M C) A (isTrue e env (eval e env)) (Rb C fz s b) NoE s
theorem SEv.fix {e : Expr} {P : Pd} (h : Ev C A env (see seeF st) e P) : SEv C A env st e P := fun ad ex fz s W F => h fz s W F.feF
theorem STr.fix {e : Expr} {b : Bool} (h : Tr C A env (see seeF st) e b) : STr C A env st e b := fun ad ex fz s W F => h fz s W F.feF

open Classical in
/-- the frame's own lists, frozen for the while -/
noncomputable def fplus (st : Store) (ad : Str → Addr) (h : Heap) (fz : Fz) : Fz := fun a => if ∃ x pl ps, st.lookup x = some (.own pl ps) ∧ ad x = a then h.get? a else fz a
open Classical in
noncomputable def fminus (st : Store) (ad : Str → Addr) (fz : Fz) : Fz := fun a => if ∃ x pl ps, st.lookup x = some (.own pl ps) ∧ ad x = a then none else fz a
theorem fplus_own {h : Heap} {x : Str} {pl ps} (e : st.lookup x = some (.own pl ps)) : fplus st ad h fz (ad x) = h.get? (ad x) := if_pos ⟨x, pl, ps, e, rfl⟩
theorem FmA.plus_le (W : Wf C fz s) (F : FmA C env st ad ex fz s) : FzLe fz (fplus st ad s.heap fz) := fun a o e => by
  unfold fplus
  split
  · exact W.le a o e
  · exact e
theorem FmA.plus (W : Wf C fz s) (F : FmA C env st ad ex fz s) : Wf C (fplus st ad s.heap fz) s := by
  have ne : ∀ x pl ps, st.lookup x = some (.own pl ps) → ad x ≠ C.t1 ∧ ad x ≠ C.t2 := fun x pl ps e => by
    obtain ⟨_, _, _, o, vs, n, hg, hc, hd, _⟩ := F.own x pl ps e
    exact W.seq_ne hg hd
  refine ⟨fun a o e => F.plus_le W a o (W.base a o e), fun a o e => ?_, ?_, ?_, W.ne, W.tab1.mono (F.plus_le W) fun _ e => e, W.tab2.mono (F.plus_le W) fun _ e => e, W.gens, W.os⟩
  · unfold fplus at e
    split at e
    · exact e
    · exact W.le a o e
  · unfold fplus
    rw [if_neg]
    · exact W.n1
    · rintro ⟨x, pl, ps, e, q⟩; exact (ne x pl ps e).1 q
  · unfold fplus
    rw [if_neg]
    · exact W.n2
    · rintro ⟨x, pl, ps, e, q⟩; exact (ne x pl ps e).2 q
theorem FmA.feA (W : Wf C fz s) (F : FmA C env st ad ex fz s) : Fe env (see seeA st) (fplus st ad s.heap fz) s.heap := ⟨F.ok, fun x P h => by
  rw [see_lookup] at h
  cases e : st.lookup x with
  | none => rw [e] at h; cases h
  | some en =>
    rw [e] at h
    cases en with
    | fix P' =>
      cases h
      obtain ⟨v, hs, hp⟩ := F.fix x P' e
      exact ⟨v, hs, P'.mono (F.plus_le W) hp⟩
    | own pl ps =>
      cases h
      obtain ⟨hs, hf, he, o, vs, n, hg, hc, hd, hpl, ha⟩ := F.own x pl ps e
      exact ⟨_, hs, ad x, o, vs, n, rfl, (fplus_own e).trans hg, hc, hd, ha.mono (F.plus_le W)⟩⟩
/-- and thawed again -/
theorem FmA.minus (W : Wf C fz s) (F : FmA C env st ad ex fz s) (G : Grow C (fplus st ad s.heap fz) s fz' s') : Grow C fz s (fminus st ad fz') s' := by
  have W' := G.wf
  have ownd : ∀ x pl ps, st.lookup x = some (.own pl ps) → ∃ o vs n, s'.heap.get? (ad x) = some o ∧ o.data = .seq vs n ∧ fz (ad x) = none := fun x pl ps e => by
    obtain ⟨_, hf, _, o, vs, n, hg, hc, hd, _⟩ := F.own x pl ps e
    obtain ⟨h1, h2⟩ := W.seq_ne hg hd
    exact ⟨o, vs, n, G.kp _ _ h1 h2 hg, hd, hf⟩
  have le : FzLe (fminus st ad fz') fz' := fun a o e => by
    unfold fminus at e
    split at e
    · cases e
    · exact e
  have eqs : ∀ a o, s.heap.get? a = some o → fminus st ad fz' a = fz a := fun a o e => by
    unfold fminus
    split
    · rename_i h
      obtain ⟨x, pl, ps, ex, rfl⟩ := h
      obtain ⟨_, _, _, _, _, hf⟩ := ownd x pl ps ex
      exact hf.symm
    · rename_i h
      rw [G.eq a o e]
      unfold fplus
      rw [if_neg h]
  have code : ∀ cd q, CodeF fz' cd q → CodeF (fminus st ad fz') cd q := fun cd q ⟨c, o, vs, t, e1, e2, e3, e4⟩ => by
    refine ⟨c, o, vs, t, e1, ?_, e3, e4⟩
    unfold fminus
    rw [if_neg]
    · exact e2
    · rintro ⟨x, pl, ps, e, rfl⟩
      obtain ⟨o', vs', n, hg, hd, _⟩ := ownd x pl ps e
      rw [W'.le _ _ e2] at hg
      cases hg
      rw [hd] at e3
      cases e3
  refine ⟨⟨fun a o e => ?_, fun a o e => W'.le a o (le a o e), ?_, ?_, W'.ne, ?_, ?_, W'.gens, W'.os⟩, eqs, G.kp⟩
  · rw [eqs a o (W.keeps a o e)]; exact W.base a o e
  · cases e : fminus st ad fz' C.t1 with
    | none => rfl
    | some o => have := le _ _ e; rw [W'.n1] at this; cases this
  · cases e : fminus st ad fz' C.t2 with
    | none => rfl
    | some o => have := le _ _ e; rw [W'.n2] at this; cases this
  · obtain ⟨ps, h1, h2⟩ := W'.tab1
    exact ⟨ps, h1, h2.imp id fun ⟨c, e1, e2⟩ => ⟨c, e1, code _ _ e2⟩⟩
  · obtain ⟨ps, h1, h2⟩ := W'.tab2
    exact ⟨ps, h1, h2.imp id fun ⟨c, e1, e2⟩ => ⟨c, e1, code _ _ e2⟩⟩
noncomputable def Flat (P : Pd) : Prop := ∀ f g v, P.p f v → P.p g v
theorem Flat.int {i : Int} : Flat (int i) := fun _ _ _ h => h
theorem Flat.str {x : Str} : Flat (str x) := fun _ _ _ h => h
theorem Flat.boo {b : Bool} : Flat (boo b) := fun _ _ _ h => h
theorem Flat.non : Flat non := fun _ _ _ h => h
theorem SEv.flat {e : Expr} {P : Pd} (h : Ev C A env (see seeA st) e P) (hp : Flat P) : SEv C A env st e P := fun ad ex fz s W F =>
  wpAny_mono (h _ s (F.plus W) (F.feA W)) (fun v s' ⟨f, G, x⟩ => ⟨_, F.minus W G, hp _ _ _ x⟩) fun _ _ e => e
theorem STr.flat {e : Expr} {b : Bool} (h : Tr C A env (see seeA st) e b) : STr C A env st e b := fun ad ex fz s W F =>
  wpAny_mono (h _ s (F.plus W) (F.feA W)) (fun v s' ⟨e, f, G⟩ => ⟨e, _, F.minus W G⟩) fun _ _ e => e
end

/-! ## statements -/
inductive Fl where
  | next | brk | cont
  | ret (P : Pd)
noncomputable def FlIs (fz : Fz) : Flow → Fl → Prop
  | .next, .next => True
  | .brk, .brk => True
  | .cont, .cont => True
  | .ret v, .ret P => P.p fz v
  | _, _ => False
noncomputable def ExOk (C : Cx) (ex : Fz) : Prop := ∀ a o, ex a = some o → a ≠ C.t1 ∧ a ≠ C.t2
/-- what was frozen stays frozen; what is guarded is not frozen -/
noncomputable def Kx (ex fz fz' : Fz) : Prop := (∀ a o, ex a = some o → fz' a = fz a) ∧ FzLe fz fz'
theorem Kx.refl (ex fz : Fz) : Kx ex fz fz := ⟨fun _ _ _ => rfl, .refl _⟩
theorem Kx.trans {ex f g h : Fz} (a : Kx ex f g) (b : Kx ex g h) : Kx ex f h := ⟨fun x o e => (b.1 x o e).trans (a.1 x o e), a.2.trans b.2⟩
theorem FmA.kx {C : Cx} {env : Env} {st : Store} {ad : Str → Addr} {ex fz fz' : Fz} {s s' : Shared} (W : Wf C fz s) (F : FmA C env st ad ex fz s) (G : Grow C fz s fz' s') : Kx ex fz fz' := ⟨fun a o e => G.eq a o (F.exle a o e), G.le W⟩
noncomputable def Post (C : Cx) (env : Env) (R : Fl → Store → Prop) (ex fz : Fz) (fl : Flow) (s' : Shared) : Prop :=
  ∃ r st' fz', R r st' ∧ FlIs fz' fl r ∧ Wf C fz' s' ∧ Fm C env st' ex fz' s' ∧ Kx ex fz fz'
noncomputable def Ex (C : Cx) (A : Around) (env : Env) (body : List Stmt) (st : Store) (R : Fl → Store → Prop) : Prop :=
  ∀ ex fz s, ExOk C ex → Wf C fz s → Fm C env st ex fz s → wpAny (M C) A (execs body env) (Post C env R ex fz) NoE s
noncomputable def Ex1 (C : Cx) (A : Around) (env : Env) (b : Stmt) (st : Store) (R : Fl → Store → Prop) : Prop :=
  ∀ ex fz s, ExOk C ex → Wf C fz s → Fm C env st ex fz s → wpAny (M C) A (exec b env) (Post C env R ex fz) NoE s

section
variable {C : Cx} {A : Around} {env : Env} {st st' : Store} {R R' : Fl → Store → Prop}
theorem Ex.nil (h : R .next st) : Ex C A env [] st R := fun ex fz s _ W F => wpAny_execs_nil ⟨.next, st, fz, h, trivial, W, F, .refl _ _⟩
theorem Ex.cons {b : Stmt} {rest : List Stmt} {R₁ : Fl → Store → Prop} (h : Ex1 C A env b st R₁) (hn : ∀ st', R₁ .next st' → Ex C A env rest st' R) (ho : ∀ r st', R₁ r st' → r ≠ .next → R r st') :
    Ex C A env (b :: rest) st R := fun ex fz s hx W F =>
  wpAny_execs_cons (wpAny_mono (h ex fz s hx W F) (fun fl s₁ ⟨r, st₁, f₁, hr, hf, W₁, F₁, hq⟩ => by
    cases fl with
    | next =>
      cases r with
      | next => exact wpAny_mono (hn st₁ hr ex f₁ s₁ hx W₁ F₁) (fun fl s₂ ⟨r, st₂, f₂, a1, a2, a3, a4, a5⟩ => ⟨r, st₂, f₂, a1, a2, a3, a4, hq.trans a5⟩) fun _ _ e => e
      | _ => exact hf.elim
    | brk => cases r with
      | brk => exact ⟨_, st₁, f₁, ho _ _ hr (by intro e; cases e), hf, W₁, F₁, hq⟩
      | _ => exact hf.elim
    | cont => cases r with
      | cont => exact ⟨_, st₁, f₁, ho _ _ hr (by intro e; cases e), hf, W₁, F₁, hq⟩
      | _ => exact hf.elim
    | ret v => cases r with
      | ret P => exact ⟨_, st₁, f₁, ho _ _ hr (by intro e; cases e), hf, W₁, F₁, hq⟩
      | _ => exact hf.elim) fun _ _ e => e)
theorem Ex.sub {body : List Stmt} (hs : Sub st' st) (h : Ex C A env body st' R) : Ex C A env body st R := fun ex fz s hx W ⟨ad, F⟩ => h ex fz s hx W ⟨ad, F.sub hs⟩
theorem Ex.mono {body : List Stmt} (h : Ex C A env body st R) (hr : ∀ r st', R r st' → R' r st') : Ex C A env body st R' := fun ex fz s hx W F =>
  wpAny_mono (h ex fz s hx W F) (fun fl s₁ ⟨r, st₁, f₁, a1, a2⟩ => ⟨r, st₁, f₁, hr _ _ a1, a2⟩) fun _ _ e => e
theorem Ex1.mono {b : Stmt} (h : Ex1 C A env b st R) (hr : ∀ r st', R r st' → R' r st') : Ex1 C A env b st R' := fun ex fz s hx W F =>
  wpAny_mono (h ex fz s hx W F) (fun fl s₁ ⟨r, st₁, f₁, a1, a2⟩ => ⟨r, st₁, f₁, hr _ _ a1, a2⟩) fun _ _ e => e
/-- the usual row: it goes on with one store -/
noncomputable def Nx (st' : Store) : Fl → Store → Prop := fun r st => r = .next ∧ st = st'
theorem Ex.step {b : Stmt} {rest : List Stmt} (h : Ex1 C A env b st (Nx st')) (hn : Ex C A env rest st' R) : Ex C A env (b :: rest) st R :=
  Ex.cons h (fun _ e => e.2 ▸ hn) fun r _ e hr => absurd e.1 hr
theorem Ex1.ret {e : Expr} {pos} {P : Pd} (h : SEv C A env st e P) : Ex1 C A env (.Return (some e) pos) st (fun r st' => r = .ret P ∧ st' = st) := fun ex fz s hx W ⟨ad, F⟩ =>
  wpAny_Return_some (wpAny_mono (h ad ex fz s W F) (fun v s₁ ⟨f₁, G, hp⟩ => ⟨.ret P, st, f₁, ⟨rfl, rfl⟩, hp, G.wf, ⟨ad, F.grow W G hx⟩, F.kx W G⟩) fun _ _ e => e)
theorem Ex.ret {e : Expr} {pos} {rest : List Stmt} {P : Pd} (h : SEv C A env st e P) (hr : R (.ret P) st) : Ex C A env (.Return (some e) pos :: rest) st R :=
  Ex.cons (Ex1.ret h) (fun _ e => by cases e.1) fun r st' e _ => by rw [e.1, e.2]; exact hr
theorem Ex1.ite {t : Expr} {x y : List Stmt} {pos} {b : Bool} (ht : STr C A env st t b) (hx : b = true → Ex C A env x st R) (hy : b = false → Ex C A env y st R) : Ex1 C A env (.If t x y pos) st R := fun ex fz s ho W ⟨ad, F⟩ =>
  wpAny_If (wpAny_mono (ht ad ex fz s W F) (fun v s₁ ⟨e, f₁, G⟩ => by
    subst e
    have F₁ : Fm C env st ex f₁ s₁ := ⟨ad, F.grow W G ho⟩
    have hq := F.kx W G
    cases v with
    | true => exact wpAny_mono (hx rfl ex f₁ s₁ ho G.wf F₁) (fun fl s₂ ⟨r, st₂, f₂, a1, a2, a3, a4, a5⟩ => ⟨r, st₂, f₂, a1, a2, a3, a4, hq.trans a5⟩) fun _ _ e => e
    | false => exact wpAny_mono (hy rfl ex f₁ s₁ ho G.wf F₁) (fun fl s₂ ⟨r, st₂, f₂, a1, a2, a3, a4, a5⟩ => ⟨r, st₂, f₂, a1, a2, a3, a4, hq.trans a5⟩) fun _ _ e => e) fun _ _ e => e)
end
end Mine
end
/-! # part M5 -/
section
open PySem PySem.W PySem.Calls PyProof.Rows
set_option Elab.async false
set_option maxRecDepth 100000
set_option linter.unusedVariables false
namespace Mine
section
variable {C : Cx} {A : Around} {env : Env} {st st' : Store} {ad : Str → Addr} {ex fz fz' : Fz} {s s' : Shared}

/-! ## storing into a name -/
noncomputable def StOk (env : Env) (x : Str) : Prop := env.kindOf x = some .local ∨ (env.kindOf x = some .cell ∧ ∃ c, env.cells.lookup x = some c)
structure Stored (C : Cx) (env : Env) (st : Store) (x : Str) (v : Value) (ex fz : Fz) (s s' : Shared) : Prop where
  wf : Wf C fz s'
  slot : Slot env s'.heap x (some v)
  others : ∀ y ov, y ≠ x → Slot env s.heap y ov → Slot env s'.heap y ov
  keepX : ∀ a o, ex a = some o → s'.heap.get? a = some o
  keepQ : ∀ a o vs n, s.heap.get? a = some o → o.data = .seq vs n → s'.heap.get? a = some o
  hasL : ∃ m, s'.heap.Ns env.locals m
  hasC : ∀ x c, env.cells.lookup x = some c → ∃ v, s'.heap.IsCell c v

theorem Wf.set (W : Wf C fz s) {a : Addr} {h' : Heap} {tk : Nat} (hs : Heap.SameBut a s.heap h') (hf : fz a = none) (h1 : a ≠ C.t1) (h2 : a ≠ C.t2) : Wf C fz { s with heap := h', toks := tk } :=
  ⟨W.base, fun b o e => (hs.2 b (by rintro rfl; rw [hf] at e; cases e)).trans (W.le b o e), W.n1, W.n2, W.ne,
   W.tab1.mono (.refl _) fun o e => (hs.2 _ h1.symm).trans e, W.tab2.mono (.refl _) fun o e => (hs.2 _ h2.symm).trans e, W.gens, W.os⟩

theorem stored {x : Str} {v : Value} {Q : Unit → Shared → Prop} {E : Value → Shared → Prop} (W : Wf C fz s) (F : FmA C env st ad ex fz s) (hk : StOk env x)
    (h : ∀ s', Stored C env st x v ex fz s s' → Q () s') : wpAny (M C) A (storeName env x v) Q E s := by
  obtain ⟨m, hm⟩ := F.hasL
  have hL := W.ns_ne hm
  rcases hk with hk | ⟨hk, c, hc⟩
  · refine wpAny_storeName_local hk hm (fun h' hn hs => h _ ⟨W.set hs F.nl hL.1 hL.2, .inl ⟨hk, _, hn, by simp⟩, fun y ov hy hsl => ?_, fun a o e => ?_, fun a o vs n e hd => ?_, ⟨_, hn⟩, fun y d hd => ?_⟩)
      (by rw [F.ok.kind]; rfl)
    · rcases hsl with ⟨k, m', hn', hm'⟩ | ⟨k, d, hd, hv⟩
      · refine .inl ⟨k, _, hn, ?_⟩
        rw [if_neg hy]
        have := Slot.det (.inl ⟨k, m, hm, rfl⟩) (.inl ⟨k, m', hn', hm'⟩)
        exact this
      · refine .inr ⟨k, d, hd, hv.sameBut hs ?_⟩
        rintro rfl
        obtain ⟨o, e, q⟩ := hv
        obtain ⟨o', _, _, e', q', _⟩ := hm
        rw [e] at e'; cases e'; rw [q] at q'; cases q'
    · exact (hs.2 a (by rintro rfl; rw [F.exL] at e; cases e)).trans (F.exle a o e)
    · refine (hs.2 a ?_).trans e
      rintro rfl
      obtain ⟨o', _, _, e', q', _⟩ := hm
      rw [e] at e'; cases e'; rw [hd] at q'; cases q'
    · obtain ⟨w, hw⟩ := F.hasC y d hd
      refine ⟨w, hw.sameBut hs ?_⟩
      rintro rfl
      obtain ⟨o, e, q⟩ := hw
      obtain ⟨o', _, _, e', q', _⟩ := hm
      rw [e] at e'; cases e'; rw [q] at q'; cases q'
  · obtain ⟨v₀, hv₀⟩ := F.hasC x c hc
    have hcn := W.cell_ne hv₀
    refine wpAny_storeName_cell F.ok.kind hk hc hv₀ fun h' hcell hs => h _ ⟨W.set (tk := s.toks) hs (F.nc x c hk hc) hcn.1 hcn.2, .inr ⟨.inl hk, c, hc, hcell⟩, fun y ov hy hsl => ?_, fun a o e => ?_, fun a o vs n e hd => ?_, ?_, fun y d hd => ?_⟩
    · rcases hsl with ⟨k, m', hn', hm'⟩ | ⟨k, d, hd, hv⟩
      · refine .inl ⟨k, m', hn'.sameBut hs ?_, hm'⟩
        rintro rfl
        obtain ⟨o, e, q⟩ := hv₀
        obtain ⟨o', _, _, e', q', _⟩ := hn'
        rw [e] at e'; cases e'; rw [q] at q'; cases q'
      · refine .inr ⟨k, d, hd, hv.sameBut hs ?_⟩
        rintro rfl
        exact hy (F.cells _ _ _ hd hc)
    · exact (hs.2 a (by rintro rfl; rw [F.exC x _ hk hc] at e; cases e)).trans (F.exle a o e)
    · refine (hs.2 a ?_).trans e
      rintro rfl
      obtain ⟨o', e', q'⟩ := hv₀
      rw [e] at e'; cases e'; rw [hd] at q'; cases q'
    · refine ⟨m, hm.sameBut hs ?_⟩
      rintro rfl
      obtain ⟨o, e, q⟩ := hv₀
      obtain ⟨o', _, _, e', q', _⟩ := hm
      rw [e] at e'; cases e'; rw [q] at q'; cases q'
    · obtain ⟨w, hw⟩ := F.hasC y d hd
      by_cases hdc : d = c
      · subst hdc; exact ⟨_, hcell⟩
      · exact ⟨w, hw.sameBut hs hdc⟩

theorem lookup_cons_ne {x y : Str} {e : Ent} (h : y ≠ x) : List.lookup y ((x, e) :: st) = st.lookup y := by
  rw [List.lookup_cons]
  have : (y == x) = false := by simpa using h
  rw [this]
theorem lookup_cons_self {x : Str} {e : Ent} : List.lookup x ((x, e) :: st) = some e := by
  rw [List.lookup_cons]; simp

theorem FmA.bindFix {x : Str} {v : Value} {P : Pd} (F : FmA C env st ad ex fz s) (S : Stored C env st x v ex fz s s') (hp : P.p fz v) : FmA C env ((x, .fix P) :: st) ad ex fz s' := by
  refine ⟨F.ok, fun y Q h => ?_, fun y pl ps h => ?_, fun y z pl ps ql qs hyz h h' => ?_, F.nl, F.nc, S.hasL, S.hasC, F.cells, S.keepX, F.exL, F.exC⟩
  · by_cases hy : y = x
    · subst hy; rw [lookup_cons_self] at h; cases h; exact ⟨v, S.slot, hp⟩
    · rw [lookup_cons_ne hy] at h
      obtain ⟨w, hs, hq⟩ := F.fix y Q h
      exact ⟨w, S.others y _ hy hs, hq⟩
  · by_cases hy : y = x
    · subst hy; rw [lookup_cons_self] at h; cases h
    · rw [lookup_cons_ne hy] at h
      obtain ⟨hs, hf, he, o, vs, n, hg, hc, hd, hpl, ha⟩ := F.own y pl ps h
      exact ⟨S.others y _ hy hs, hf, he, o, vs, n, S.keepQ _ _ _ _ hg hd, hc, hd, hpl, ha⟩
  · by_cases hy : y = x
    · subst hy; rw [lookup_cons_self] at h; cases h
    · by_cases hz : z = x
      · subst hz; rw [lookup_cons_self] at h'; cases h'
      · rw [lookup_cons_ne hy] at h; rw [lookup_cons_ne hz] at h'; exact F.apart y z pl ps ql qs hyz h h'
theorem FmA.bindOwn {x : Str} {a : Addr} {ps : List Pd} {pl : Bool} {o : Obj} {vs : Array Value} {n : Nat} (F : FmA C env st ad ex fz s) (S : Stored C env st x (.ref a) ex fz s s') (hf : fz a = none) (he : ex a = none)
    (hg : s.heap.get? a = some o) (hc : o.cls = .type "list") (hd : o.data = .seq vs n) (hpl : pl = true → o = listObj vs n) (ha : All2 fz ps vs.toList) (hap : ∀ y pl ps, y ≠ x → st.lookup y = some (.own pl ps) → ad y ≠ a) :
    FmA C env ((x, .own pl ps) :: st) (fun y => if y = x then a else ad y) ex fz s' := by
  refine ⟨F.ok, fun y Q h => ?_, fun y pl ps h => ?_, fun y z pl ps ql qs hyz h h' => ?_, F.nl, F.nc, S.hasL, S.hasC, F.cells, S.keepX, F.exL, F.exC⟩
  · by_cases hy : y = x
    · subst hy; rw [lookup_cons_self] at h; cases h
    · rw [lookup_cons_ne hy] at h
      obtain ⟨w, hs, hq⟩ := F.fix y Q h
      exact ⟨w, S.others y _ hy hs, hq⟩
  · by_cases hy : y = x
    · subst hy; rw [lookup_cons_self] at h; cases h
      simp only [if_true]
      exact ⟨S.slot, hf, he, o, vs, n, S.keepQ _ _ _ _ hg hd, hc, hd, hpl, ha⟩
    · rw [lookup_cons_ne hy] at h
      simp only [if_neg hy]
      obtain ⟨hs, hf, he, o, vs, n, hg, hc, hd, hpl, ha⟩ := F.own y pl ps h
      exact ⟨S.others y _ hy hs, hf, he, o, vs, n, S.keepQ _ _ _ _ hg hd, hc, hd, hpl, ha⟩
  · by_cases hy : y = x
    · subst hy
      have hz : z ≠ y := Ne.symm hyz
      rw [lookup_cons_ne hz] at h'
      simp only [if_true, if_neg hz]
      exact (hap z _ _ hz h').symm
    · rw [lookup_cons_ne hy] at h
      by_cases hz : z = x
      · subst hz
        simp only [if_true, if_neg hy]
        exact hap y _ _ hy h
      · rw [lookup_cons_ne hz] at h'
        simp only [if_neg hy, if_neg hz]
        exact F.apart y z _ _ _ _ hyz h h'

/-! ## assignments -/
theorem Ex1.assign {x : Str} {pos' pos} {e : Expr} {P : Pd} (h : SEv C A env st e P) (hk : StOk env x) (hs : swapsWith e (some (.Name x pos')) pos.line env = pure false := by rfl) :
    Ex1 C A env (.Assign [.Name x pos'] e pos) st (Nx ((x, .fix P) :: st)) := fun ex fz s hx W ⟨ad, F⟩ =>
  wpAny_Assign_Name (wpAny_mono (h ad ex fz s W F) (fun v s₁ ⟨f₁, G, hp⟩ => by
    have F₁ := F.grow W G hx
    exact stored G.wf F₁ hk fun s₂ S => ⟨.next, _, f₁, ⟨rfl, rfl⟩, trivial, S.wf, ⟨ad, F₁.bindFix S hp⟩, F.kx W G⟩) fun _ _ e => e) hs
/-- an expression that gives a list that is new -/
noncomputable def Nw (C : Cx) (A : Around) (env : Env) (st : Store) (e : Expr) (ps : List Pd) : Prop :=
  ∀ ad ex fz s, Wf C fz s → FmA C env st ad ex fz s → wpAny (M C) A (eval e env) (fun v s' => ∃ f a vs n, Grow C fz s f s' ∧ v = .ref a ∧ s.heap.get? a = none ∧ f a = none ∧ s'.heap.get? a = some (listObj vs n) ∧ All2 f ps vs.toList) NoE s
theorem Ex1.assignOwn {x : Str} {pos' pos} {e : Expr} {ps : List Pd} (h : Nw C A env st e ps) (hk : StOk env x) (hs : swapsWith e (some (.Name x pos')) pos.line env = pure false := by rfl) :
    Ex1 C A env (.Assign [.Name x pos'] e pos) st (Nx ((x, .own true ps) :: st)) := fun ex fz s hx W ⟨ad, F⟩ =>
  wpAny_Assign_Name (wpAny_mono (h ad ex fz s W F) (fun v s₁ ⟨f₁, a, vs, n, G, e, hn, hf, hg, ha⟩ => by
    subst e
    have F₁ := F.grow W G hx
    have he : ex a = none := by
      cases q : ex a with
      | none => rfl
      | some o => rw [F.exle a o q] at hn; cases hn
    exact stored G.wf F₁ hk fun s₂ S => ⟨.next, _, f₁, ⟨rfl, rfl⟩, trivial, S.wf, ⟨_, F₁.bindOwn (pl := true) S hf he hg rfl rfl (fun _ => rfl) ha fun y pl qs hy hl => by
      rintro rfl
      obtain ⟨_, _, _, _, _, _, hg', _⟩ := F.own y pl qs hl
      rw [hn] at hg'; cases hg'⟩, F.kx W G⟩) fun _ _ e => e) hs
theorem heap_fresh (h : Heap) : h.get? h.objs.size = none := by
  cases e : h.get? h.objs.size with
  | none => rfl
  | some o => exact absurd (Heap.lt_size e) (Nat.lt_irrefl _)
theorem Nw.display {es : List Expr} {pos} {ps : List Pd} (h : Evs C A env (see seeF st) pos es ps) (hl : ps.length ≤ sizeLine := by decide) : Nw C A env st (.List es pos) ps := fun ad ex fz s W F =>
  wpAny_List (wpAny_mono (h fz s W F.feF) (fun vs s₁ ⟨f₁, G₁, h₁⟩ => ⟨h₁.length ▸ hl, by
    have hk : ∀ b o, s₁.heap.get? b = some o → (s₁.heap.push { cls := .type "list", data := .seq vs.toArray }).get? b = some o := fun b o e => Heap.get?_push_of_some _ e
    have G₂ := Grow.keep (tk := s₁.toks) G₁.wf hk
    have G := G₁.trans W G₂
    have hf : f₁ s₁.heap.objs.size = none := by
      cases q : f₁ s₁.heap.objs.size with
      | none => rfl
      | some o => have := G₁.wf.le _ _ q; rw [heap_fresh] at this; cases this
    refine ⟨f₁, s₁.heap.objs.size, vs.toArray, 0, G, rfl, ?_, hf, Heap.get?_push_size _ rfl, by simpa using h₁⟩
    cases q : s.heap.get? s₁.heap.objs.size with
    | none => rfl
    | some o =>
      by_cases h1 : s₁.heap.objs.size = C.t1
      · obtain ⟨ps', e, _⟩ := G₁.wf.tab1; rw [← h1, heap_fresh] at e; cases e
      · by_cases h2 : s₁.heap.objs.size = C.t2
        · obtain ⟨ps', e, _⟩ := G₁.wf.tab2; rw [← h2, heap_fresh] at e; cases e
        · have := G₁.kp _ _ h1 h2 q; rw [heap_fresh] at this; cases this⟩) fun _ _ e => e)

/-- an own list is mutated no more: it is frozen -/
theorem FmA.freeze {x : Str} {pl : Bool} {ps : List Pd} (W : Wf C fz s) (F : FmA C env st ad ex fz s) (hl : st.lookup x = some (.own pl ps)) :
    ∃ f, Wf C f s ∧ FmA C env ((x, .fix (lst ps)) :: st) ad ex f s ∧ Kx ex fz f := by
  obtain ⟨hs, hf, he, o, vs, n, hg, hc, hd, hpl, ha⟩ := F.own x pl ps hl
  obtain ⟨h1, h2⟩ := W.seq_ne hg hd
  have le := fadd_le (o := o) hf
  refine ⟨fadd fz (ad x) o, W.fadd hg hf h1 h2, ⟨F.ok, fun y Q h => ?_, fun y ql qs h => ?_, fun y z pl ps ql qs hyz h h' => ?_, ?_, fun y c hk h => ?_, F.hasL, F.hasC, F.cells, F.exle, F.exL, F.exC⟩, fun a o' e => ?_, le⟩
  · by_cases hy : y = x
    · subst hy; rw [lookup_cons_self] at h; cases h
      exact ⟨_, hs, ad y, o, vs, n, rfl, fadd_self, hc, hd, ha.mono le⟩
    · rw [lookup_cons_ne hy] at h
      obtain ⟨v, hs, hq⟩ := F.fix y Q h
      exact ⟨v, hs, Q.mono le hq⟩
  · by_cases hy : y = x
    · subst hy; rw [lookup_cons_self] at h; cases h
    · rw [lookup_cons_ne hy] at h
      obtain ⟨hs', hf', he', o', vs', n', hg', hc', hd', hpl', ha'⟩ := F.own y ql qs h
      exact ⟨hs', (fadd_ne (F.apart y x _ _ _ _ hy h hl)).trans hf', he', o', vs', n', hg', hc', hd', hpl', ha'.mono le⟩
  · by_cases hy : y = x
    · subst hy; rw [lookup_cons_self] at h; cases h
    · by_cases hz : z = x
      · subst hz; rw [lookup_cons_self] at h'; cases h'
      · rw [lookup_cons_ne hy] at h; rw [lookup_cons_ne hz] at h'; exact F.apart y z _ _ _ _ hyz h h'
  · rw [fadd_ne]; exact F.nl
    intro q
    obtain ⟨m, o', _, _, e', q', _⟩ := F.hasL
    rw [q, hg] at e'; cases e'; rw [hd] at q'; cases q'
  · rw [fadd_ne]; exact F.nc y c hk h
    intro q
    obtain ⟨v, o', e', q'⟩ := F.hasC y c h
    rw [q, hg] at e'; cases e'; rw [hd] at q'; cases q'
  · rw [fadd_ne]
    rintro rfl
    rw [he] at e; cases e
theorem Ex.freeze {body : List Stmt} {x : Str} {pl : Bool} {ps : List Pd} {R : Fl → Store → Prop} (hl : st.lookup x = some (.own pl ps)) (h : Ex C A env body ((x, .fix (lst ps)) :: st) R) : Ex C A env body st R := fun ex fz s hx W ⟨ad, F⟩ => by
  obtain ⟨f, W', F', hq⟩ := F.freeze W hl
  exact wpAny_mono (h ex f s hx W' ⟨ad, F'⟩) (fun fl s₂ ⟨r, st₂, f₂, a1, a2, a3, a4, a5⟩ => ⟨r, st₂, f₂, a1, a2, a3, a4, hq.trans a5⟩) fun _ _ e => e

/-- an own list is changed: its object is another one, all else stands -/
theorem FmA.change {x : Str} {pl ql : Bool} {ps qs : List Pd} {h' : Heap} {tk : Nat} {o : Obj} {vs : Array Value} {n : Nat} (W : Wf C fz s) (F : FmA C env st ad ex fz s) (hl : st.lookup x = some (.own pl ps)) (hs : Heap.SameBut (ad x) s.heap h')
    (hg : h'.get? (ad x) = some o) (hc : o.cls = .type "list") (hd : o.data = .seq vs n) (hpl : ql = true → o = listObj vs n) (ha : All2 fz qs vs.toList) :
    Wf C fz { s with heap := h', toks := tk } ∧ FmA C env ((x, .own ql qs) :: st) ad ex fz { s with heap := h', toks := tk } := by
  obtain ⟨hsx, hf, he, ox, vsx, nx, hgx, hcx, hdx, _⟩ := F.own x pl ps hl
  obtain ⟨h1, h2⟩ := W.seq_ne hgx hdx
  obtain ⟨m, hm⟩ := F.hasL
  have neL : env.locals ≠ ad x := by
    intro q
    obtain ⟨o', _, _, e', q', _⟩ := hm
    rw [q, hgx] at e'; cases e'; rw [hdx] at q'; cases q'
  have neC : ∀ c v, s.heap.IsCell c v → c ≠ ad x := by
    rintro c v ⟨o', e', q'⟩ rfl
    rw [hgx] at e'; cases e'; rw [hdx] at q'; cases q'
  have sl : ∀ y ov, Slot env s.heap y ov → Slot env h' y ov := fun y ov q => by
    rcases q with ⟨k, m', hn', hm'⟩ | ⟨k, d, hd, hv⟩
    · exact .inl ⟨k, m', hn'.sameBut hs neL, hm'⟩
    · exact .inr ⟨k, d, hd, hv.sameBut hs (neC _ _ hv)⟩
  refine ⟨W.set hs hf h1 h2, ⟨F.ok, fun y Q h => ?_, fun y rl rs h => ?_, fun y z pl ps ql qs hyz h h' => ?_, F.nl, F.nc, ⟨m, hm.sameBut hs neL⟩, fun y c h => ?_, F.cells, fun a o e => ?_, F.exL, F.exC⟩⟩
  · by_cases hy : y = x
    · subst hy; rw [lookup_cons_self] at h; cases h
    · rw [lookup_cons_ne hy] at h
      obtain ⟨v, hs', hq⟩ := F.fix y Q h
      exact ⟨v, sl _ _ hs', hq⟩
  · by_cases hy : y = x
    · subst hy; rw [lookup_cons_self] at h; cases h
      exact ⟨sl _ _ hsx, hf, he, o, vs, n, hg, hc, hd, hpl, ha⟩
    · rw [lookup_cons_ne hy] at h
      obtain ⟨hs', hf', he', o', vs', n', hg', hc', hd', hpl', ha'⟩ := F.own y rl rs h
      exact ⟨sl _ _ hs', hf', he', o', vs', n', (hs.2 _ (F.apart y x _ _ _ _ hy h hl)).trans hg', hc', hd', hpl', ha'⟩
  · by_cases hy : y = x
    · subst hy
      rw [lookup_cons_ne hyz.symm] at h'
      exact F.apart y z _ _ _ _ hyz hl h'
    · rw [lookup_cons_ne hy] at h
      by_cases hz : z = x
      · subst hz; exact F.apart y z _ _ _ _ hyz h hl
      · rw [lookup_cons_ne hz] at h'; exact F.apart y z _ _ _ _ hyz h h'
  · obtain ⟨v, hv⟩ := F.hasC y c h
    exact ⟨v, hv.sameBut hs (neC _ _ hv)⟩
  · exact (hs.2 a (by rintro rfl; rw [he] at e; cases e)).trans (F.exle a o e)
end
end Mine
end
/-! # part M6 -/
section
open PySem PySem.W PySem.Calls PyProof.Rows
set_option Elab.async false
set_option maxRecDepth 100000
set_option linter.unusedVariables false
namespace Mine
section
variable {C : Cx} {A : Around} {env : Env} {st st' : Store} {ad : Str → Addr} {ex fz fz' : Fz} {s s' : Shared}

theorem load_slot {x : Str} {pos} {v : Value} {Q E} (ok : EnvOk env) (h : Slot env s.heap x (some v)) (hq : Q v s) (hd : (x == ("__debug__" : Str)) = false) (hc : (x == ("__classdict__" : Str)) = false) :
    wpAny (M C) A (eval (.Name x pos) env) Q E s := by
  refine wpAny_Name ?_ hd
  rcases h with ⟨hk, m, hn, hm⟩ | ⟨hk | hk, c, hcl, hv⟩
  · exact wpAny_loadName_local ok.kind hk hn hm hq
  · exact wpAny_loadName_cell ok.kind hk hcl hv hq
  · exact wpAny_loadName_free ok.kind hk hcl hv hq hc

/-! ## x.append(e), x.reverse(), x[i] = e for an own list -/
theorem Ex1.append {x : Str} {p apos pos pos2} {e : Expr} {ps : List Pd} {P : Pd} (hl : st.lookup x = some (.own true ps)) (h : SEv C A env st e P) (hz : ps.length ≤ sizeLine)
    (hd : (x == ("__debug__" : Str)) = false := by decide) (hc : (x == ("__classdict__" : Str)) = false := by decide)
    (hs : starEach [e] env = [(false, eval e env)] := by rfl) (hline : (apos.endLine == pos.line) = true := by rfl) :
    Ex1 C A env (.Expr (.Call (.Attribute (.Name x p) (Str.ofString "append") apos) [e] [] pos) pos2) st (Nx ((x, .own true (ps ++ [P])) :: st)) := fun ex fz s hx W ⟨ad, F⟩ => by
  obtain ⟨hsx, hf, he, o, vs, n, hg, hcl, hdt, hpl, ha⟩ := F.own x true ps hl
  have hpl := hpl rfl; subst hpl
  refine wpAny_Expr (Call_method1 rfl hs hline (load_slot F.ok hsx ?_ hd hc)) (by unfold interactive; rw [F.ok.kind]; rfl) rfl
  refine ⟨"list", "list.append", PySem.F.plainAttrs_list, slot_list_append, type_list_append, ⟨_, hg, rfl⟩, (fun a q => by cases q; exact ⟨_, hg, rfl⟩), ?_⟩
  refine callWith_builtin rfl (evalArgs_plain (spliced_cons (wpAny_mono (h ad ex fz s W F) (fun v s₁ ⟨f₁, G, hp⟩ => spliced_nil ?_) fun _ _ e => e)))
  have F₁ := F.grow W G hx
  obtain ⟨_, _, _, o₁, vs₁, n₁, hg₁, _, _, hpl₁, ha₁⟩ := F₁.own x true ps hl
  have hpl₁ := hpl₁ rfl; subst hpl₁
  have hz₁ : vs₁.size ≤ sizeLine := by rw [← Array.length_toList, ← ha₁.length]; exact hz
  refine wpAny_list_append_plain (hsz := hz₁) ⟨n₁, hg₁⟩ fun h' ⟨n', hg'⟩ hsb => ?_
  obtain ⟨W₂, F₂⟩ := F₁.change (tk := s₁.toks) G.wf hl hsb hg' rfl rfl (ql := true) (qs := ps ++ [P]) (fun _ => rfl) (by simpa using ha₁.snoc hp)
  exact ⟨.next, _, f₁, ⟨rfl, rfl⟩, trivial, W₂, ⟨ad, F₂⟩, F.kx W G⟩
theorem All2.reverse {f : Fz} : ∀ {ps vs}, All2 f ps vs → All2 f ps.reverse vs.reverse
  | [], [], _ => trivial
  | _ :: _, _ :: _, x => by
    rw [List.reverse_cons, List.reverse_cons]
    exact (All2.reverse x.2).append ⟨x.1, trivial⟩
  | [], _ :: _, x => x.elim
  | _ :: _, [], x => x.elim
theorem Ex1.reverse {x : Str} {p apos pos pos2} {ps : List Pd} (hl : st.lookup x = some (.own true ps)) (hz : ps.length ≤ sizeLine)
    (hd : (x == ("__debug__" : Str)) = false := by decide) (hc : (x == ("__classdict__" : Str)) = false := by decide) (hline : (apos.endLine == pos.line) = true := by rfl) :
    Ex1 C A env (.Expr (.Call (.Attribute (.Name x p) (Str.ofString "reverse") apos) [] [] pos) pos2) st (Nx ((x, .own true ps.reverse) :: st)) := fun ex fz s hx W ⟨ad, F⟩ => by
  obtain ⟨hsx, hf, he, o, vs, n, hg, hcl, hdt, hpl, ha⟩ := F.own x true ps hl
  have hpl := hpl rfl; subst hpl
  refine wpAny_Expr (Call_method0 rfl hline (load_slot F.ok hsx ?_ hd hc)) (by unfold interactive; rw [F.ok.kind]; rfl) rfl
  refine ⟨"list", "list.reverse", PySem.F.plainAttrs_list, PySem.F.slot_list_reverse, PySem.F.type_list_reverse, ⟨_, hg, rfl⟩, (fun a q => by cases q; exact ⟨_, hg, rfl⟩), ?_⟩
  refine callWith_builtin rfl (evalArgs_nil3 ?_)
  refine call_meets PySem.F.slot_list_reverse ⟨_, hg, rfl⟩ PySem.F.entry_list_reverse (PySem.F.args_list_reverse_1 _) (AutoListH.list_reverse_list_0 (ad x) vs n (hsz := by rw [← Array.length_toList, ← ha.length]; exact hz)) ⟨hg, ?_⟩
  have hm : Obj.mapSeq (fun x => x.reverse) (listObj vs n) = listObj vs.reverse n := by simp [Obj.mapSeq, listObj]
  have hg' := Heap.get?_update_self (f := Obj.mapSeq fun x => x.reverse) hg (by rw [hm]; rfl)
  rw [hm] at hg'
  obtain ⟨W₂, F₂⟩ := F.change (tk := s.toks) W hl (Heap.SameBut.update ..) hg' rfl rfl (ql := true) (qs := ps.reverse) (fun _ => rfl) (by simpa using ha.reverse)
  exact ⟨.next, _, fz, ⟨rfl, rfl⟩, trivial, W₂, ⟨ad, F₂⟩, .refl _ _⟩
theorem All2.set {f : Fz} {ps : List Pd} {vs : List Value} {P : Pd} {v : Value} {k : Nat} (h : All2 f ps vs) (hp : P.p f v) : All2 f (ps.set k P) (vs.set k v) :=
  All2.of (by rw [List.length_set, List.length_set, h.length]) fun i Q w hq hw => by
    rw [List.getElem?_set] at hq hw
    by_cases hk : k = i
    · subst hk
      have hlt : k < ps.length := by
        rcases Nat.lt_or_ge k ps.length with h' | h'
        · exact h'
        · simp [Nat.not_lt.mpr h'] at hq
      rw [if_pos rfl, if_pos hlt] at hq
      rw [if_pos rfl, if_pos (h.length ▸ hlt)] at hw
      cases hq; cases hw; exact hp
    · rw [if_neg hk] at hq hw
      obtain ⟨w', e, hp'⟩ := h.get hq
      rw [hw] at e; cases e; exact hp'
theorem Ex1.setItem {x : Str} {p pos' pos} {i e : Expr} {k : Int} {pl : Bool} {ps : List Pd} {P : Pd} (hl : st.lookup x = some (.own pl ps)) (h : SEv C A env st e P) (hi : SEv C A env st i (int k)) (h0 : 0 ≤ k) (hn : k < ps.length) (hfit : k < 2 ^ 63)
    (hd : (x == ("__debug__" : Str)) = false := by decide) (hc : (x == ("__classdict__" : Str)) = false := by decide) (hs : swapsWith e (some (.Subscript (.Name x p) i pos')) pos.line env = pure false := by rfl) :
    Ex1 C A env (.Assign [.Subscript (.Name x p) i pos'] e pos) st (Nx ((x, .own false (ps.set k.toNat P)) :: st)) := fun ex fz s hx W ⟨ad, F⟩ =>
  wpAny_Assign_Subscript (wpAny_mono (h ad ex fz s W F) (fun v s₁ ⟨f₁, G₁, hp⟩ => by
    have F₁ := F.grow W G₁ hx
    have hsx := (F₁.own x pl ps hl).1
    refine load_slot F₁.ok hsx ?_ hd hc
    refine wpAny_mono (hi ad ex f₁ s₁ G₁.wf F₁) (fun iv s₂ ⟨f₂, G₂, t, e⟩ => ?_) fun _ _ e => e
    subst e
    have F₂ := F₁.grow G₁.wf G₂ hx
    obtain ⟨_, _, _, o₂, vs₂, n₂, hg₂, hc₂, hd₂, _, ha₂⟩ := F₂.own x pl ps hl
    refine wpAny_setItem_list ⟨o₂, hg₂, hc₂, n₂, hd₂⟩ h0 hfit (by rw [← Array.length_toList, ← ha₂.length]; exact hn) fun h' ⟨o', hg', hc', n', hd'⟩ hsb => ?_
    obtain ⟨W₃, F₃⟩ := F₂.change (tk := s₂.toks) G₂.wf hl hsb hg' hc' hd' (ql := false) (qs := ps.set k.toNat P) (fun q => by cases q) (by simpa using ha₂.set (k := k.toNat) (P.mono (G₂.le G₁.wf) hp))
    exact ⟨.next, _, f₂, ⟨rfl, rfl⟩, trivial, W₃, ⟨ad, F₃⟩, (F.kx W G₁).trans (F₁.kx G₁.wf G₂)⟩) fun _ _ e => e) hs

/-! ## x, y = e (a pair) -/
theorem Ex1.unpack2 {x y : Str} {p q tpos pos} {k : Nat} {e : Expr} {P Q : Pd} (hA : A.handled = none) (h : SEv C A env st e (tup [P, Q])) (hkx : StOk env x) (hky : StOk env y)
    (hs : swapsWithSole [.Tuple [.Name x p, .Name y q] k tpos] e pos.line env = pure false := by rfl) (hw : swappedStores [.Tuple [.Name x p, .Name y q] k tpos] e env = pure none := by rfl) :
    Ex1 C A env (.Assign [.Tuple [.Name x p, .Name y q] k tpos] e pos) st (Nx ((y, .fix Q) :: (x, .fix P) :: st)) := fun ex fz s hx W ⟨ad, F⟩ =>
  Assign_Tuple (wpAny_mono (h ad ex fz s W F) (fun v s₁ ⟨f₁, G₁, hp⟩ => by
    have F₁ := F.grow W G₁ hx
    obtain ⟨a, vs, rfl, ht, ha⟩ := seq_tup G₁.wf hp
    obtain ⟨v, w, hvs, hpv, hpw⟩ := ha.two
    refine assign_Tuple_tuple hA ht (by rw [← Array.length_toList, hvs]; rfl) rfl fun h' hxt => ?_
    rw [hvs]
    have hk : ∀ b o, s₁.heap.get? b = some o → h'.get? b = some o := fun b o e => hxt b o (Nat.ne_of_lt (Heap.lt_size e)) e
    have G₂ := Grow.keep (tk := s₁.toks) G₁.wf hk
    have F₂ := F₁.grow G₁.wf G₂ hx
    refine assignInOrder_cons (wpAny_assign_Name (stored G₂.wf F₂ hkx fun s₃ S => ?_))
    have F₃ := F₂.bindFix S hpv
    refine assignInOrder_cons (wpAny_assign_Name (stored S.wf F₃ hky fun s₄ S' => ?_))
    exact assignInOrder_nil ⟨.next, _, f₁, ⟨rfl, rfl⟩, trivial, S'.wf, ⟨ad, F₃.bindFix S' hpw⟩, F.kx W G₁⟩) fun _ _ e => e) hs hw

/-! ## while -/
theorem Ex1.whl {t : Expr} {body : List Stmt} {pos} {R : Fl → Store → Prop} (Inv : Nat → Store → Prop)
    (turn : ∀ n st, Inv n st → ∃ b, STr C A env st t b ∧ (b = true → Ex C A env body st (fun r st' => match r with
      | .next | .cont => ∃ m, m < n ∧ Inv m st'
      | .brk => R .next st'
      | .ret P => R (.ret P) st')) ∧ (b = false → R .next st))
    (n : Nat) (h : Inv n st) : Ex1 C A env (.While t body [] pos) st R := fun ex fz s hx W F => by
  refine wpAny_While (codeAny_whileLoop (fun n s' => ∃ st' f', Inv n st' ∧ Wf C f' s' ∧ Fm C env st' ex f' s' ∧ Kx ex fz f') ?_ n ⟨st, fz, h, W, F, .refl _ _⟩)
  rintro n s ⟨st, f, hI, W, ⟨ad, F⟩, hq⟩
  obtain ⟨b, ht, hb, he⟩ := turn n st hI
  refine wpAny_mono (ht ad ex f s W F) (fun v s₁ ⟨e, f₁, G⟩ => ?_) fun _ _ e => e.elim
  subst e
  have F₁ := F.grow W G hx
  have hq₁ := hq.trans (F.kx W G)
  cases v with
  | true =>
    refine wpAny_mono (hb rfl ex f₁ s₁ hx G.wf ⟨ad, F₁⟩) (fun fl s₂ ⟨r, st₂, f₂, a1, a2, a3, a4, a5⟩ => ?_) fun _ _ e => e.elim
    have hq₂ := hq₁.trans a5
    cases fl with
    | next => cases r with
      | next => obtain ⟨m, hm, hi⟩ := a1; exact ⟨m, hm, st₂, f₂, hi, a3, a4, hq₂⟩
      | _ => exact a2.elim
    | cont => cases r with
      | cont => obtain ⟨m, hm, hi⟩ := a1; exact ⟨m, hm, st₂, f₂, hi, a3, a4, hq₂⟩
      | _ => exact a2.elim
    | brk => cases r with
      | brk => exact ⟨.next, st₂, f₂, a1, trivial, a3, a4, hq₂⟩
      | _ => exact a2.elim
    | ret v => cases r with
      | ret P => exact ⟨.ret P, st₂, f₂, a1, a2, a3, a4, hq₂⟩
      | _ => exact a2.elim
  | false => exact wpAny_execs_nil ⟨.next, st, f₁, he rfl, trivial, G.wf, ⟨ad, F₁⟩, hq₁⟩

/-! ## what a loop goes over -/
noncomputable def It (C : Cx) (A : Around) (env : Env) (st : List (Str × Pd)) (e : Expr) (items : List Pd) : Prop :=
  ∀ fz s, Wf C fz s → Fe env st fz s.heap → wpAny (M C) A (eval e env) (fun xv s₁ => wpAny (M C) A (pyIter xv) (fun it s₂ => ∃ f₂ I fp wr St, it = .ref I ∧ Grow C fz s f₂ s₂ ∧
    Walks PySem.Challenge.pw_pe0133_01 C.w A I fp wr items.length (fun i v => ∃ P, items[i]? = some P ∧ P.p f₂ v) St ∧ St 0 s₂.heap ∧
    (∀ b ∈ fp, b ∈ wr ∨ ∃ o, f₂ b = some o) ∧ (∀ b ∈ wr, f₂ b = none ∧ s.heap.get? b = none) ∧ (∀ i h, St i h → ∀ b ∈ wr, ∃ o, h.get? b = some o)) NoE s₁) NoE s

/-- the loop's own iterator is guarded while the body runs -/
noncomputable def guardAll (ex : Fz) (wr : List Addr) (h : Heap) : Fz := fun a => if a ∈ wr then h.get? a else ex a
theorem FmA.guard {wr : List Addr} (F : FmA C env st ad ex fz s) (hL : env.locals ∉ wr) (hC : ∀ x c, env.cells.lookup x = some c → c ∉ wr) (hO : ∀ x pl ps, st.lookup x = some (.own pl ps) → ad x ∉ wr) :
    FmA C env st ad (guardAll ex wr s.heap) fz s :=
  ⟨F.ok, F.fix, fun x pl ps h => by
    obtain ⟨a1, a2, a3, a4⟩ := F.own x pl ps h
    exact ⟨a1, a2, (if_neg (hO x pl ps h)).trans a3, a4⟩, F.apart, F.nl, F.nc, F.hasL, F.hasC, F.cells, fun a o e => by
    unfold guardAll at e
    split at e
    · exact e
    · exact F.exle a o e, (if_neg hL).trans F.exL, fun x c hk h => (if_neg (hC x c h)).trans (F.exC x c hk h)⟩
theorem FmA.unguard {wr : List Addr} {h₀ : Heap} (F : FmA C env st ad (guardAll ex wr h₀) fz s) (hw : ∀ b ∈ wr, ex b = none) (ha : ∀ b ∈ wr, ∃ o, h₀.get? b = some o) :
    FmA C env st ad ex fz s ∧ (∀ x pl ps, st.lookup x = some (.own pl ps) → ad x ∉ wr) := by
  have hO : ∀ x pl ps, st.lookup x = some (.own pl ps) → ad x ∉ wr := fun x pl ps h hb => by
    obtain ⟨_, _, a3, _⟩ := F.own x pl ps h
    obtain ⟨o, e⟩ := ha _ hb
    rw [show guardAll ex wr h₀ (ad x) = h₀.get? (ad x) from if_pos hb, e] at a3
    cases a3
  have out : ∀ a o, ex a = some o → guardAll ex wr h₀ a = some o := fun a o e => by
    unfold guardAll
    rw [if_neg]; exact e
    intro hb; rw [hw a hb] at e; cases e
  have none' : ∀ a, guardAll ex wr h₀ a = none → ex a = none := fun a e => by
    cases q : ex a with
    | none => rfl
    | some o => rw [out a o q] at e; cases e
  exact ⟨⟨F.ok, F.fix, fun x pl ps h => by
    obtain ⟨a1, a2, a3, a4⟩ := F.own x pl ps h
    exact ⟨a1, a2, none' _ a3, a4⟩, F.apart, F.nl, F.nc, F.hasL, F.hasC, F.cells, fun a o e => F.exle a o (out a o e), none' _ F.exL, fun x c hk h => none' _ (F.exC x c hk h)⟩, hO⟩

/-- the heap has changed at the iterator alone -/
theorem FmA.drawn {wr : List Addr} {h' : Heap} {tk : Nat} (W : Wf C fz s) (F : FmA C env st ad ex fz s) (hkp : ∀ b o, b ∉ wr → s.heap.get? b = some o → h'.get? b = some o) (hf : ∀ b ∈ wr, fz b = none) (hx : ∀ b ∈ wr, ex b = none)
    (hL : env.locals ∉ wr) (hC : ∀ x c, env.cells.lookup x = some c → c ∉ wr) (hO : ∀ x pl ps, st.lookup x = some (.own pl ps) → ad x ∉ wr) (h1 : C.t1 ∉ wr) (h2 : C.t2 ∉ wr) :
    Wf C fz { s with heap := h', toks := tk } ∧ FmA C env st ad ex fz { s with heap := h', toks := tk } := by
  obtain ⟨m, hm⟩ := F.hasL
  have slots : ∀ y ov, Slot env s.heap y ov → Slot env h' y ov := fun y ov q => by
    rcases q with ⟨k, m', hn', hm'⟩ | ⟨k, d, hd, hv⟩
    · exact .inl ⟨k, m', hn'.at' fun o e => hkp _ o hL e, hm'⟩
    · obtain ⟨o, e, q⟩ := hv
      exact .inr ⟨k, d, hd, o, hkp _ o (hC _ _ hd) e, q⟩
  refine ⟨⟨W.base, fun a o e => hkp a o (fun hb => by rw [hf a hb] at e; cases e) (W.le a o e), W.n1, W.n2, W.ne, W.tab1.mono (.refl _) fun o e => hkp _ o h1 e, W.tab2.mono (.refl _) fun o e => hkp _ o h2 e, W.gens, W.os⟩,
    ⟨F.ok, fun y Q h => ?_, fun y pl ps h => ?_, F.apart, F.nl, F.nc, ⟨m, hm.at' fun o e => hkp _ o hL e⟩, fun y c h => ?_, F.cells, fun a o e => ?_, F.exL, F.exC⟩⟩
  · obtain ⟨v, hs, hq⟩ := F.fix y Q h
    exact ⟨v, slots _ _ hs, hq⟩
  · obtain ⟨hs, hf, he, o, vs, n, hg, hc, hd, hpl, ha⟩ := F.own y pl ps h
    exact ⟨slots _ _ hs, hf, he, o, vs, n, hkp _ o (hO y pl ps h) hg, hc, hd, hpl, ha⟩
  · obtain ⟨v, o, e, q⟩ := F.hasC y c h
    exact ⟨v, o, hkp _ o (hC _ _ h) e, q⟩
  · exact hkp a o (fun hb => by rw [hx a hb] at e; cases e) (F.exle a o e)

theorem Ex1.for {x : Str} {px pos} {iter : Expr} {body : List Stmt} {items : List Pd} {R : Fl → Store → Prop} (hi : It C A env (see seeF st) iter items) (hk : StOk env x) (Inv : Nat → Store → Prop)
    (turn : ∀ i P st, items[i]? = some P → Inv i st → Ex C A env body ((x, .fix P) :: st) (fun r st' => match r with
      | .next | .cont => Inv (i + 1) st'
      | .brk => R .next st'
      | .ret P => R (.ret P) st'))
    (h0 : Inv 0 st) (hn : ∀ st', Inv items.length st' → R .next st')
    (hs : ∀ x, foldedSetIterable iter env x = pure x := by intro _; rfl) : Ex1 C A env (.For (.Name x px) iter body [] pos) st R := fun ex fz s hx W ⟨ad, F⟩ => by
  refine wpAny_For (wpAny_mono (hi fz s W F.feF) (fun xv s₁ h₁ => wpAny_mono h₁ (fun it s₂ ⟨f₂, I, fp, wr, St, e, G, Wk, hst, hfp, hwr, hlive⟩ => ?_) fun _ _ e => e) fun _ _ e => e) hs
  subst e
  have F₂ := F.grow W G hx
  have hq₂ := F.kx W G
  have wrx : ∀ b ∈ wr, ex b = none := fun b hb => by
    cases q : ex b with
    | none => rfl
    | some o => have := F.exle b o q; rw [(hwr b hb).2] at this; cases this
  have hL : env.locals ∉ wr := fun hb => by
    obtain ⟨m, o, _, _, e, _⟩ := F.hasL
    rw [(hwr _ hb).2] at e; cases e
  have hC : ∀ x c, env.cells.lookup x = some c → c ∉ wr := fun x c h hb => by
    obtain ⟨v, o, e, _⟩ := F.hasC x c h
    rw [(hwr _ hb).2] at e; cases e
  have h1 : C.t1 ∉ wr := fun hb => by obtain ⟨ps, e, _⟩ := W.tab1; rw [(hwr _ hb).2] at e; cases e
  have h2 : C.t2 ∉ wr := fun hb => by obtain ⟨ps, e, _⟩ := W.tab2; rw [(hwr _ hb).2] at e; cases e
  have hO₀ : ∀ x pl ps, st.lookup x = some (.own pl ps) → ad x ∉ wr := fun x pl ps h hb => by
    obtain ⟨_, _, _, o, vs, n, hg, _⟩ := F.own x pl ps h
    rw [(hwr _ hb).2] at hg; cases hg
  refine codeAny_forLoop (fun k s' => ∃ i st' f' ad', k + i = items.length ∧ Inv i st' ∧ Wf C f' s' ∧ FmA C env st' ad' ex f' s' ∧ FzLe f₂ f' ∧ Kx ex fz f' ∧ St i s'.heap ∧
    (∀ b ∈ wr, f' b = none) ∧ (∀ x pl ps, st'.lookup x = some (.own pl ps) → ad' x ∉ wr)) ?_ items.length
    ⟨0, st, f₂, ad, rfl, h0, G.wf, F₂, .refl _, hq₂, hst, fun b hb => (hwr b hb).1, hO₀⟩
  rintro k s' ⟨i, st', f', ad', hki, hI, W', F', hle, hq', hst', hf', hO'⟩
  by_cases hlt : i < items.length
  · refine Wk.item i _ _ _ hlt hst' fun v h' tk hP hst₁ hkp => ?_
    obtain ⟨P, hPi, hPv⟩ := hP
    obtain ⟨W₁, F₁⟩ := F'.drawn (tk := tk) W' hkp hf' wrx hL hC hO' h1 h2
    have al := hlive _ _ hst₁
    have Fg := F₁.guard hL hC hO'
    refine wpAny_assign_Name (stored W₁ Fg hk fun s₃ S => ?_)
    have F₃ := Fg.bindFix S (P.mono hle hPv)
    have hxg : ExOk C (guardAll ex wr h') := fun a o e => by
      unfold guardAll at e
      split at e
      · rename_i hb
        exact ⟨fun q => h1 (q ▸ hb), fun q => h2 (q ▸ hb)⟩
      · exact hx a o e
    have keep₃ : ∀ b ∈ fp, ∀ o, h'.get? b = some o → s₃.heap.get? b = some o := fun b hb o e => by
      rcases hfp b hb with hw | ⟨o', ho'⟩
      · exact S.keepX b o ((if_pos hw).trans e)
      · have e1 := W₁.le b o' (hle b o' ho')
        have e2 := S.wf.le b o' (hle b o' ho')
        have e3 : some o' = some o := e1.symm.trans e
        cases e3; exact e2
    refine wpAny_mono (turn i P st' hPi hI _ f' s₃ hxg S.wf ⟨ad', F₃⟩) (fun fl s₄ ⟨r, st₄, f₄, a1, a2, a3, ⟨ad₄, F₄⟩, a5⟩ => ?_) fun _ _ e => e.elim
    obtain ⟨F₅, hO₅⟩ := F₄.unguard wrx al
    have hle₄ : FzLe f₂ f₄ := hle.trans a5.2
    have hq₄ : Kx ex fz f₄ := ⟨fun a o e => (a5.1 a o (by
      unfold guardAll
      rw [if_neg]; exact e
      intro hb; rw [wrx a hb] at e; cases e)).trans (hq'.1 a o e), hq'.2.trans a5.2⟩
    have keep₄ : ∀ b ∈ fp, ∀ o, s₃.heap.get? b = some o → s₄.heap.get? b = some o := fun b hb o e => by
      rcases hfp b hb with hw | ⟨o', ho'⟩
      · obtain ⟨o'', e''⟩ := al b hw
        have e1 := S.keepX b o'' ((if_pos hw).trans e'')
        rw [e] at e1; cases e1
        exact F₄.exle b o ((if_pos hw).trans e'')
      · have e1 := S.wf.le b o' (hle b o' ho')
        rw [e] at e1; cases e1
        exact a3.le b o (hle₄ b o ho')
    have hst₄ : St (i + 1) s₄.heap := Wk.frame _ _ _ (Wk.frame _ _ _ hst₁ keep₃) keep₄
    have hf₄ : ∀ b ∈ wr, f₄ b = none := fun b hb => by
      obtain ⟨o, e⟩ := al b hb
      exact (a5.1 b o ((if_pos hb).trans e)).trans (hf' b hb)
    cases fl with
    | next => cases r with
      | next => exact ⟨k - 1, by omega, i + 1, st₄, f₄, ad₄, by omega, a1, a3, F₅, hle₄, hq₄, hst₄, hf₄, hO₅⟩
      | _ => exact a2.elim
    | cont => cases r with
      | cont => exact ⟨k - 1, by omega, i + 1, st₄, f₄, ad₄, by omega, a1, a3, F₅, hle₄, hq₄, hst₄, hf₄, hO₅⟩
      | _ => exact a2.elim
    | brk => cases r with
      | brk => exact ⟨.next, st₄, f₄, a1, trivial, a3, ⟨ad₄, F₅⟩, hq₄⟩
      | _ => exact a2.elim
    | ret v => cases r with
      | ret P => exact ⟨.ret P, st₄, f₄, a1, a2, a3, ⟨ad₄, F₅⟩, hq₄⟩
      | _ => exact a2.elim
  · have hin : i = items.length := by omega
    subst hin
    refine Wk.done _ _ _ hst' fun h' tk hkp => ?_
    obtain ⟨W₁, F₁⟩ := F'.drawn (tk := tk) W' hkp hf' wrx hL hC hO' h1 h2
    exact wpAny_execs_nil ⟨.next, st', f', hn st' hI, trivial, W₁, ⟨ad', F₁⟩, hq'⟩
end
end Mine
end
/-! # part M7 -/
section
open PySem PySem.W PySem.Calls PyProof.Rows
set_option Elab.async false
set_option maxRecDepth 100000
set_option linter.unusedVariables false
namespace Mine

/-! ## room for calls -/
noncomputable def Rm (k : Nat) (A : Around) : Prop := A.handled = none ∧ A.depth + k < 1000 ∧ A.units + 4 * k + 60 < 9900
theorem Rm.deeper {k : Nat} {A : Around} {env : Env} (h : Rm (k + 1) A) : Rm k (A.deeper env) := by
  obtain ⟨h1, h2, h3⟩ := h
  refine ⟨h1, ?_, ?_⟩
  · show A.depth + 1 + k < 1000; omega
  · show A.units + 3 + 4 * k + 60 < 9900; omega
theorem Rm.le {k j : Nat} {A : Around} (h : Rm k A) (hj : j ≤ k) : Rm j A := by
  obtain ⟨h1, h2, h3⟩ := h
  exact ⟨h1, by omega, by omega⟩
theorem Rm.room {k : Nat} {A : Around} (h : Rm k A) : A.depth < recursionLimit := by have := h.2.1; show A.depth < 1000; omega
theorem Rm.units {k : Nat} {A : Around} (h : Rm k A) : A.units < cLine := by have := h.2.2; show A.units < 9900; omega

section
variable {C : Cx} {A : Around}

theorem lookup_zip_get {x : Str} {P : Pd} : ∀ {names : List Str} {ps : List Pd}, (names.zip (ps.map Ent.fix)).lookup x = some (.fix P) → ∃ i : Nat, names[i]? = some x ∧ ps[i]? = some P
  | [], _, h => by cases h
  | _ :: _, [], h => by cases h
  | n :: ns, p :: ps, h => by
    rw [List.map_cons, List.zip_cons_cons, List.lookup_cons] at h
    cases e : x == n with
    | true =>
      rw [e] at h
      cases h
      exact ⟨0, by simp [eq_of_beq e], by simp⟩
    | false =>
      rw [e] at h
      obtain ⟨i, h1, h2⟩ := lookup_zip_get (ps := ps) h
      exact ⟨i + 1, by simpa using h1, by simpa using h2⟩
theorem lookup_zip_own {x : Str} {pl : Bool} {qs : List Pd} : ∀ {names : List Str} {ps : List Pd}, (names.zip (ps.map Ent.fix)).lookup x ≠ some (.own pl qs)
  | [], _ => by intro h; cases h
  | _ :: _, [] => by intro h; cases h
  | n :: ns, p :: ps => by
    rw [List.map_cons, List.zip_cons_cons, List.lookup_cons]
    cases e : x == n with
    | true => intro h; cases h
    | false => exact lookup_zip_own

theorem bindL_out {kind : Str → Option NameKind} {x : Str} : ∀ {binds : List (Str × Value)} {m : Str → Option Value}, (∀ p ∈ binds, p.1 ≠ x) → bindL kind binds m x = m x
  | [], _, _ => rfl
  | (n, v) :: r, m, h => by
    unfold bindL
    rw [bindL_out fun p hp => h p (.tail _ hp)]
    split
    · simp only [if_neg (h _ (.head _)).symm]
    · rfl
theorem bindC_out {kind : Str → Option NameKind} {x : Str} : ∀ {binds : List (Str × Value)} {m : Str → Option Value}, (∀ p ∈ binds, p.1 ≠ x) → bindC kind binds m x = m x
  | [], _, _ => rfl
  | (n, v) :: r, m, h => by
    unfold bindC
    rw [bindC_out fun p hp => h p (.tail _ hp)]
    split
    · rfl
    · simp only [if_neg (h _ (.head _)).symm]
theorem bindL_in {kind : Str → Option NameKind} {x : Str} {v : Value} (hk : kind x = some .local) : ∀ {binds : List (Str × Value)} {m : Str → Option Value}, (binds.map (·.1)).Nodup → (x, v) ∈ binds → bindL kind binds m x = some v
  | (n, w) :: r, m, hn, hm => by
    rw [List.map_cons, List.nodup_cons] at hn
    unfold bindL
    rcases List.mem_cons.mp hm with e | hm
    · cases e
      rw [bindL_out, if_pos hk]
      · simp
      · intro p hp q
        exact hn.1 (List.mem_map.mpr ⟨p, hp, q⟩)
    · exact bindL_in hk hn.2 hm
theorem bindC_in {kind : Str → Option NameKind} {x : Str} {v : Value} (hk : kind x ≠ some .local) : ∀ {binds : List (Str × Value)} {m : Str → Option Value}, (binds.map (·.1)).Nodup → (x, v) ∈ binds → bindC kind binds m x = some v
  | (n, w) :: r, m, hn, hm => by
    rw [List.map_cons, List.nodup_cons] at hn
    unfold bindC
    rcases List.mem_cons.mp hm with e | hm
    · cases e
      rw [bindC_out, if_neg hk]
      · simp
      · intro p hp q
        exact hn.1 (List.mem_map.mpr ⟨p, hp, q⟩)
    · exact bindC_in hk hn.2 hm

/-- all that stood when the call began is guarded -/
noncomputable def exAll (C : Cx) (h : Heap) : Fz := fun a => if a = C.t1 ∨ a = C.t2 then none else h.get? a
theorem exAll_ok {h : Heap} : ExOk C (exAll C h) := fun a o e => by
  unfold exAll at e
  split at e
  · cases e
  · rename_i q; exact ⟨fun h => q (.inl h), fun h => q (.inr h)⟩
theorem exAll_get {h : Heap} {a : Addr} {o : Obj} (e : exAll C h a = some o) : h.get? a = some o := by
  unfold exAll at e
  split at e
  · cases e
  · exact e
theorem exAll_new {h : Heap} {a : Addr} (e : h.get? a = none) : exAll C h a = none := by
  unfold exAll
  split
  · rfl
  · exact e
theorem grow_of_ex {fz f' : Fz} {s s' : Shared} (W : Wf C fz s) (W' : Wf C f' s') (hx : ∀ a o, exAll C s.heap a = some o → s'.heap.get? a = some o) (hk : Kx (exAll C s.heap) fz f') : Grow C fz s f' s' := by
  refine ⟨W', fun a o e => ?_, fun a o h1 h2 e => hx a o ((if_neg (by rintro (h | h); exact h1 h; exact h2 h)).trans e)⟩
  by_cases h1 : a = C.t1
  · subst h1; rw [W'.n1, W.n1]
  · by_cases h2 : a = C.t2
    · subst h2; rw [W'.n2, W.n2]
    · exact hk.1 a o ((if_neg (by rintro (h | h); exact h1 h; exact h2 h)).trans e)

/-- a def without a closure, called with its arguments by place -/
theorem Cl.defC {k : Nat} {a : Addr} {o : Obj} {fd : FuncData} {body : List Stmt} {names : List Str} {ps : List Pd} {P : Pd} (hA : Rm (k + 1) A)
    (ho : C.h0.get? a = some o) (hd : o.data = .func fd) (hcd : C.h0.CodeRec fd.code fd.qualname) (hbody : fd.body = .stmts body) (hclo : fd.closure = []) (hgl : fd.globals = mainGlobals) (hbl : fd.builtins = builtinsNs)
    (hlen : names.length = ps.length) (hnd : names.Nodup) (hbind : ∀ vs, vs.length = names.length → bindArgs fd ⟨vs, []⟩ = pure (names.zip vs))
    (hkind : ∀ n, ∀ x ∈ names, fd.scope.names.lookup x = some .local ∨ (fd.scope.names.lookup x = some .cell ∧ ((cellsFrom n fd.scope.names []).lookup x).isSome = true))
    (hco : fd.scope.isCoroutine = false) (hgen : fd.scope.isGenerator = false) (hk : fd.scope.kind = .function)
    (h : ∀ L, Ex C (A.deeper (callEnvC fd L a)) (callEnvC fd L a) body (names.zip (ps.map Ent.fix)) (fun r _ => r = .ret P)) : Cl C A (.ref a) ps P := fun fz s vs W h2 => by
  have hvl : vs.length = names.length := by rw [← h2.length, hlen]
  refine wpAny_call (codeAny_call_cells hA.room (W.keeps _ _ ho) hd W.nolimit (hcd.keeps W.keeps) hbody (hbind vs hvl) hclo ?_ (fun s₁ X => ?_) hco hgen hk)
  · intro x hx
    exact hkind _ x.1 (List.of_mem_zip hx).1
  · have hfr := heap_fresh s.heap
    have hkeep := X.toInCall.keep
    obtain ⟨h₁, tk, rfl⟩ := X.toInCall.same
    have G := Grow.keep (tk := tk) W hkeep
    have above : ∀ n c, (n, c) ∈ (callEnvC fd s.heap.objs.size a).cells → s.heap.get? c = none := fun n c hm => by
      cases e : s.heap.get? c with
      | none => rfl
      | some o => exact absurd (Nat.lt_trans (X.above n c hm) (Heap.lt_size e)) (Nat.lt_irrefl _)
    have hzn : ((names.zip vs).map (·.1)).Nodup := by rw [List.map_fst_zip (by omega)]; exact hnd
    have F : FmA C (callEnvC fd s.heap.objs.size a) (names.zip (ps.map Ent.fix)) (fun _ => 0) (exAll C s.heap) fz { s with heap := h₁, toks := tk } := by
      refine ⟨⟨hk, hgl, hbl⟩, fun x P hx => ?_, fun x pl qs hx => absurd hx lookup_zip_own, fun x y pl ps ql qs _ hx => absurd hx lookup_zip_own, ?_, fun x c _ hc => ?_, ⟨_, X.toInCall.ns⟩, fun x c hc => ⟨_, X.cell x c hc⟩,
        fun x y c hx hy => name_of_addr X.apart (mem_of_lookup hx) (mem_of_lookup hy), fun a o e => hkeep a o (exAll_get e), exAll_new hfr, fun x c _ hc => exAll_new (above x c (mem_of_lookup hc))⟩
      · obtain ⟨i, h1, h3⟩ := lookup_zip_get hx
        obtain ⟨v, hv, hp⟩ := h2.get h3
        have hmem : (x, v) ∈ names.zip vs := List.mem_of_getElem? (i := i) (List.getElem?_zip_eq_some (z := (x, v)) |>.mpr ⟨h1, hv⟩)
        refine ⟨v, ?_, hp⟩
        rcases hkind (s.heap.objs.size + 1) x (List.mem_of_getElem? h1) with hl | ⟨hl, hc⟩
        · exact .inl ⟨hl, _, X.toInCall.ns, bindL_in hl hzn hmem⟩
        · obtain ⟨c, hc⟩ := Option.isSome_iff_exists.mp hc
          have := X.cell x c hc
          rw [bindC_in (by rw [show (callEnvC fd s.heap.objs.size a).kindOf x = some .cell from hl]; decide) hzn hmem] at this
          exact .inr ⟨.inl hl, c, hc, this⟩
      · cases e : fz s.heap.objs.size with
        | none => exact e
        | some o => have := W.le _ _ e; rw [hfr] at this; cases this
      · cases e : fz c with
        | none => rfl
        | some o => have := W.le _ _ e; rw [above x c (mem_of_lookup hc)] at this; cases this
    refine wpAny_mono (h _ _ fz _ exAll_ok G.wf ⟨_, F⟩) (fun fl s₂ ⟨r, st₂, f₂, a1, a2, a3, ⟨ad₂, F₂⟩, a5⟩ => ?_) fun _ _ e => e.elim
    subst a1
    cases fl with
    | ret v => exact ⟨f₂, grow_of_ex W a3 F₂.exle a5, a2⟩
    | _ => exact a2.elim
end
end Mine
end
/-! # part M8 -/
section
open PySem PySem.W PySem.Calls PyProof.Rows PySem.SeqAt
set_option Elab.async false
set_option maxRecDepth 100000
set_option linter.unusedVariables false
namespace Mine
section
variable {C : Cx} {A : Around} {env : Env} {st : List (Str × Pd)}

/-! ## iterables -/
theorem wpush {fz : Fz} {s : Shared} (W : Wf C fz s) (o : Obj) (tk : Nat) : Grow C fz s fz { s with heap := s.heap.push o, toks := tk } := Grow.keep W fun b o' e => Heap.get?_push_of_some _ e
theorem gone {fz : Fz} {s : Shared} (W : Wf C fz s) : fz s.heap.objs.size = none := by
  cases e : fz s.heap.objs.size with
  | none => rfl
  | some o => have := W.le _ _ e; rw [heap_fresh] at this; cases this
/-- what is new behind s₁ is new behind s -/
theorem fresh_before {fz f₁ : Fz} {s s₁ : Shared} (G : Grow C fz s f₁ s₁) {a : Addr} (h : s₁.heap.get? a = none) : s.heap.get? a = none := by
  cases e : s.heap.get? a with
  | none => rfl
  | some o =>
    by_cases h1 : a = C.t1
    · subst h1; obtain ⟨ps, q, _⟩ := G.wf.tab1; rw [h] at q; cases q
    · by_cases h2 : a = C.t2
      · subst h2; obtain ⟨ps, q, _⟩ := G.wf.tab2; rw [h] at q; cases q
      · rw [G.kp a o h1 h2 e] at h; cases h
theorem It.list {e : Expr} {ps : List Pd} (hh : A.handled = none) (h : Ev C A env st e (lst ps)) : It C A env st e ps := fun fz s W F =>
  wpAny_mono (h fz s W F) (fun v s₁ ⟨f₁, G, hp⟩ => by
    obtain ⟨a, vs, rfl, hl, ha, o, n, hfa, _⟩ := seq_list G.wf hp
    have e : vs.size = ps.length := by rw [← Array.length_toList, ha.length]
    have hne : a ≠ s₁.heap.objs.size := by obtain ⟨_, e, _⟩ := hl; exact Nat.ne_of_lt (Heap.lt_size e)
    refine wpAny_pyIter_list hl ?_
    have G₂ := wpush G.wf { cls := .type "list_iterator", data := .fields #[.ref a, .int 0 0] } s₁.toks
    have Wk := Walks.list (prog := PySem.Challenge.pw_pe0133_01) (w := C.w) hh s₁.heap.objs.size a hne vs
    rw [e] at Wk
    refine ⟨f₁, s₁.heap.objs.size, [s₁.heap.objs.size, a], [s₁.heap.objs.size], _, rfl, G.trans W G₂,
      { sub := Wk.sub, frame := Wk.frame, done := Wk.done, self := Wk.self, item := fun i s' Q E hi st' hQ => Wk.item i s' Q E hi st' fun v h' tk hP => hQ v h' tk (by
          obtain ⟨P, hP1, hP2⟩ := ha.get' (i := i) (v := v) (by simpa using hP)
          exact ⟨P, hP1, hP2⟩) }, ⟨⟨_, Heap.get?_push_size _ rfl, rfl, rfl⟩, hl.push _⟩, fun b hb => ?_, fun b hb => ?_, fun i h' hs b hb => ?_⟩
    · rcases List.mem_cons.mp hb with rfl | hb
      · exact .inl (.head _)
      · cases hb with
        | head => exact .inr ⟨o, hfa⟩
        | tail _ h => cases h
    · cases hb with
      | head => exact ⟨gone G.wf, fresh_before G (heap_fresh _)⟩
      | tail _ h => cases h
    · cases hb with
      | head => obtain ⟨⟨o, ho, _⟩, _⟩ := hs; exact ⟨o, ho⟩
      | tail _ h => cases h) fun _ _ e => e
theorem It.reversed {x : Str} {p pos} {e : Expr} {ps : List Pd} (hh : A.handled = none) (hf : Ev C A env st (.Name x p) (val (.type "reversed"))) (h : Ev C A env st e (lst ps))
    (he : backTo pos (starEach [e] env) = [(false, eval e env)] := by rfl) : It C A env st (.Call (.Name x p) [e] [] pos) ps.reverse := fun fz s W F =>
  Call_Name rfl (wpAny_mono (hf fz s W F) (fun v s₀ ⟨f₀, G₀, h₀⟩ => by
    cases h₀
    rw [he]
    refine PySem.callWith_type rfl (evalArgs_plain (spliced_cons (wpAny_mono (h f₀ s₀ G₀.wf (F.grow W G₀)) (fun v s₁ ⟨f₁, G₁, hp⟩ => spliced_nil ?_) fun _ _ e => e)))
    have G := G₀.trans W G₁
    obtain ⟨a, vs, rfl, hl, ha, o, n, hfa, _⟩ := seq_list G.wf hp
    have e : vs.size = ps.reverse.length := by rw [← Array.length_toList, List.length_reverse, ha.length]
    have hne : a ≠ s₁.heap.objs.size := by obtain ⟨_, e, _⟩ := hl; exact Nat.ne_of_lt (Heap.lt_size e)
    refine call_reversed_list hl ?_
    have G₂ := wpush G.wf (revObj a ((vs.size : Int) - 1)) s₁.toks
    have hit : (s₁.heap.push (revObj a ((vs.size : Int) - 1))).IsRevIter s₁.heap.objs.size a ((vs.size : Int) - 1) := ⟨_, Heap.get?_push_size _ rfl, rfl, rfl⟩
    refine wpAny_pyIter_revIter hit ?_
    have Wk := Walks.listRev (prog := PySem.Challenge.pw_pe0133_01) (w := C.w) hh s₁.heap.objs.size a hne vs
    have ha' : All2 f₁ ps.reverse vs.toList.reverse := ha.reverse
    refine ⟨f₁, s₁.heap.objs.size, [s₁.heap.objs.size, a], [s₁.heap.objs.size], _, rfl, G.trans W G₂,
      { sub := Wk.sub, frame := Wk.frame, done := e ▸ Wk.done, self := Wk.self, item := fun i s' Q E hi st' hQ => Wk.item i s' Q E (e ▸ hi) st' fun v h' tk hP => hQ v h' tk (by
          have hi' : i < vs.size := e ▸ hi
          obtain ⟨P, hP1, hP2⟩ := ha'.get' (i := i) (v := v) (by
            rw [List.getElem?_reverse (by simpa using hi')]
            simpa using hP)
          exact ⟨P, hP1, hP2⟩) }, ⟨Nat.zero_le _, by simpa using hit, hl.push _⟩, fun b hb => ?_, fun b hb => ?_, fun i h' hs b hb => ?_⟩
    · rcases List.mem_cons.mp hb with rfl | hb
      · exact .inl (.head _)
      · cases hb with
        | head => exact .inr ⟨o, hfa⟩
        | tail _ h => cases h
    · cases hb with
      | head => exact ⟨gone G.wf, fresh_before G (heap_fresh _)⟩
      | tail _ h => cases h
    · cases hb with
      | head => obtain ⟨_, ⟨o, ho, _⟩, _⟩ := hs; exact ⟨o, ho⟩
      | tail _ h => cases h) fun _ _ e => e)
/-- the ints a, a + 1, .. -/
noncomputable def rng (a : Int) (n : Nat) : List Int := (List.range n).map fun (i : Nat) => a + (i : Int)
theorem rng_get {a : Int} {n i : Nat} (h : i < n) : (rng a n)[i]? = some (a + (i : Int)) := by simp [rng, h]
theorem rng_length {a : Int} {n : Nat} : (rng a n).length = n := by simp [rng]
theorem it_range {fz f₁ : Fz} {s s₁ : Shared} {a b : Int} {t u v : Tok} {n : Nat} {r : Addr} (hh : A.handled = none) (W : Wf C fz s) (G : Grow C fz s f₁ s₁) (hr : IsRange s₁.heap r a b 1 t u v) (hsm : Builtin.Range.small a b 1 = true) (hn : Builtin.Range.rangeSize a b 1 = (n : Int)) :
    wpAny (M C) A (pyIter (.ref r)) (fun it s₂ => ∃ f₂ I fp wr St, it = .ref I ∧ Grow C fz s f₂ s₂ ∧
    Walks PySem.Challenge.pw_pe0133_01 C.w A I fp wr ((rng a n).map int).length (fun i v => ∃ P, ((rng a n).map int)[i]? = some P ∧ P.p f₂ v) St ∧ St 0 s₂.heap ∧
    (∀ b ∈ fp, b ∈ wr ∨ ∃ o, f₂ b = some o) ∧ (∀ b ∈ wr, f₂ b = none ∧ s.heap.get? b = none) ∧ (∀ i h, St i h → ∀ b ∈ wr, ∃ o, h.get? b = some o)) NoE s₁ := by
  refine wpAny_pyIter_range hr hsm ?_
  have G₂ := wpush G.wf { cls := .type "range_iterator", data := .fields #[rawInt a, rawInt (Builtin.Range.rangeSize a b 1), rawInt 1] } s₁.toks
  have hl : ((rng a n).map int).length = n := by rw [List.length_map, rng_length]
  have Wk := LCg.range_walks (prog := PySem.Challenge.pw_pe0133_01) (w := C.w) (I := s₁.heap.objs.size) hh a n
  have hI : IsRangeIter (s₁.heap.push { cls := .type "range_iterator", data := .fields #[rawInt a, rawInt (Builtin.Range.rangeSize a b 1), rawInt 1] }) s₁.heap.objs.size (a + ((0 : Nat) : Int) * 1) ((n : Int) - ((0 : Nat) : Int)) 1 := by
    have := Heap.get?_push_size s₁.heap (o := { cls := .type "range_iterator", data := .fields #[rawInt a, rawInt (Builtin.Range.rangeSize a b 1), rawInt 1] }) rfl
    rw [hn] at this ⊢
    show _ = _
    rw [this]
    simp
  refine ⟨f₁, s₁.heap.objs.size, [s₁.heap.objs.size], [s₁.heap.objs.size], _, rfl, G.trans W G₂,
    { sub := Wk.sub, frame := Wk.frame, done := by rw [hl]; exact Wk.done, self := Wk.self, item := fun i s' Q E hi st' hQ => Wk.item i s' Q E (hl ▸ hi) st' fun v h' tk ⟨t, e⟩ => hQ v h' tk
        ⟨int (a + (i : Int)), by rw [List.getElem?_map, rng_get (hl ▸ hi)]; rfl, t, e⟩ }, hI, fun b hb => .inl hb, fun b hb => ?_, fun i h' hs b hb => ?_⟩
  · cases hb with
    | head => exact ⟨gone G.wf, fresh_before G (heap_fresh _)⟩
    | tail _ h => cases h
  · cases hb with
    | head => exact ⟨_, hs⟩
    | tail _ h => cases h
theorem It.range1 {x : Str} {p pos} {e : Expr} {b : Int} (hh : A.handled = none) (hf : Ev C A env st (.Name x p) (val (.type "range"))) (h : Ev C A env st e (int b)) (hb : -(2 ^ 62) ≤ b) (hb' : b < 2 ^ 62)
    (he : backTo pos (starEach [e] env) = [(false, eval e env)] := by rfl) : It C A env st (.Call (.Name x p) [e] [] pos) ((rng 0 b.toNat).map int) := fun fz s W F =>
  Call_Name rfl (wpAny_mono (hf fz s W F) (fun v s₀ ⟨f₀, G₀, h₀⟩ => by
    cases h₀
    rw [he]
    refine PySem.callWith_type rfl (evalArgs_plain (spliced_cons (wpAny_mono (h f₀ s₀ G₀.wf (F.grow W G₀)) (fun v s₁ ⟨f₁, G₁, t, e⟩ => spliced_nil ?_) fun _ _ e => e)))
    subst e
    have G := G₀.trans W G₁
    refine call_range_1 ?_
    have G₂ := wpush G.wf { cls := .type "range", data := .fields #[.int 0 s₁.toks, .int b t, .int 1 (s₁.toks + 1)] } (s₁.toks + 1 + 1)
    refine it_range hh W (G.trans W G₂) (IsRange.new ..) (small_one (by omega) (by omega) hb hb') ?_
    rw [rangeSize_one]
    split <;> omega) fun _ _ e => e)
theorem It.range2 {x : Str} {p pos} {e₁ e₂ : Expr} {a b : Int} (hh : A.handled = none) (hf : Ev C A env st (.Name x p) (val (.type "range"))) (h1 : Ev C A env st e₁ (int a)) (h2 : Ev C A env st e₂ (int b)) (ha : -(2 ^ 62) ≤ a) (ha' : a < 2 ^ 62) (hb : -(2 ^ 62) ≤ b) (hb' : b < 2 ^ 62)
    (he : backTo pos (starEach [e₁, e₂] env) = [(false, eval e₁ env), (false, eval e₂ env)] := by rfl) : It C A env st (.Call (.Name x p) [e₁, e₂] [] pos) ((rng a (b - a).toNat).map int) := fun fz s W F =>
  Call_Name rfl (wpAny_mono (hf fz s W F) (fun v s₀ ⟨f₀, G₀, h₀⟩ => by
    cases h₀
    rw [he]
    refine PySem.callWith_type rfl (evalArgs_plain (spliced_cons (wpAny_mono (h1 f₀ s₀ G₀.wf (F.grow W G₀)) (fun v s₁ ⟨f₁, G₁, t, e⟩ =>
      spliced_cons (wpAny_mono (h2 f₁ s₁ G₁.wf (F.grow W (G₀.trans W G₁))) (fun v₂ s₂ ⟨f₂, G₂, t₂, e'⟩ => spliced_nil ?_) fun _ _ e => e)) fun _ _ e => e)))
    subst e e'
    have G := (G₀.trans W G₁).trans W G₂
    refine call_range_2 ?_
    have G₃ := wpush G.wf { cls := .type "range", data := .fields #[.int a t, .int b t₂, .int 1 s₂.toks] } (s₂.toks + 1)
    refine it_range hh W (G.trans W G₃) (IsRange.new ..) (small_one ha ha' hb hb') ?_
    rw [rangeSize_one]
    split <;> omega) fun _ _ e => e)
/-- the signs of a text -/
noncomputable def signs (x : Str) : List Pd := x.cps.toList.map fun c => str ⟨#[c]⟩
theorem It.str {e : Expr} {x : Str} (hh : A.handled = none) (h : Ev C A env st e (str x)) (ha : x.cps.all (· < 128) = true) : It C A env st e (signs x) := fun fz s W F =>
  wpAny_mono (h fz s W F) (fun v s₁ ⟨f₁, G, t, e⟩ => by
    subst e
    refine wpAny_pyIter_ascii ha ?_
    have G₂ := wpush G.wf { cls := .type "str_ascii_iterator", data := .fields #[.str x t, .int 0 0] } s₁.toks
    have Wk := Walks.strAscii (prog := PySem.Challenge.pw_pe0133_01) (w := C.w) hh s₁.heap.objs.size x t
    have hl : (signs x).length = x.cps.size := by simp [signs]
    refine ⟨f₁, s₁.heap.objs.size, [s₁.heap.objs.size], [s₁.heap.objs.size], _, rfl, G.trans W G₂,
      { sub := Wk.sub, frame := Wk.frame, done := by rw [hl]; exact Wk.done, self := Wk.self, item := fun i s' Q E hi st' hQ => Wk.item i s' Q E (hl ▸ hi) st' fun v h' tk ⟨c, u, hc, e⟩ => hQ v h' tk
          ⟨Mine.str ⟨#[c]⟩, by simp [signs, hc], u, e⟩ }, ⟨_, Heap.get?_push_size _ rfl, rfl, rfl⟩, fun b hb => .inl hb, fun b hb => ?_, fun i h' hs b hb => ?_⟩
    · cases hb with
      | head => exact ⟨gone G.wf, fresh_before G (heap_fresh _)⟩
      | tail _ h => cases h
    · cases hb with
      | head => obtain ⟨o, ho, _⟩ := hs; exact ⟨o, ho⟩
      | tail _ h => cases h) fun _ _ e => e

/-! ## built-in functions and methods -/
theorem Ev.bitLength {o : Expr} {apos pos} {a : Int} (h : Ev C A env st o (int a)) (hb : attributeBase o (Str.ofString "bit_length") env (eval o env) = eval o env := by rfl) (hline : (apos.endLine == pos.line) = true := by rfl) :
    Ev C A env st (.Call (.Attribute o (Str.ofString "bit_length") apos) [] [] pos) (int (Builtin.Int.intBits a)) := fun fz s W F =>
  Call_method0 hb hline (wpAny_mono (h fz s W F) (fun v s₁ ⟨f₁, G, t, e⟩ => by
    subst e
    refine ⟨"int", "int.bit_length", PySem.F.plainAttrs_int, PySem.F.slot_int_bit_length, PySem.F.type_int_bit_length, typeIs_int _ _ _, (fun a q => by cases q), ?_⟩
    exact callWith_builtin rfl (evalArgs_nil3 (call_int_bit_length ⟨f₁, G.trans W (.toks G.wf _), _, rfl⟩))) fun _ _ e => e)
theorem Cl.divmod {a b : Int} (hb : b ≠ 0) (hp : Builtin.divisionGoesByPylong a b = false) : Cl C A (.builtin "divmod") [int a, int b] (tup [int (a.fdiv b), int (a.fmod b)]) := fun fz s vs W h2 => by
  obtain ⟨v, w, rfl, ⟨t, e⟩, ⟨u, e'⟩⟩ := h2.two
  subst e e'
  refine divmod_int hb ?_ (.inl hp)
  have W' := W.toks (s.toks + 1 + 1)
  have := Grow.seq (cls := "tuple") (n := 0) (vs := [.int (a.fdiv b) s.toks, .int (a.fmod b) (s.toks + 1)]) (ps := [int (a.fdiv b), int (a.fmod b)]) W' ⟨⟨_, rfl⟩, ⟨_, rfl⟩, trivial⟩
  exact Rs.after W (.toks W _) _ _ this
theorem ints_get {fz : Fz} {ns : List Int} {vs : Array Value} (h : All2 fz (ns.map int) vs.toList) {i : Nat} {v : Value} (hv : vs[i]? = some v) : ∃ t, v = .int (ns.getD i 0) t := by
  obtain ⟨P, hP, hp⟩ := h.get' (i := i) (v := v) (by simpa using hv)
  rw [List.getElem?_map] at hP
  cases e : ns[i]? with
  | none => rw [e] at hP; cases hP
  | some n =>
    rw [e] at hP
    cases hP
    obtain ⟨t, rfl⟩ := hp
    exact ⟨t, by rw [List.getD_eq_getElem?_getD, e]; rfl⟩
theorem preSum_take (ns : List Int) : ∀ n, n ≤ ns.length → preSum (fun i => ns.getD i 0) n = (ns.take n).sum
  | 0, _ => rfl
  | n + 1, h => by
    have hn : n < ns.length := h
    rw [preSum, preSum_take ns n (Nat.le_of_lt hn), List.take_add_one, List.getElem?_eq_getElem hn, List.sum_append]
    have e : ns.getD n 0 = ns[n] := by rw [List.getD_eq_getElem?_getD, List.getElem?_eq_getElem hn]; rfl
    show _ + ns.getD n 0 = _
    rw [e]
    simp
theorem old_kept' {s : Shared} {l : Addr} {h' : Heap} (hk : ∀ b o, b ∉ [s.heap.objs.size] → (s.heap.push { cls := .type "list_iterator", data := .fields #[.ref l, .int 0 0] }).get? b = some o → h'.get? b = some o) :
    ∀ b o, s.heap.get? b = some o → h'.get? b = some o := old_kept hk
theorem Cl.sum {ns : List Int} (hh : A.handled = none) : Cl C A (.builtin "sum") [lst (ns.map int)] (int ns.sum) := fun fz s vs W h2 => by
  obtain ⟨v, rfl, h1⟩ := h2.one
  obtain ⟨a, vs, rfl, hl, ha, _⟩ := seq_list W h1
  have e : vs.size = ns.length := by rw [← Array.length_toList, ← ha.length, List.length_map]
  have hlt : a < s.heap.objs.size := by obtain ⟨_, e, _⟩ := hl; exact Heap.lt_size e
  refine call_sum_walkG (wpAny_pyIter_list hl ?_)
  refine ⟨s.heap.objs.size, [s.heap.objs.size, a], [s.heap.objs.size], vs.size, _, _, fun i => ns.getD i 0, rfl, Walks.list (A := A.in1) hh _ a (Nat.ne_of_lt hlt) vs, ⟨⟨_, Heap.get?_push_size _ rfl, rfl, rfl⟩, hl.push _⟩, fun b hb => ?_, fun i v hv => ints_get ha hv, fun h' tk t' hk => ?_⟩
  · show b < (s.heap.push _).objs.size
    rw [Heap.size_push]
    rcases List.mem_cons.mp hb with rfl | hb
    · exact Nat.lt_succ_self _
    · cases hb with
      | head => exact Nat.lt_succ_of_lt hlt
      | tail _ h => cases h
  · rw [e, preSum_take ns _ (Nat.le_refl _), List.take_length]
    exact ⟨fz, Grow.keep W (old_kept hk), _, rfl⟩
noncomputable def maxI (ns : List Int) : Int := ns.getD (argBest (fun i j => decide (ns.getD i 0 > ns.getD j 0)) (ns.length - 1)) 0
theorem Cl.max {ns : List Int} (hh : A.handled = none) (hne : ns ≠ []) : Cl C A (.builtin "max") [lst (ns.map int)] (int (maxI ns)) := fun fz s vs W h2 => by
  obtain ⟨v, rfl, h1⟩ := h2.one
  obtain ⟨a, vs, rfl, hl, ha, _⟩ := seq_list W h1
  have e : vs.size = ns.length := by rw [← Array.length_toList, ← ha.length, List.length_map]
  have hlt : a < s.heap.objs.size := by obtain ⟨_, e, _⟩ := hl; exact Heap.lt_size e
  refine call_max_walk (wpAny_pyIter_list hl ?_)
  refine ⟨s.heap.objs.size, [s.heap.objs.size, a], [s.heap.objs.size], vs.size, fun i v => vs[i]? = some v, _, fun i j => decide (ns.getD i 0 > ns.getD j 0), rfl, Walks.list (A := A.in1) hh _ a (Nat.ne_of_lt hlt) vs, ⟨⟨_, Heap.get?_push_size _ rfl, rfl, rfl⟩, hl.push _⟩, fun b hb => ?_, ?_,
    CmpOf.ints_gt (fun i => ns.getD i 0) (fun i v hv => ints_get ha hv), fun v h' tk hv hk => ?_⟩
  · show b < (s.heap.push _).objs.size
    rw [Heap.size_push]
    rcases List.mem_cons.mp hb with rfl | hb
    · exact Nat.lt_succ_self _
    · cases hb with
      | head => exact Nat.lt_succ_of_lt hlt
      | tail _ h => cases h
  · rw [e]; exact List.length_pos_iff.mpr hne
  · obtain ⟨t, rfl⟩ := ints_get ha hv
    rw [e]
    exact ⟨fz, Grow.keep W (old_kept hk), t, rfl⟩
theorem strs_are {fz : Fz} : ∀ {xs : List Str} {vs : List Value}, All2 fz (xs.map str) vs → StrsAre vs xs
  | [], [], _ => .nil
  | x :: xs, v :: vs, h => by obtain ⟨⟨t, rfl⟩, h⟩ := h; exact .cons x t (strs_are h)
  | [], _ :: _, h => h.elim
  | _ :: _, [], h => h.elim
theorem Ev.join {o e : Expr} {apos pos} {x : Str} {xs : List Str} (ho : Ev C A env st o (str x)) (h : Ev C A env st e (lst (xs.map str))) (hz : (xs.map (·.length)).sum + xs.length * x.length ≤ 16777216)
    (hb : attributeBase o (Str.ofString "join") env (eval o env) = eval o env := by rfl) (hs : starEach [e] env = [(false, eval e env)] := by rfl) (hline : (apos.endLine == pos.line) = true := by rfl) :
    Ev C A env st (.Call (.Attribute o (Str.ofString "join") apos) [e] [] pos) (str (Txt.join x xs)) := fun fz s W F =>
  Call_method1 hb hs hline (wpAny_mono (ho fz s W F) (fun v s₁ ⟨f₁, G, t, e⟩ => by
    subst e
    refine ⟨"str", "str.join", PySem.F.plainAttrs_str, PySem.F.slot_str_join, PySem.F.type_str_join, typeIs_str _ _ _, (fun a q => by cases q), ?_⟩
    refine callWith_builtin rfl (evalArgs_plain (spliced_cons (wpAny_mono (h f₁ s₁ G.wf (F.grow W G)) (fun v s₂ ⟨f₂, G₂, hp⟩ => spliced_nil ?_) fun _ _ e => e)))
    obtain ⟨a, vs, rfl, hl, ha, _⟩ := seq_list G₂.wf hp
    exact join_list hl (strs_are ha) hz fun t' k => ⟨f₂, (G.trans W G₂).trans W (.toks G₂.wf _), _, rfl⟩) fun _ _ e => e)

/-! ## membership, equality -/
noncomputable def isI (a : Int) : Value → Bool
  | .int i _ => i == a
  | _ => false
theorem any_ints {fz : Fz} (a : Int) : ∀ (ns : List Int) (l : List Value), All2 fz (ns.map int) l → l.any (isI a) = ns.contains a
  | [], [], _ => rfl
  | [], _ :: _, h => h.elim
  | _ :: _, [], h => h.elim
  | n :: ns, v :: l, h => by
    obtain ⟨⟨u, rfl⟩, h⟩ := h
    have e : (n == a) = (a == n) := by rw [Bool.eq_iff_iff, beq_iff_eq, beq_iff_eq]; exact eq_comm
    rw [List.any_cons, any_ints a ns l h, List.contains_cons]
    show ((n == a) || _) = _
    rw [e]
theorem Cmp.inInts {a : Int} {ns : List Int} : Cmp C A .In (int a) (lst (ns.map int)) (ns.contains a) := fun fz s v w W ⟨t, e⟩ h2 => by
  subst e
  obtain ⟨b, vs, rfl, hl, ha, _⟩ := seq_list W h2
  refine in_listAt (isI a) hl (fun y hy => ?_) ?_
  · obtain ⟨i, hi, rfl⟩ := Array.mem_iff_getElem.mp hy
    obtain ⟨u, hu⟩ := ints_get ha (i := i) (v := vs[i]) (Array.getElem?_eq_getElem hi)
    rw [hu]
    exact EqAt.int_int _ _ _ _
  · rw [← Array.any_toList, any_ints a ns _ ha]
    exact ⟨fz, .refl W, rfl⟩
theorem all_range_eq (xs ys : List Int) (h : xs.length = ys.length) : ((List.range xs.length).all fun j => xs.getD j 0 == ys.getD j 0) = (xs == ys) := by
  rw [Bool.eq_iff_iff, List.all_eq_true, beq_iff_eq]
  constructor
  · intro hj
    refine List.ext_getElem h fun i h1 h2 => ?_
    have := hj i (List.mem_range.mpr h1)
    simpa [List.getD_eq_getElem?_getD, h1, h2] using this
  · rintro rfl j _; simp
theorem eq_ints {fz : Fz} {s : Shared} {xs ys : List Int} {a b : Addr} {vs ws : Array Value} (hl : s.heap.IsList a vs) (hb : s.heap.IsList b ws) (hx : All2 fz (xs.map int) vs.toList) (hy : All2 fz (ys.map int) ws.toList) (hu : A.units < cLine) :
    RcAt A s (.ref a) (.ref b) (xs == ys) ∧ RcNeAt A s (.ref a) (.ref b) (xs != ys) := by
  have e1 : vs.size = xs.length := by rw [← Array.length_toList, ← hx.length, List.length_map]
  have e2 : ws.size = ys.length := by rw [← Array.length_toList, ← hy.length, List.length_map]
  by_cases hlen : xs.length = ys.length
  · have he : ∀ j (h1 : j < vs.size) (h2 : j < ws.size), EqAt A.in1 s vs[j] ws[j] (xs.getD j 0 == ys.getD j 0) := fun j h1 h2 => by
      obtain ⟨t, ht⟩ := ints_get hx (i := j) (v := vs[j]) (Array.getElem?_eq_getElem h1)
      obtain ⟨u, hu⟩ := ints_get hy (i := j) (v := ws[j]) (Array.getElem?_eq_getElem h2)
      rw [ht, hu]
      exact EqAt.int_int _ _ _ _
    have r1 := RcAt.lists hl hb (by rw [e1, e2, hlen]) hu he
    have r2 := RcNeAt.lists hl hb (by rw [e1, e2, hlen]) hu he
    rw [e1, all_range_eq xs ys hlen] at r1 r2
    exact ⟨r1, r2⟩
  · have hne : xs ≠ ys := fun q => hlen (by rw [q])
    have hsz : (vs.size != ws.size) = true := by rw [e1, e2]; simpa using hlen
    rw [show (xs == ys) = false by simpa using hne, show (xs != ys) = true by simpa using hne]
    exact ⟨RcAt.lists_lengths hl hb hsz hu, RcNeAt.lists_lengths hl hb hsz hu⟩
theorem ints_inj {fz : Fz} : ∀ {xs ys : List Int} {vs : List Value}, All2 fz (xs.map int) vs → All2 fz (ys.map int) vs → xs = ys
  | [], [], _, _, _ => rfl
  | x :: xs, y :: ys, v :: vs, h, h' => by
    obtain ⟨⟨t, e⟩, h⟩ := h
    obtain ⟨⟨u, e'⟩, h'⟩ := h'
    rw [e] at e'; cases e'
    rw [ints_inj h h']
  | [], _ :: _, [], _, h' => h'.elim
  | [], _ :: _, _ :: _, h, _ => h.elim
  | _ :: _, [], [], h, _ => h.elim
  | _ :: _, [], _ :: _, _, h' => h'.elim
  | _ :: _, _ :: _, [], h, _ => h.elim
theorem EqAt_ints {fz : Fz} {s : Shared} {xs ys : List Int} {v w : Value} (W : Wf C fz s) (hx : (lst (xs.map int)).p fz v) (hy : (lst (ys.map int)).p fz w) (hu : A.units < cLine) : EqAt A s v w (xs == ys) := by
  obtain ⟨a, o, vs, n, rfl, e2, e3, e4, e5⟩ := hx
  obtain ⟨b, o', ws, n', rfl, f2, f3, f4, f5⟩ := hy
  by_cases hab : a = b
  · subst hab
    rw [e2] at f2; cases f2; rw [e4] at f4; cases f4
    rw [ints_inj e5 f5]
    simpa using EqAt.same (A := A) (s := s) (.ref a)
  · exact EqAt.of_refs hab (eq_ints ⟨o, W.le _ _ e2, e3, n, e4⟩ ⟨o', W.le _ _ f2, f3, n', f4⟩ e5 f5 hu).1
theorem Cmp.eqInts {xs ys : List Int} (hu : A.units < cLine) : Cmp C A .Eq (lst (xs.map int)) (lst (ys.map int)) (xs == ys) := fun fz s v w W h1 h2 => by
  obtain ⟨a, vs, rfl, hl, ha, _⟩ := seq_list W h1
  obtain ⟨b, ws, rfl, hb, hb', _⟩ := seq_list W h2
  exact (eq_ints hl hb ha hb' hu).1 _ _ _ _ ⟨fz, .refl W, rfl⟩
theorem Cmp.neInts {xs ys : List Int} (hu : A.units < cLine) : Cmp C A .NotEq (lst (xs.map int)) (lst (ys.map int)) (xs != ys) := fun fz s v w W h1 h2 => by
  obtain ⟨a, vs, rfl, hl, ha, _⟩ := seq_list W h1
  obtain ⟨b, ws, rfl, hb, hb', _⟩ := seq_list W h2
  exact (eq_ints hl hb ha hb' hu).2 _ _ _ _ ⟨fz, .refl W, rfl⟩
/-- lists of lists of ints -/
noncomputable def intss (xss : List (List Int)) : List Pd := xss.map fun xs => lst (xs.map int)
theorem all_range_eqs (xs ys : List (List Int)) (h : xs.length = ys.length) : ((List.range xs.length).all fun j => xs.getD j [] == ys.getD j []) = (xs == ys) := by
  rw [Bool.eq_iff_iff, List.all_eq_true, beq_iff_eq]
  constructor
  · intro hj
    refine List.ext_getElem h fun i h1 h2 => ?_
    have := hj i (List.mem_range.mpr h1)
    simpa [List.getD_eq_getElem?_getD, h1, h2] using this
  · rintro rfl j _; simp
theorem intss_get {fz : Fz} {xss : List (List Int)} {vs : Array Value} (h : All2 fz (intss xss) vs.toList) {i : Nat} {v : Value} (hv : vs[i]? = some v) : (lst ((xss.getD i []).map int)).p fz v := by
  obtain ⟨P, hP, hp⟩ := h.get' (i := i) (v := v) (by simpa using hv)
  unfold intss at hP
  rw [List.getElem?_map] at hP
  cases e : xss[i]? with
  | none => rw [e] at hP; cases hP
  | some n =>
    rw [e] at hP
    cases hP
    rw [List.getD_eq_getElem?_getD, e]
    exact hp
theorem eq_intss {fz : Fz} {s : Shared} {xs ys : List (List Int)} {a b : Addr} {vs ws : Array Value} (W : Wf C fz s) (hl : s.heap.IsList a vs) (hb : s.heap.IsList b ws) (hx : All2 fz (intss xs) vs.toList) (hy : All2 fz (intss ys) ws.toList) (hu : A.units + 1 < cLine) :
    RcAt A s (.ref a) (.ref b) (xs == ys) ∧ RcNeAt A s (.ref a) (.ref b) (xs != ys) := by
  have e1 : vs.size = xs.length := by rw [← Array.length_toList, ← hx.length]; simp [intss]
  have e2 : ws.size = ys.length := by rw [← Array.length_toList, ← hy.length]; simp [intss]
  have hu' : A.units < cLine := by omega
  by_cases hlen : xs.length = ys.length
  · have he : ∀ j (h1 : j < vs.size) (h2 : j < ws.size), EqAt A.in1 s vs[j] ws[j] (xs.getD j [] == ys.getD j []) := fun j h1 h2 =>
      EqAt_ints W (intss_get hx (i := j) (v := vs[j]) (Array.getElem?_eq_getElem h1)) (intss_get hy (i := j) (v := ws[j]) (Array.getElem?_eq_getElem h2)) hu
    have r1 := RcAt.lists hl hb (by rw [e1, e2, hlen]) hu' he
    have r2 := RcNeAt.lists hl hb (by rw [e1, e2, hlen]) hu' he
    rw [e1, all_range_eqs xs ys hlen] at r1 r2
    exact ⟨r1, r2⟩
  · have hne : xs ≠ ys := fun q => hlen (by rw [q])
    have hsz : (vs.size != ws.size) = true := by rw [e1, e2]; simpa using hlen
    rw [show (xs == ys) = false by simpa using hne, show (xs != ys) = true by simpa using hne]
    exact ⟨RcAt.lists_lengths hl hb hsz hu', RcNeAt.lists_lengths hl hb hsz hu'⟩
theorem Cmp.eqIntss {xs ys : List (List Int)} (hu : A.units + 1 < cLine) : Cmp C A .Eq (lst (intss xs)) (lst (intss ys)) (xs == ys) := fun fz s v w W h1 h2 => by
  obtain ⟨a, vs, rfl, hl, ha, _⟩ := seq_list W h1
  obtain ⟨b, ws, rfl, hb, hb', _⟩ := seq_list W h2
  exact (eq_intss W hl hb ha hb' hu).1 _ _ _ _ ⟨fz, .refl W, rfl⟩
theorem Cmp.neIntss {xs ys : List (List Int)} (hu : A.units + 1 < cLine) : Cmp C A .NotEq (lst (intss xs)) (lst (intss ys)) (xs != ys) := fun fz s v w W h1 h2 => by
  obtain ⟨a, vs, rfl, hl, ha, _⟩ := seq_list W h1
  obtain ⟨b, ws, rfl, hb, hb', _⟩ := seq_list W h2
  exact (eq_intss W hl hb ha hb' hu).2 _ _ _ _ ⟨fz, .refl W, rfl⟩
theorem Cmp.neNil {ps : List Pd} (hu : A.units < cLine) : Cmp C A .NotEq (lst ps) (lst []) (!ps.isEmpty) := fun fz s v w W h1 h2 => by
  obtain ⟨a, vs, rfl, hl, ha, _⟩ := seq_list W h1
  obtain ⟨b, ws, rfl, hb, hb', _⟩ := seq_list W h2
  have e1 : vs.size = ps.length := by rw [← Array.length_toList, ← ha.length]
  have e2 : ws.size = 0 := by rw [← Array.length_toList, ← hb'.length]; rfl
  cases ps with
  | nil =>
    have r2 := RcNeAt.lists (e := fun _ => true) hl hb (by rw [e1, e2]; rfl) hu (fun j h1 _ => by rw [e1] at h1; exact absurd h1 (Nat.not_lt_zero _))
    rw [e1] at r2
    exact r2 _ _ _ _ ⟨fz, .refl W, rfl⟩
  | cons p ps =>
    refine RcNeAt.lists_lengths hl hb ?_ hu _ _ _ _ ⟨fz, .refl W, rfl⟩
    rw [e1, e2]
    simp
end
end Mine
end
/-! # part M9 -/
section
open PySem PySem.W PySem.Calls PyProof.Rows PySem.SeqAt
set_option Elab.async false
set_option maxRecDepth 100000
set_option linter.unusedVariables false
namespace Mine
section
variable {C : Cx} {A : Around} {env : Env} {st : List (Str × Pd)}

/-! ## comprehensions -/
/-- the frame of a comprehension -/
noncomputable def cEnv (scope : Scope) (cl : List (Str × Addr)) (L : Addr) (env : Env) : Env :=
  { scope := relabel scope env, locals := L, globals := env.globals, cells := cellsFrom (L + 1) scope.names cl, qual := env.qual, func := none, code := env.code, frame := env.frame, builtins := env.builtins }
theorem cEnv_ok {scope : Scope} {cl L} (h : EnvOk env) (hk : scope.kind = .function) : EnvOk (cEnv scope cl L env) := ⟨hk, h.glob, h.blt⟩

theorem newEnv_comp {scope : Scope} {cl : List (Str × Addr)} {s : Shared} {Q : Env → Shared → Prop} {E}
    (h : Q { (cEnv scope cl s.heap.objs.size env) with scope := scope } { s with heap := pushCells (s.heap.push { cls := .type "dict", data := .dict #[] }) scope.names }) :
    wpAny (M C) A (newFunctionEnv scope env.globals cl [] env.qual none .none (some env)) Q E s := by
  simp only [newFunctionEnv, Option.isSome_some, if_true]
  refine wpAny_bind (wpAny_alloc ?_)
  refine wpAny_bind (wpAny_layCells _ (fun name kind cells => by cases hkc : kind == NameKind.cell <;> simp) _ _ _ _ ?_)
  rw [show ({ s with heap := s.heap.push { cls := .type "dict", data := .dict #[] } } : Shared).heap.objs.size = s.heap.objs.size + 1 from Heap.size_push ..]
  refine wpAny_bind ?_
  rw [List.forIn_nil]
  exact wpAny_pure (wpAny_pure h)

/-- a heap that has changed at new places alone -/
theorem Grow.poke {fz f : Fz} {s s' : Shared} {wr : List Addr} {h' : Heap} {tk : Nat} (W : Wf C fz s) (G : Grow C fz s f s') (hk : ∀ b o, b ∉ wr → s'.heap.get? b = some o → h'.get? b = some o) (hn : ∀ b ∈ wr, s.heap.get? b = none) (hf : ∀ b ∈ wr, f b = none) :
    Grow C fz s f { s' with heap := h', toks := tk } := by
  have h1 : C.t1 ∉ wr := fun hb => by obtain ⟨ps, e, _⟩ := W.tab1; rw [hn _ hb] at e; cases e
  have h2 : C.t2 ∉ wr := fun hb => by obtain ⟨ps, e, _⟩ := W.tab2; rw [hn _ hb] at e; cases e
  have W' := G.wf
  refine ⟨⟨W'.base, fun a o e => hk a o (fun hb => by rw [hf a hb] at e; cases e) (W'.le a o e), W'.n1, W'.n2, W'.ne, W'.tab1.mono (.refl _) fun o e => hk _ o h1 e, W'.tab2.mono (.refl _) fun o e => hk _ o h2 e, W'.gens, W'.os⟩, G.eq, fun a o q1 q2 e => ?_⟩
  exact hk a o (fun hb => by rw [hn a hb] at e; cases e) (G.kp a o q1 q2 e)

/-- the captured names -/
noncomputable def Caps (env : Env) (scope : Scope) (cl : List (Str × Addr)) (st st' : List (Str × Pd)) : Prop :=
  ∀ p ∈ st', st.lookup p.1 = some p.2 ∧ ∀ L, ∃ c, (cEnv scope cl L env).cells.lookup p.1 = some c ∧ env.cells.lookup p.1 = some c ∧ ((cEnv scope cl L env).kindOf p.1 = some .cell ∨ (cEnv scope cl L env).kindOf p.1 = some .free) ∧ (env.kindOf p.1 = some .cell ∨ env.kindOf p.1 = some .free)
theorem Caps.fe {scope : Scope} {cl st'} {fz : Fz} {h : Heap} {L : Addr} {x : Str} {v : Value} {P : Pd} (hc : Caps env scope cl st st') (F : Fe env st fz h) (hk : scope.kind = .function) (hx : Slot (cEnv scope cl L env) h x (some v)) (hp : P.p fz v) : Fe (cEnv scope cl L env) ((x, P) :: st') fz h :=
  ⟨cEnv_ok F.ok hk, fun y Q hy => by
    rw [List.lookup_cons] at hy
    cases e : y == x with
    | true => rw [e] at hy; cases hy; rw [eq_of_beq e]; exact ⟨v, hx, hp⟩
    | false =>
      rw [e] at hy
      obtain ⟨h1, h2⟩ := hc (y, Q) (mem_of_lookup hy)
      obtain ⟨c, hc1, hc2, hk1, hk2⟩ := h2 L
      obtain ⟨w, hs, hq⟩ := F.var y Q h1
      refine ⟨w, .inr ⟨hk1, c, hc1, ?_⟩, hq⟩
      rcases hs with ⟨k, _⟩ | ⟨_, d, hd, hv⟩
      · have k2 := hk2; dsimp only at k2 k; rw [k] at k2; rcases k2 with k2 | k2 <;> cases k2
      · dsimp only at hc2 hd; rw [hc2] at hd; cases hd; exact hv⟩

/-- the tests of a comprehension -/
noncomputable def Tifs (C : Cx) (A : Around) (env : Env) (st : List (Str × Pd)) (ifs : List Expr) (b : Bool) : Prop :=
  ∀ fz s, Wf C fz s → Fe env st fz s.heap → wpAny (M C) A (forIn ifs true fun c r => if r = true then do let ok ← isTrue c env (eval c env); pure (ForInStep.yield ok) else pure (ForInStep.yield r)) (Rb C fz s b) NoE s
theorem Tifs.nil : Tifs C A env st [] true := fun fz s W F => wpAny_tests_nil ⟨rfl, fz, .refl W⟩
theorem Tifs.one {c : Expr} {b : Bool} (h : Tr C A env st c b) : Tifs C A env st [c] b := fun fz s W F => wpAny_tests_one (h fz s W F)

/-- a loop's name inside a comprehension -/
noncomputable def XOk (scope : Scope) (env : Env) (x : Str) : Prop := (∀ L cl, (cEnv scope cl L env).kindOf x = some .local) ∨ (∀ L cl, (cEnv scope cl L env).kindOf x = some .cell ∧ ∃ c, L < c ∧ (cEnv scope cl L env).cells.lookup x = some c ∧ (x, c) ∈ cellsFrom (L + 1) scope.names [])

theorem cells_alive (names : List (Str × NameKind)) (h : Heap) : ∀ n c, (n, c) ∈ cellsFrom h.objs.size names [] → (pushCells h names).IsCell c none := fun n c hm =>
  ((cellsFrom_ok names h 0 [] ⟨fun _ _ hm => (nomatch hm), List.Pairwise.nil⟩ (Nat.zero_le _)).empty n c hm).1

/-- the parts that a comprehension turns: its list, its frame, its cell -/
structure Cs (C : Cx) (cenv : Env) (D : Addr) (x : Str) (f : Fz) (qs : List Pd) (s : Shared) : Prop where
  acc : ∃ ys, s.heap.PlainList D ys ∧ All2 f qs ys.toList
  accf : f D = none
  ns : ∃ m, s.heap.Ns cenv.locals m
  nsf : f cenv.locals = none
  cell : cenv.kindOf x = some .local ∨ (cenv.kindOf x = some .cell ∧ ∃ c v, cenv.cells.lookup x = some c ∧ s.heap.IsCell c v ∧ f c = none)
theorem Cs.grow {cenv : Env} {D : Addr} {x : Str} {f f' : Fz} {qs : List Pd} {s s' : Shared} (W : Wf C f s) (X : Cs C cenv D x f qs s) (G : Grow C f s f' s') : Cs C cenv D x f' qs s' := by
  obtain ⟨ys, ⟨n, hg⟩, ha⟩ := X.acc
  obtain ⟨m, hm⟩ := X.ns
  obtain ⟨h1, h2⟩ := W.seq_ne hg rfl
  obtain ⟨l1, l2⟩ := W.ns_ne hm
  refine ⟨⟨ys, ⟨n, G.kp _ _ h1 h2 hg⟩, ha.mono (G.le W)⟩, (G.eq _ _ hg).trans X.accf, ⟨m, hm.at' fun o e => G.kp _ o l1 l2 e⟩, ?_, X.cell.imp id fun ⟨hk, c, v, hc, hv, hf⟩ => ⟨hk, c, v, hc, ?_, ?_⟩⟩
  · obtain ⟨o, _, _, e, _⟩ := hm; exact (G.eq _ _ e).trans X.nsf
  · obtain ⟨c1, c2⟩ := W.cell_ne hv
    obtain ⟨o, e, q⟩ := hv
    exact ⟨o, G.kp _ o c1 c2 e, q⟩
  · obtain ⟨o, e, q⟩ := hv; exact (G.eq _ _ e).trans hf

/-- one name is stored in the comprehension's frame -/
theorem Cs.store {cenv : Env} {D : Addr} {x : Str} {f : Fz} {qs : List Pd} {s : Shared} {v : Value} {Q : Unit → Shared → Prop} {E} (hk : cenv.scope.kind = .function) (X : Cs C cenv D x f qs s)
    (h : ∀ a h' tk, (a = cenv.locals ∨ ∃ c, cenv.kindOf x = some .cell ∧ cenv.cells.lookup x = some c ∧ a = c) → f a = none → (∃ o, s.heap.get? a = some o) → Heap.SameBut a s.heap h' → Slot cenv h' x (some v) → (∀ y ov, y ≠ x → cenv.kindOf y = some .local → Slot cenv s.heap y ov → Slot cenv h' y ov) → Cs C cenv D x f qs { s with heap := h', toks := tk } → Q () { s with heap := h', toks := tk }) :
    wpAny (M C) A (storeName cenv x v) Q E s := by
  obtain ⟨ys, ⟨n, hg⟩, ha⟩ := X.acc
  obtain ⟨m, hm⟩ := X.ns
  rcases X.cell with hkx | ⟨hkx, c, v₀, hc, hv, hf⟩
  · refine wpAny_storeName_local hkx hm (fun h' hn hs => h cenv.locals h' _ (.inl rfl) X.nsf (let ⟨o, _, _, e, _⟩ := hm; ⟨o, e⟩) hs (.inl ⟨hkx, _, hn, by simp⟩) (fun y ov hy hky q => ?_) ⟨⟨ys, ⟨n, (hs.2 D ?_).trans hg⟩, ha⟩, X.accf, ⟨_, hn⟩, X.nsf, .inl hkx⟩) (by rw [hk]; rfl)
    · rcases q with ⟨k, m', hn', hm'⟩ | ⟨k, _⟩
      · refine .inl ⟨k, _, hn, ?_⟩
        rw [if_neg hy]
        exact Slot.det (.inl ⟨k, m, hm, rfl⟩) (.inl ⟨k, m', hn', hm'⟩)
      · rw [hky] at k; rcases k with k | k <;> cases k
    · rintro rfl
      obtain ⟨o', _, _, e', q', _⟩ := hm
      rw [hg] at e'; cases e'; cases q'
  · refine wpAny_storeName_cell hk hkx hc hv fun h' hcell hs => h c h' s.toks (.inr ⟨c, hkx, hc, rfl⟩) hf (let ⟨o, e, _⟩ := hv; ⟨o, e⟩) hs (.inr ⟨.inl hkx, c, hc, hcell⟩) (fun y ov hy hky q => ?_) ⟨⟨ys, ⟨n, (hs.2 D ?_).trans hg⟩, ha⟩, X.accf, ⟨m, hm.sameBut hs ?_⟩, X.nsf, .inr ⟨hkx, c, _, hc, hcell, hf⟩⟩
    · rcases q with ⟨k, m', hn', hm'⟩ | ⟨k, _⟩
      · refine .inl ⟨k, m', hn'.sameBut hs ?_, hm'⟩
        rintro rfl
        obtain ⟨o', e', q'⟩ := hv
        obtain ⟨o'', _, _, e'', q'', _⟩ := hn'
        rw [e'] at e''; cases e''; rw [q'] at q''; cases q''
      · rw [hky] at k; rcases k with k | k <;> cases k
    · rintro rfl
      obtain ⟨o', e', q'⟩ := hv
      rw [hg] at e'; cases e'; cases q'
    · rintro rfl
      obtain ⟨o', e', q'⟩ := hv
      obtain ⟨o'', _, _, e'', q'', _⟩ := hm
      rw [e'] at e''; cases e''; rw [q'] at q''; cases q''

/-- the loop of a comprehension's last clause, at any depth -/
theorem compLoop_tests {e elt target : Expr} {ifs : List Expr} {d : Nat} {ip : Pos} {it acc : Value} {cenv : Env} {R : Result → Shared → Prop} {s : Shared} (I : Nat → Shared → Prop)
    (ht : compTurn e d it acc cenv = (do
      standAt ip
      match ← pyNext it with
      | none => pure (.done .next)
      | some v =>
        letOwnedTupleGo target it v
        assign target cenv v
        let mut ok := true
        for c in ifs do
          if ok then ok ← isTrue c cenv (eval c cenv)
        if ok then
          (do let _ ← call (.builtin "list.append") [acc, ← eval elt cenv])
        again (.compLoop e d it acc cenv)))
    (hfr : (Code.compLoop e d it acc cenv).isFrame = false) (hund : A.under (.compLoop e d it acc cenv) = A)
    (turn : ∀ n s, I n s → wpAny (M C) A (pyNext it) (fun r s₁ => match r with
      | none => R (.ok .next) s₁
      | some v => wpAny (M C) A (assign target cenv v) (fun _ s₂ =>
          wpAny (M C) A (forIn ifs true fun c r => if r = true then do let ok ← isTrue c cenv (eval c cenv); pure (ForInStep.yield ok) else pure (ForInStep.yield r)) (fun ok s₃ =>
            if ok = true then wpAny (M C) A (eval elt cenv) (fun x s₄ =>
              wpAny (M C) A (call (.builtin "list.append") [acc, x]) (fun _ s₅ => ∃ m, m < n ∧ I m s₅) NoE s₄) NoE s₃
            else ∃ m, m < n ∧ I m s₃) NoE s₂) NoE s₁) NoE s)
    (n : Nat) (h : I n s) (hg : ∀ v, letOwnedTupleGo target it v = pure () := by intro _; rfl) : codeAny (M C) A (.compLoop e d it acc cenv) R s := by
  refine codeAny_loop rfl I (fun n s hI => ?_) n h
  rw [hund]
  show wpAny _ A (if (Code.compLoop e d it acc cenv).isFrame then (compTurn e d it acc cenv).onRaise (leaving cenv) else (compTurn e d it acc cenv).onRaise (fun x => do noteFrame x cenv; theTreesLotGoes x)) _ _ s
  rw [hfr]
  refine wpAny_noted ?_
  rw [ht]
  refine wpAny_bind (wpAny_standAt (wpAny_bind (wpAny_mono (turn n s hI) (fun r s₁ h₁ => ?_) fun _ _ h' => h'.elim)))
  cases r with
  | none => exact wpAny_pure h₁
  | some v =>
    refine wpAny_bind (wpAny_of_eq (hg v) ?_)
    refine wpAny_bind (wpAny_mono h₁ (fun _ s₂ h₂ => wpAny_bind (wpAny_mono h₂ (fun ok s₃ h₃ => ?_) fun _ _ h' => h'.elim)) fun _ _ h' => h'.elim)
    cases ok with
    | false => exact wpAny_pure ⟨rfl, h₃⟩
    | true =>
      exact wpAny_bind (wpAny_bind (wpAny_mono h₃ (fun x s₄ h₄ => wpAny_bind (wpAny_mono h₄ (fun _ s₅ h₅ => wpAny_pure (wpAny_pure ⟨rfl, h₅⟩)) fun _ _ h' => h'.elim)) fun _ _ h' => h'.elim))

/-- other names of the comprehension's own frame -/
noncomputable def Locs (cenv : Env) (loc : List (Str × Pd)) (f : Fz) (h : Heap) : Prop := ∀ p ∈ loc, cenv.kindOf p.1 = some .local ∧ ∃ v, Slot cenv h p.1 (some v) ∧ p.2.p f v

theorem loop_core {e elt : Expr} {x : Str} {px : Pos} {ifs : List Expr} {d : Nat} {ip : Pos} {scope : Scope} {cl : List (Str × Addr)} {L D : Addr} {fz f₂ : Fz} {s s₂ : Shared} {I : Addr} {fp wr : List Addr} {items : List Pd} {St : Nat → Heap → Prop}
    {st' loc : List (Str × Pd)} {keep : Nat → Bool} {Q : Nat → Pd} {qs₀ : List Pd} {R : Result → Shared → Prop}
    (hturn : compTurn e d (.ref I) (.ref D) (cEnv scope cl L env) = (do
      standAt ip
      match ← pyNext (.ref I) with
      | none => pure (.done .next)
      | some v =>
        letOwnedTupleGo (.Name x px) (.ref I) v
        assign (.Name x px) (cEnv scope cl L env) v
        let mut ok := true
        for c in ifs do
          if ok then ok ← isTrue c (cEnv scope cl L env) (eval c (cEnv scope cl L env))
        if ok then
          (do let _ ← call (.builtin "list.append") [.ref D, ← eval elt (cEnv scope cl L env)])
        again (.compLoop e d (.ref I) (.ref D) (cEnv scope cl L env))))
    (hfr : (Code.compLoop e d (.ref I) (.ref D) (cEnv scope cl L env)).isFrame = false) (hund : A.under (.compLoop e d (.ref I) (.ref D) (cEnv scope cl L env)) = A)
    (hk : scope.kind = .function) (hcap : Caps env scope cl st st') (hsz : qs₀.length + items.length ≤ sizeLine) (hxl : ∀ p ∈ loc, p.1 ≠ x)
    (W : Wf C fz s) (F : Fe env st fz s.heap) (G : Grow C fz s f₂ s₂) (X : Cs C (cEnv scope cl L env) D x f₂ qs₀ s₂) (J : Locs (cEnv scope cl L env) loc f₂ s₂.heap)
    (nD : s.heap.get? D = none) (nL : s.heap.get? L = none) (nC : ∀ c, (cEnv scope cl L env).kindOf x = some .cell → (cEnv scope cl L env).cells.lookup x = some c → s.heap.get? c = none)
    (Wk : Walks PySem.Challenge.pw_pe0133_01 C.w A I fp wr items.length (fun i v => ∃ P, items[i]? = some P ∧ P.p f₂ v) St) (hst : St 0 s₂.heap)
    (hfp : ∀ b ∈ fp, b ∈ wr ∨ ∃ o, f₂ b = some o) (hwr : ∀ b ∈ wr, f₂ b = none ∧ s.heap.get? b = none ∧ b ≠ D ∧ b ≠ L ∧ ∀ c, (cEnv scope cl L env).kindOf x = some .cell → (cEnv scope cl L env).cells.lookup x = some c → b ≠ c) (hlive : ∀ i h, St i h → ∀ b ∈ wr, ∃ o, h.get? b = some o)
    (ht : ∀ i P, items[i]? = some P → Tifs C A (cEnv scope cl L env) ((x, P) :: (loc ++ st')) ifs (keep i))
    (he : ∀ i P, items[i]? = some P → keep i = true → Ev C A (cEnv scope cl L env) ((x, P) :: (loc ++ st')) elt (Q i))
    (hR : ∀ f s', Grow C fz s f s' → FzLe f₂ f → Cs C (cEnv scope cl L env) D x f (qs₀ ++ ((List.range items.length).filter keep).map Q) s' → Locs (cEnv scope cl L env) loc f s'.heap →
      (∀ b, f₂ b = none → (∃ o, s₂.heap.get? b = some o) → b ∉ wr → b ≠ D → b ≠ L → (∀ c, (cEnv scope cl L env).kindOf x = some .cell → (cEnv scope cl L env).cells.lookup x = some c → b ≠ c) → b ≠ C.t1 → b ≠ C.t2 → f b = none ∧ s'.heap.get? b = s₂.heap.get? b) → R (.ok .next) s') :
    codeAny (M C) A (.compLoop e d (.ref I) (.ref D) (cEnv scope cl L env)) R s₂ := by
  refine compLoop_tests (fun k s' => ∃ i f, k = items.length + 1 - i ∧ i ≤ items.length ∧ Grow C fz s f s' ∧ FzLe f₂ f ∧ St i s'.heap ∧ (∀ b ∈ wr, f b = none) ∧
    Cs C (cEnv scope cl L env) D x f (qs₀ ++ ((List.range i).filter keep).map Q) s' ∧ Locs (cEnv scope cl L env) loc f s'.heap ∧
    (∀ b, f₂ b = none → (∃ o, s₂.heap.get? b = some o) → b ∉ wr → b ≠ D → b ≠ L → (∀ c, (cEnv scope cl L env).kindOf x = some .cell → (cEnv scope cl L env).cells.lookup x = some c → b ≠ c) → b ≠ C.t1 → b ≠ C.t2 → f b = none ∧ s'.heap.get? b = s₂.heap.get? b)) hturn hfr hund ?_ (items.length + 1)
    ⟨0, f₂, rfl, Nat.zero_le _, G, .refl _, hst, fun b hb => (hwr b hb).1, by simpa using X, J, fun b h _ _ _ _ _ _ _ => ⟨h, rfl⟩⟩
  rintro k s' ⟨i, f, rfl, hile, G', hle, hst', hwf, X, J, hO⟩
  have wD : D ∉ wr := fun hb => (hwr _ hb).2.2.1 rfl
  have wL : L ∉ wr := fun hb => (hwr _ hb).2.2.2.1 rfl
  have wC : ∀ c, (cEnv scope cl L env).kindOf x = some .cell → (cEnv scope cl L env).cells.lookup x = some c → c ∉ wr := fun c h1 h2 hb => (hwr _ hb).2.2.2.2 c h1 h2 rfl
  have fpne : ∀ b ∈ fp, b ≠ C.t1 ∧ b ≠ C.t2 := fun b hb => by
    refine ⟨fun q => ?_, fun q => ?_⟩
    · rcases hfp b hb with hw | ⟨o', ho'⟩
      · obtain ⟨ps, e1, _⟩ := W.tab1; rw [← q, (hwr b hw).2.1] at e1; cases e1
      · rw [q, G.wf.n1] at ho'; cases ho'
    · rcases hfp b hb with hw | ⟨o', ho'⟩
      · obtain ⟨ps, e1, _⟩ := W.tab2; rw [← q, (hwr b hw).2.1] at e1; cases e1
      · rw [q, G.wf.n2] at ho'; cases ho'
  have Jgrow : ∀ {f f' : Fz} {s s' : Shared}, Wf C f s → Locs (cEnv scope cl L env) loc f s.heap → Grow C f s f' s' → Locs (cEnv scope cl L env) loc f' s'.heap := fun W J G p hp => by
    obtain ⟨k, v, hs, hv⟩ := J p hp
    exact ⟨k, v, hs.grow W G, p.2.mono (G.le W) hv⟩
  have drawn : ∀ h' tk, (∀ b o, b ∉ wr → s'.heap.get? b = some o → h'.get? b = some o) → Grow C fz s f { s' with heap := h', toks := tk } ∧ Cs C (cEnv scope cl L env) D x f (qs₀ ++ ((List.range i).filter keep).map Q) { s' with heap := h', toks := tk } ∧ Locs (cEnv scope cl L env) loc f h' := fun h' tk hkp => by
    refine ⟨G'.poke W hkp (fun b hb => (hwr b hb).2.1) hwf, ?_, fun p hp => ?_⟩
    · obtain ⟨ys, hpl, ha⟩ := X.acc
      obtain ⟨m, hm⟩ := X.ns
      exact ⟨⟨ys, hpl.at fun o e => hkp _ o wD e, ha⟩, X.accf, ⟨m, hm.at' fun o e => hkp _ o wL e⟩, X.nsf, X.cell.imp id fun ⟨hk', c, v, hc, ⟨o, e, q⟩, hf⟩ => ⟨hk', c, v, hc, ⟨o, hkp _ o (wC c hk' hc) e, q⟩, hf⟩⟩
    · obtain ⟨k, v, hs, hv⟩ := J p hp
      refine ⟨k, v, ?_, hv⟩
      rcases hs with ⟨k', m', hn', hm'⟩ | ⟨k', _⟩
      · exact .inl ⟨k', m', hn'.at' fun o e => hkp _ o wL e, hm'⟩
      · rw [k] at k'; rcases k' with k' | k' <;> cases k'
  have outer : ∀ b o, b ∉ wr → s'.heap.get? b = some o → True := fun _ _ _ _ => trivial
  by_cases hlt : i < items.length
  · refine Wk.item i _ _ _ hlt hst' fun v h₁ tk₁ hP hst₁ hkp => ?_
    obtain ⟨P, hPi, hPv⟩ := hP
    obtain ⟨G₁, X₁, J₁⟩ := drawn h₁ tk₁ hkp
    refine wpAny_assign_Name (X₁.store hk fun a h₂ tk₂ ha hfa hal hsb hslot hoth X₂ => ?_)
    have haw : a ∉ wr ∧ s.heap.get? a = none := by
      rcases ha with rfl | ⟨c, hkc, hc, rfl⟩
      · exact ⟨wL, nL⟩
      · exact ⟨wC _ hkc hc, nC _ hkc hc⟩
    have G₂ : Grow C fz s f { s' with heap := h₂, toks := tk₂ } := Grow.poke (s' := { s' with heap := h₁, toks := tk₁ }) (wr := [a]) W G₁ (fun b o hb e => (hsb.2 b (fun q => hb (q ▸ .head _))).trans e) (fun b hb => by cases hb with | head => exact haw.2 | tail _ h => cases h) (fun b hb => by cases hb with | head => exact hfa | tail _ h => cases h)
    have hst₂ : St (i + 1) h₂ := Wk.frame _ _ _ hst₁ fun b hb o e => (hsb.2 b (by
      rintro rfl
      rcases hfp b hb with hw | ⟨o', ho'⟩
      · exact haw.1 hw
      · have := hle _ _ ho'; rw [hfa] at this; cases this)).trans e
    have J₂ : Locs (cEnv scope cl L env) loc f h₂ := fun p hp => by
      obtain ⟨k, w, hs, hw⟩ := J₁ p hp
      exact ⟨k, w, hoth _ _ (hxl p hp) k hs, hw⟩
    have Fe₂ : Fe (cEnv scope cl L env) ((x, P) :: (loc ++ st')) f h₂ := by
      have F₁ := hcap.fe (F.grow W G₂) hk hslot (P.mono hle hPv)
      refine ⟨F₁.ok, fun y R hy => ?_⟩
      rw [List.lookup_cons] at hy
      cases e : y == x with
      | true => rw [e] at hy; cases hy; rw [eq_of_beq e]; exact ⟨v, hslot, P.mono hle hPv⟩
      | false =>
        rw [e] at hy
        rw [List.lookup_append] at hy
        cases e2 : loc.lookup y with
        | some R' =>
          rw [e2] at hy
          cases hy
          obtain ⟨_, w, hs, hw⟩ := J₂ (y, R) (mem_of_lookup e2)
          exact ⟨w, hs, hw⟩
        | none =>
          rw [e2] at hy
          exact F₁.var y R (by rw [List.lookup_cons, e]; exact hy)
    refine wpAny_mono (ht i P hPi f _ G₂.wf Fe₂) (fun ok s₃ ⟨e, f₃, G₃⟩ => ?_) fun _ _ e => e.elim
    subst e
    have X₃ := X₂.grow G₂.wf G₃
    have J₃ := Jgrow G₂.wf J₂ G₃
    have hst₃ : St (i + 1) s₃.heap := Wk.frame _ _ _ hst₂ fun b hb o e => G₃.kp b o (fpne b hb).1 (fpne b hb).2 e
    have wf₃ : ∀ b ∈ wr, f₃ b = none := fun b hb => by
      obtain ⟨o, e⟩ := hlive _ _ hst₂ b hb
      exact (G₃.eq b o e).trans (hwf b hb)
    have G₂₃ := G₂.trans W G₃
    have le₃ : FzLe f₂ f₃ := hle.trans (G₃.le G₂.wf)
    have hO₂ : ∀ b, f₂ b = none → (∃ o, s₂.heap.get? b = some o) → b ∉ wr → b ≠ D → b ≠ L → (∀ c, (cEnv scope cl L env).kindOf x = some .cell → (cEnv scope cl L env).cells.lookup x = some c → b ≠ c) → b ≠ C.t1 → b ≠ C.t2 → f b = none ∧ h₂.get? b = s₂.heap.get? b := fun b h1 h2 h3 h4 h5 h6 h7 h8 => by
      obtain ⟨q1, q2⟩ := hO b h1 h2 h3 h4 h5 h6 h7 h8
      obtain ⟨o, ho⟩ := h2
      refine ⟨q1, ?_⟩
      rw [hsb.2 b (by
        rintro rfl
        rcases ha with rfl | ⟨c, hkc, hc, rfl⟩
        · exact h5 rfl
        · exact h6 _ hkc hc rfl)]
      rw [ho] at q2 ⊢
      exact hkp b o h3 q2
    have hO₃ : ∀ b, f₂ b = none → (∃ o, s₂.heap.get? b = some o) → b ∉ wr → b ≠ D → b ≠ L → (∀ c, (cEnv scope cl L env).kindOf x = some .cell → (cEnv scope cl L env).cells.lookup x = some c → b ≠ c) → b ≠ C.t1 → b ≠ C.t2 → f₃ b = none ∧ s₃.heap.get? b = s₂.heap.get? b := fun b h1 h2 h3 h4 h5 h6 h7 h8 => by
      obtain ⟨q1, q2⟩ := hO₂ b h1 h2 h3 h4 h5 h6 h7 h8
      obtain ⟨o, ho⟩ := h2
      rw [ho] at q2 ⊢
      exact ⟨(G₃.eq b o q2).trans q1, G₃.kp b o h7 h8 q2⟩
    cases hki : keep i with
    | false =>
      simp only [Bool.false_eq_true, if_false]
      refine ⟨items.length + 1 - (i + 1), by omega, i + 1, f₃, rfl, hlt, G₂₃, le₃, hst₃, wf₃, ?_, J₃, hO₃⟩
      rw [List.range_succ, List.filter_append]
      simpa [hki] using X₃
    | true =>
      simp only [if_true]
      refine wpAny_mono (he i P hPi hki f₃ s₃ G₃.wf (Fe₂.grow G₂.wf G₃)) (fun y s₄ ⟨f₄, G₄, hy⟩ => ?_) fun _ _ e => e.elim
      have X₄ := X₃.grow G₃.wf G₄
      have J₄ := Jgrow G₃.wf J₃ G₄
      have G₂₄ := G₂₃.trans W G₄
      obtain ⟨ys, hpl, hys⟩ := X₄.acc
      have hz : ys.size ≤ sizeLine := by
        rw [← Array.length_toList, ← hys.length, List.length_append, List.length_map]
        have := List.length_filter_le keep (List.range i)
        rw [List.length_range] at this
        omega
      refine wpAny_list_append_plain (hsz := hz) hpl fun h₅ hpl₅ hsb₅ => ?_
      have hst₄ : St (i + 1) s₄.heap := Wk.frame _ _ _ hst₃ fun b hb o e => G₄.kp b o (fpne b hb).1 (fpne b hb).2 e
      have hst₅ : St (i + 1) h₅ := Wk.frame _ _ _ hst₄ fun b hb o e => (hsb₅.2 b (by
        rintro rfl
        rcases hfp _ hb with hw | ⟨o', ho'⟩
        · exact wD hw
        · have := le₃ _ _ ho'; rw [X₃.accf] at this; cases this)).trans e
      have wf₄ : ∀ b ∈ wr, f₄ b = none := fun b hb => by
        obtain ⟨o, e⟩ := hlive _ _ hst₃ b hb
        exact (G₄.eq b o e).trans (wf₃ b hb)
      have G₅ : Grow C fz s f₄ { s₄ with heap := h₅ } := G₂₄.poke (tk := s₄.toks) (wr := [D]) W (fun b o hb e => (hsb₅.2 b (fun q => hb (q ▸ .head _))).trans e)
        (fun b hb => by cases hb with | head => exact nD | tail _ h => cases h) (fun b hb => by cases hb with | head => exact X₄.accf | tail _ h => cases h)
      obtain ⟨m₄, hm₄⟩ := X₄.ns
      have hDL : L ≠ D := by
        rintro rfl
        obtain ⟨n, hg⟩ := hpl
        obtain ⟨o', _, _, e', q', _⟩ := hm₄
        rw [show (cEnv scope cl L env).locals = L from rfl, hg] at e'; cases e'; cases q'
      have J₅ : Locs (cEnv scope cl L env) loc f₄ h₅ := fun p hp => by
        obtain ⟨k, w, hs, hw⟩ := J₄ p hp
        refine ⟨k, w, ?_, hw⟩
        rcases hs with ⟨k', m', hn', hm'⟩ | ⟨k', _⟩
        · exact .inl ⟨k', m', hn'.sameBut hsb₅ hDL, hm'⟩
        · rw [k] at k'; rcases k' with k' | k' <;> cases k'
      refine ⟨items.length + 1 - (i + 1), by omega, i + 1, f₄, rfl, hlt, G₅, le₃.trans (G₄.le G₃.wf), hst₅, wf₄, ?_, J₅, fun b h1 h2 h3 h4 h5 h6 h7 h8 => ?_⟩
      · refine ⟨⟨ys.push y, hpl₅, ?_⟩, X₄.accf, ⟨m₄, hm₄.sameBut hsb₅ hDL⟩, X₄.nsf, X₄.cell.imp id fun ⟨hk', c, v, hc, hv, hf⟩ => ⟨hk', c, v, hc, hv.sameBut hsb₅ ?_, hf⟩⟩
        · rw [List.range_succ, List.filter_append, List.map_append, ← List.append_assoc]
          simpa [hki] using hys.snoc hy
        · rintro rfl
          obtain ⟨n, hg⟩ := hpl
          obtain ⟨o', e', q'⟩ := hv
          rw [hg] at e'; cases e'; cases q'
      · obtain ⟨q1, q2⟩ := hO₃ b h1 h2 h3 h4 h5 h6 h7 h8
        obtain ⟨o, ho⟩ := h2
        rw [ho] at q2
        refine ⟨(G₄.eq b o q2).trans q1, ?_⟩
        show h₅.get? b = _
        rw [hsb₅.2 b h4, G₄.kp b o h7 h8 q2, ho]
  · have hin : i = items.length := by omega
    subst hin
    refine Wk.done _ _ _ hst' fun h₁ tk₁ hkp => ?_
    obtain ⟨G₁, X₁, J₁⟩ := drawn h₁ tk₁ hkp
    refine hR f _ G₁ hle X₁ J₁ fun b h1 h2 h3 h4 h5 h6 h7 h8 => ?_
    obtain ⟨q1, q2⟩ := hO b h1 h2 h3 h4 h5 h6 h7 h8
    obtain ⟨o, ho⟩ := h2
    rw [ho] at q2 ⊢
    exact ⟨q1, hkp b o h3 q2⟩
end
end Mine
end
/-! # part M9b -/
section
open PySem PySem.W PySem.Calls PyProof.Rows PySem.SeqAt
set_option Elab.async false
set_option maxRecDepth 100000
set_option linter.unusedVariables false
namespace Mine
section
variable {C : Cx} {A : Around} {env : Env} {st : List (Str × Pd)}

/-- a comprehension's list and frame are made -/
theorem comp_begin {e : Expr} {x : Str} {scope : Scope} {cl : List (Str × Addr)} {fz f₂ : Fz} {s s₂ : Shared} {I : Addr} {RR : Value → Addr → Result → Shared → Prop} {E}
    (hx : XOk scope env x) (W : Wf C fz s) (G : Grow C fz s f₂ s₂)
    (h : ∀ D L s₄, Grow C fz s f₂ s₄ → (∀ b o, s₂.heap.get? b = some o → s₄.heap.get? b = some o) → s₂.heap.get? D = none → s₂.heap.get? L = none → D ≠ L → Cs C (cEnv scope cl L env) D x f₂ [] s₄ →
      (∀ c, (cEnv scope cl L env).kindOf x = some .cell → (cEnv scope cl L env).cells.lookup x = some c → s₂.heap.get? c = none) →
      codeAny (M C) A (.compStart e 0 (.ref I) (.ref D) (cEnv scope cl L env)) (RR (.ref D) L) s₄) :
    wpAny (M C) A (newList []) (fun acc s₃ => wpAny (M C) A (newFunctionEnv scope env.globals cl [] env.qual none .none (some env)) (fun cenv s₄ =>
      codeAny (M C) A (.compStart e 0 (.ref I) acc { cenv with scope := relabel scope env }) (RR acc cenv.locals) s₄) E s₃) E s₂ := by
  refine wpAny_newObj_type (newEnv_comp ?_)
  generalize hH3 : s₂.heap.push { cls := .type "list", dict := none, data := .seq ([] : List Value).toArray } = H3
  have hs3 : H3.objs.size = s₂.heap.objs.size + 1 := by rw [← hH3, Heap.size_push]
  generalize hH4 : pushCells (H3.push { cls := .type "dict", data := .dict #[] }) scope.names = H4
  have hD : s₂.heap.get? s₂.heap.objs.size = none := heap_fresh _
  have hL : s₂.heap.get? H3.objs.size = none := by
    cases e : s₂.heap.get? H3.objs.size with
    | none => rfl
    | some o => have := Heap.lt_size e; rw [hs3] at this; exact absurd (Nat.lt_of_succ_lt this) (Nat.lt_irrefl _)
  have k34 : ∀ b o, H3.get? b = some o → H4.get? b = some o := fun b o e => by
    rw [← hH4]; exact pushCells_keeps _ _ b o (Heap.get?_push_of_some _ e)
  have k24 : ∀ b o, s₂.heap.get? b = some o → H4.get? b = some o := fun b o e => k34 b o (by rw [← hH3]; exact Heap.get?_push_of_some _ e)
  have G4 := G.trans W (Grow.keep (tk := s₂.toks) G.wf k24)
  have fnone : ∀ a, s₂.heap.get? a = none → f₂ a = none := fun a e => by
    cases q : f₂ a with
    | none => rfl
    | some o => have := G.wf.le _ _ q; rw [e] at this; cases this
  have hDL : s₂.heap.objs.size ≠ H3.objs.size := by rw [hs3]; exact Nat.ne_of_lt (Nat.lt_succ_self _)
  have accD : H4.PlainList s₂.heap.objs.size #[] := ⟨0, k34 _ _ (by rw [← hH3]; exact Heap.get?_push_size _ rfl)⟩
  have nsL : ∃ m, H4.Ns H3.objs.size m := ⟨_, by rw [← hH4]; exact (Heap.Ns.new H3 (.type "dict")).keeps (pushCells_keeps _ _)⟩
  have hcellx : (cEnv scope cl H3.objs.size env).kindOf x = some .local ∨ ((cEnv scope cl H3.objs.size env).kindOf x = some .cell ∧ ∃ c v, (cEnv scope cl H3.objs.size env).cells.lookup x = some c ∧ H4.IsCell c v ∧ f₂ c = none ∧ s₂.heap.get? c = none) := by
    rcases hx with hx | hx
    · exact .inl (hx _ _)
    · obtain ⟨k1, c, hlt, hc, hm⟩ := hx H3.objs.size cl
      have hn : s₂.heap.get? c = none := by
        cases e : s₂.heap.get? c with
        | none => rfl
        | some o =>
          have h1 := Heap.lt_size e
          rw [hs3] at hlt
          exact absurd (Nat.lt_trans h1 (Nat.lt_of_succ_lt hlt)) (Nat.lt_irrefl _)
      refine .inr ⟨k1, c, none, hc, ?_, fnone c hn, hn⟩
      have := cells_alive scope.names (H3.push { cls := .type "dict", data := .dict #[] }) x c (by rw [Heap.size_push]; exact hm)
      rw [hH4] at this; exact this
  have X0 : Cs C (cEnv scope cl H3.objs.size env) s₂.heap.objs.size x f₂ [] { s₂ with heap := H4 } :=
    ⟨⟨#[], accD, trivial⟩, fnone _ hD, nsL, fnone _ hL, hcellx.imp id fun ⟨k, c, v, hc, hv, hf, _⟩ => ⟨k, c, v, hc, hv, hf⟩⟩
  refine h s₂.heap.objs.size H3.objs.size { s₂ with heap := H4 } G4 k24 hD hL hDL X0 fun c hkc hc => ?_
  rcases hcellx with h | ⟨_, c', v, hc', _, _, hn⟩
  · rw [hkc] at h; cases h
  · rw [hc] at hc'; cases hc'; exact hn

/-- what stands when a comprehension's loop is through -/
structure Done (C : Cx) (fz : Fz) (s : Shared) (D L : Addr) (qs : List Pd) (s' : Shared) : Prop where
  ns : ∃ m, s'.heap.Ns L m
  newL : s.heap.get? L = none
  newD : s.heap.get? D = none
  res : ∃ f ys, Grow C fz s f s' ∧ s'.heap.PlainList D ys ∧ All2 f qs ys.toList ∧ f D = none ∧ f L = none

/-- the loop of a comprehension with one clause -/
theorem comp_loop {elt iter : Expr} {x : Str} {px : Pos} {ifs : List Expr} {scope : Scope} {pos : Pos} {cl : List (Str × Addr)} {fz f₂ : Fz} {s s₂ : Shared} {I : Addr} {fp wr : List Addr} {items : List Pd} {St : Nat → Heap → Prop}
    {st' : List (Str × Pd)} {keep : Nat → Bool} {Q : Nat → Pd} {RR : Value → Addr → Result → Shared → Prop} {E}
    (hk : scope.kind = .function) (hx : XOk scope env x) (hcap : Caps env scope cl st st') (hsz : items.length ≤ sizeLine)
    (W : Wf C fz s) (F : Fe env st fz s.heap) (G : Grow C fz s f₂ s₂)
    (Wk : Walks PySem.Challenge.pw_pe0133_01 C.w A I fp wr items.length (fun i v => ∃ P, items[i]? = some P ∧ P.p f₂ v) St) (hst : St 0 s₂.heap)
    (hfp : ∀ b ∈ fp, b ∈ wr ∨ ∃ o, f₂ b = some o) (hwr : ∀ b ∈ wr, f₂ b = none ∧ s.heap.get? b = none) (hlive : ∀ i h, St i h → ∀ b ∈ wr, ∃ o, h.get? b = some o)
    (ht : ∀ L i P, items[i]? = some P → Tifs C A (cEnv scope cl L env) ((x, P) :: st') ifs (keep i))
    (he : ∀ L i P, items[i]? = some P → keep i = true → Ev C A (cEnv scope cl L env) ((x, P) :: st') elt (Q i))
    (hRR : ∀ D L s', Done C fz s D L (((List.range items.length).filter keep).map Q) s' → RR (.ref D) L (.ok .next) s') :
    wpAny (M C) A (newList []) (fun acc s₃ => wpAny (M C) A (newFunctionEnv scope env.globals cl [] env.qual none .none (some env)) (fun cenv s₄ =>
      codeAny (M C) A (.compStart (.ListComp elt [⟨.Name x px, iter, ifs, 0⟩] scope pos) 0 (.ref I) acc { cenv with scope := relabel scope env }) (RR acc cenv.locals) s₄) E s₃) E s₂ := by
  refine comp_begin hx W G fun D L s₄ G4 k24 hD hL hDL X0 hC => ?_
  have newb : ∀ a, s₂.heap.get? a = none → s.heap.get? a = none := fun a e => fresh_before G e
  have hst4 : St 0 s₄.heap := Wk.frame _ _ _ hst fun b _ o e => k24 b o e
  have wlive : ∀ b ∈ wr, ∃ o, s₂.heap.get? b = some o := hlive _ _ hst
  have loop : codeAny (M C) A (.compLoop (.ListComp elt [⟨.Name x px, iter, ifs, 0⟩] scope pos) 0 (.ref I) (.ref D) (cEnv scope cl L env)) (RR (.ref D) L) s₄ := by
    refine loop_core (loc := []) (ip := iter.pos) (compTurn_list _ _ _ _ _ _ _ _ _) rfl rfl hk hcap (by simpa using hsz) (fun p hp => by cases hp) W F G4 X0 (fun p hp => by cases hp) (newb _ hD) (newb _ hL) (fun c h1 h2 => newb _ (hC c h1 h2)) Wk hst4 hfp
      (fun b hb => ?_) hlive (fun i P h => ht L i P h) (fun i P h h' => he L i P h h') fun f s' G' hle X _ _ => ?_
    · obtain ⟨o, e⟩ := wlive b hb
      exact ⟨(hwr b hb).1, (hwr b hb).2, fun q => (by rw [q, hD] at e; cases e), fun q => (by rw [q, hL] at e; cases e), fun c h1 h2 q => (by rw [q, hC c h1 h2] at e; cases e)⟩
    · obtain ⟨ys, hpl, hys⟩ := X.acc
      exact hRR _ _ _ ⟨X.ns, newb _ hL, newb _ hD, f, ys, G', hpl, by simpa using hys, X.accf, X.nsf⟩
  exact codeAny_compStart_list loop (Wk.self 0 _ _ _ hst4 loop)

theorem Done.froze {fz : Fz} {s s' : Shared} {D L : Addr} {qs : List Pd} {h' : Heap} (W : Wf C fz s) (X : Done C fz s D L qs s') (hsb : Heap.SameBut L s'.heap h') : ∃ f', Grow C fz s f' { s' with heap := h' } ∧ (lst qs).p f' (.ref D) ∧ f' L = none := by
  obtain ⟨f, ys, G', hpl, hys, hfD, hfL⟩ := X.res
  obtain ⟨m, hm⟩ := X.ns
  have G'' : Grow C fz s f { s' with heap := h' } := G'.poke (tk := s'.toks) (wr := [L]) W (fun b o hb e => (hsb.2 b (fun q => hb (q ▸ .head _))).trans e)
    (fun b hb => by cases hb with | head => exact X.newL | tail _ h => cases h) (fun b hb => by cases hb with | head => exact hfL | tail _ h => cases h)
  have hDL : D ≠ L := by
    rintro rfl
    obtain ⟨n, hg⟩ := hpl
    obtain ⟨o', _, _, e', q', _⟩ := hm
    rw [hg] at e'; cases e'; cases q'
  obtain ⟨n, hg⟩ := hpl
  have hg' : h'.get? D = some (listObj ys n) := (hsb.2 D hDL).trans hg
  have le := fadd_le (o := listObj ys n) hfD
  obtain ⟨d1, d2⟩ := G''.wf.seq_ne hg' rfl
  refine ⟨fadd f D (listObj ys n), ⟨G''.wf.fadd hg' hfD d1 d2, fun a o e => ?_, G''.kp⟩, ⟨D, _, ys, n, rfl, fadd_self, rfl, rfl, hys.mono le⟩, (fadd_ne hDL.symm).trans hfL⟩
  rw [fadd_ne]
  · exact G''.eq a o e
  · rintro rfl; rw [X.newD] at e; cases e

/-- what a comprehension gives -/
theorem Ev.comp {elt iter : Expr} {x : Str} {px : Pos} {ifs : List Expr} {scope : Scope} {pos : Pos} {cl : List (Str × Addr)} {items : List Pd} {st' : List (Str × Pd)} (keep : Nat → Bool) (Q : Nat → Pd)
    (hi : It C A env st iter items) (hclos : closureFor scope env = pure cl) (hk : scope.kind = .function) (hnames : ∀ x ∈ scope.names, x.2 = .local → scope.names.lookup x.1 = some .local) (hx : XOk scope env x) (hcap : Caps env scope cl st st') (hsz : items.length ≤ sizeLine)
    (ht : ∀ L i P, items[i]? = some P → Tifs C A (cEnv scope cl L env) ((x, P) :: st') ifs (keep i))
    (he : ∀ L i P, items[i]? = some P → keep i = true → Ev C A (cEnv scope cl L env) ((x, P) :: st') elt (Q i))
    (hs : ∀ x, foldedSetIterable iter env x = pure x := by intro _; rfl) :
    Ev C A env st (.ListComp elt [⟨.Name x px, iter, ifs, 0⟩] scope pos) (lst (((List.range items.length).filter keep).map Q)) := fun fz s W F => by
  rw [eval_ListComp]
  refine wpAny_comprehension_free (use := none) rfl hs hclos hk hnames (wpAny_mono (hi fz s W F) (fun xv s₁ h₁ => wpAny_mono h₁ (fun it s₂ ⟨f₂, I, fp, wr, St, e, G, Wk, hst, hfp, hwr, hlive⟩ => ?_) fun _ _ e => e) fun _ _ e => e)
  subst e
  refine comp_loop (RR := fun acc L => compPost (M C) A NoE none (Rs C fz s _) acc L) hk hx hcap hsz W F G Wk hst hfp hwr hlive ht he fun D L s' X => ?_
  obtain ⟨m, hm⟩ := X.ns
  refine ⟨m, hm, fun h' hsb => ?_⟩
  obtain ⟨f', G', hp, _⟩ := X.froze W hsb
  exact ⟨f', G', hp⟩
end

section
variable {C : Cx} {A : Around} {env : Env} {st : Store}
/-- a name takes a comprehension's list ahead of the comprehension's names going -/
theorem Ex1.assignComp {elt iter : Expr} {x y : Str} {px py spos : Pos} {ifs : List Expr} {scope : Scope} {pos : Pos} {cl : List (Str × Addr)} {items : List Pd} {st' : List (Str × Pd)} (keep : Nat → Bool) (Q : Nat → Pd)
    (hi : It C A env (see seeF st) iter items) (hky : StOk env y) (hsw : swapsWith (.ListComp elt [⟨.Name x px, iter, ifs, 0⟩] scope pos) (some (.Name y py)) spos.line env = pure true)
    (hclos : closureFor scope env = pure cl) (hk : scope.kind = .function) (hnames : ∀ x ∈ scope.names, x.2 = .local → scope.names.lookup x.1 = some .local) (hx : XOk scope env x) (hcap : Caps env scope cl (see seeF st) st') (hsz : items.length ≤ sizeLine)
    (ht : ∀ L i P, items[i]? = some P → Tifs C A (cEnv scope cl L env) ((x, P) :: st') ifs (keep i))
    (he : ∀ L i P, items[i]? = some P → keep i = true → Ev C A (cEnv scope cl L env) ((x, P) :: st') elt (Q i))
    (hs : ∀ x, foldedSetIterable iter env x = pure x := by intro _; rfl) :
    Ex1 C A env (.Assign [.Name y py] (.ListComp elt [⟨.Name x px, iter, ifs, 0⟩] scope pos) spos) st (Nx ((y, .fix (lst (((List.range items.length).filter keep).map Q))) :: st)) := fun ex fz s hex W ⟨ad, F⟩ => by
  rw [exec_Assign_Name_used _ _ _ _ hsw]
  refine wpAny_bind (wpAny_standAt (wpAny_bind ?_))
  show wpAny _ A (do let _ ← comprehension (.ListComp elt [⟨.Name x px, iter, ifs, 0⟩] scope pos) scope env _ (newList []) false (eval iter env) (some (PySem.assign (.Name y py) env))) _ _ s
  refine wpAny_bind (wpAny_mono (wpAny_comprehension_free (use := some (PySem.assign (.Name y py) env)) (E := NoE) (Q := fun _ s' => Post C env (Nx ((y, .fix (lst (((List.range items.length).filter keep).map Q))) :: st)) ex fz .next s') rfl hs hclos hk hnames
    (wpAny_mono (hi fz s W F.feF) (fun xv s₁ h₁ => wpAny_mono h₁ (fun it s₂ ⟨f₂, I, fp, wr, St, e, G, Wk, hst, hfp, hwr, hlive⟩ => ?_) fun _ _ e => e) fun _ _ e => e)) (fun _ s' hq => wpAny_pure (wpAny_pure hq)) fun _ _ e => e)
  subst e
  refine comp_loop (RR := fun acc L => compPost (M C) A NoE (some (PySem.assign (.Name y py) env)) (fun _ s' => Post C env (Nx ((y, .fix (lst (((List.range items.length).filter keep).map Q))) :: st)) ex fz .next s') acc L) hk hx hcap hsz W F.feF G Wk hst hfp hwr hlive ht he fun D L s' X => ?_
  obtain ⟨f', G', hp, hfL⟩ := X.froze W (Heap.SameBut.refl _ _)
  obtain ⟨m, hm⟩ := X.ns
  have F' := F.grow W G' hex
  have exL : ex L = none := by
    cases q : ex L with
    | none => rfl
    | some o => have := F.exle L o q; rw [X.newL] at this; cases this
  have nL : env.locals ∉ [L] := fun hb => by
    obtain ⟨m, o, _, _, e, _⟩ := F.hasL
    cases hb with
    | head => rw [X.newL] at e; cases e
    | tail _ h => cases h
  have nC : ∀ x c, env.cells.lookup x = some c → c ∉ [L] := fun x c h hb => by
    obtain ⟨v, o, e, _⟩ := F.hasC x c h
    cases hb with
    | head => rw [X.newL] at e; cases e
    | tail _ h => cases h
  have nO : ∀ x pl ps, st.lookup x = some (.own pl ps) → ad x ∉ [L] := fun x pl ps h hb => by
    obtain ⟨_, _, _, o, vs, n, hg, _⟩ := F.own x pl ps h
    generalize ad x = a at hb hg
    cases hb with
    | head => rw [X.newL] at hg; cases hg
    | tail _ h => cases h
  have n1 : C.t1 ∉ [L] := fun hb => by
    obtain ⟨ps, e, _⟩ := W.tab1
    generalize C.t1 = a at hb e
    cases hb with
    | head => rw [X.newL] at e; cases e
    | tail _ h => cases h
  have n2 : C.t2 ∉ [L] := fun hb => by
    obtain ⟨ps, e, _⟩ := W.tab2
    generalize C.t2 = a at hb e
    cases hb with
    | head => rw [X.newL] at e; cases e
    | tail _ h => cases h
  have Fg := F'.guard nL nC nO
  have hs' : ({ s' with heap := s'.heap } : Shared) = s' := rfl
  show wpAny _ A (PySem.assign (.Name y py) env (.ref D)) _ _ s'
  refine wpAny_assign_Name (stored G'.wf Fg hky fun s₃ S => ?_)
  have hmL : ∃ o, s'.heap.get? L = some o := let ⟨o, _, _, e, _⟩ := hm; ⟨o, e⟩
  obtain ⟨oL, eL⟩ := hmL
  have eL₃ : s₃.heap.get? L = some oL := S.keepX L oL ((if_pos (.head _)).trans eL)
  refine ⟨m, hm.at' fun o e => ?_, fun h' hsb => ?_⟩
  · rw [show s'.heap.get? L = some oL from eL] at e; cases e; exact eL₃
  · have F₃ := Fg.bindFix S hp
    obtain ⟨F₄, hO₄⟩ := F₃.unguard (wr := [L]) (h₀ := s'.heap) (fun b hb => by cases hb with | head => exact exL | tail _ h => cases h) (fun b hb => by cases hb with | head => exact ⟨oL, eL⟩ | tail _ h => cases h)
    obtain ⟨W₅, F₅⟩ := F₄.drawn (tk := s₃.toks) (wr := [L]) (h' := h') S.wf (fun b o hb e => (hsb.2 b (fun q => hb (q ▸ .head _))).trans e) (fun b hb => by cases hb with | head => exact hfL | tail _ h => cases h) (fun b hb => by cases hb with | head => exact exL | tail _ h => cases h)
      nL nC hO₄ n1 n2
    exact ⟨.next, _, f', ⟨rfl, rfl⟩, trivial, W₅, ⟨ad, F₅⟩, F.kx W G'⟩
end
end Mine
end
/-! # part M10 -/
section
open PySem PySem.W PySem.Calls PyProof.Rows PySem.SeqAt
set_option Elab.async false
set_option maxRecDepth 100000
set_option linter.unusedVariables false
namespace Mine
/-! ## the text's own defs -/
noncomputable def stAt (n : Nat) : Stmt := (PySem.Challenge.pw_pe0133_01.main.body[n]?).getD (.Pass default)
noncomputable def bodyOf (n : Nat) : List Stmt := match stAt n with | .FunctionDef _ _ b _ _ _ _ _ _ _ => b | _ => []
noncomputable def scopeOf (n : Nat) : Scope := match stAt n with | .FunctionDef _ _ _ _ _ _ s _ _ _ => s | _ => default
noncomputable def paramsOf (n : Nat) : Arguments := match stAt n with | .FunctionDef _ a _ _ _ _ _ _ _ _ => a | _ => default
noncomputable def nameOf (n : Nat) : Str := match stAt n with | .FunctionDef a _ _ _ _ _ _ _ _ _ => a | _ => default
noncomputable def fdAt (n : Nat) (pm code doc : Value) : FuncData := docDef (nameOf n) (paramsOf n) (bodyOf n) (scopeOf n) pm code doc
/-- a def of the text, as the top has left it -/
structure FnAt (C : Cx) (n : Nat) (a : Addr) : Prop where
  mg : C.mg (nameOf n) = some (.ref a)
  obj : ∃ o pm code doc, C.h0.get? a = some o ∧ o.data = .func (fdAt n pm code doc) ∧ C.h0.CodeRec code (nameOf n)
theorem FnAt.isFn {C : Cx} {n : Nat} {a : Addr} (h : FnAt C n a) : ∃ fd, IsFn C a fd := let ⟨o, pm, code, doc, h1, h2, _⟩ := h.obj; ⟨_, o, h1, h2⟩
noncomputable def bnames : List Str := ["len", "max", "range", "reversed", "divmod", "sum", "sorted"].map Str.ofString
structure Tops (C : Cx) : Prop where
  free : ∀ x ∈ bnames, C.mg x = none
  lim : ∃ t, C.mg (Str.ofString "_DIV_LIMIT") = some (.int 4000 t)
theorem Tops.no {C : Cx} (T : Tops C) {x : Str} (h : bnames.contains x = true) : C.mg x = none := T.free x (List.contains_iff_mem.mp h)

section
variable {C : Cx} {A : Around} {env : Env} {st : List (Str × Pd)}
theorem Ev.gint {x : Str} {pos} {i : Int} (hk : env.kindOf x = some .globalImplicit) (h : ∃ t, C.mg x = some (.int i t)) (hd : (x == ("__debug__" : Str)) = false := by decide) : Ev C A env st (.Name x pos) (int i) := by
  obtain ⟨t, h⟩ := h
  exact Ev.weak (Ev.globals hk h hd) fun fz v e => ⟨t, e⟩
/-- a call of a built-in function by its name -/
theorem Ev.bltB {x : Str} {p pos} {id : String} {e : Expr} {es : List Expr} {ps : List Pd} {R : Pd} (T : Tops C) (hk : env.kindOf x = some .globalImplicit) (hm : bnames.contains x = true) (hb : bootBuiltins x = some (.builtin id)) (ha : Evs C A env st pos (e :: es) ps) (hc : Cl C A (.builtin id) ps R)
    (hn : x ≠ "__name__" := by decide) (hd : (x == ("__debug__" : Str)) = false := by decide)
    (he : backTo pos (starEach (e :: es) env) = (false, eval e env) :: backTo pos (starEach es env) := by rfl) (hp : (backTo pos (starEach es env)).any (·.1) = false := by rfl) :
    Ev C A env st (.Call (.Name x p) (e :: es) [] pos) R := Ev.callB (Ev.builtins hk (T.no hm) hb hn hd) ha hc he hp
theorem Ev.bltT {x : Str} {p} {id : String} (T : Tops C) (hk : env.kindOf x = some .globalImplicit) (hm : bnames.contains x = true) (hb : bootBuiltins x = some (.type id)) (hn : x ≠ "__name__" := by decide) (hd : (x == ("__debug__" : Str)) = false := by decide) :
    Ev C A env st (.Name x p) (val (.type id)) := Ev.builtins hk (T.no hm) hb hn hd
/-- a call of a def of the text by its name -/
theorem Ev.fn {x : Str} {p pos} {n : Nat} {a : Addr} {e : Expr} {es : List Expr} {ps : List Pd} {R : Pd} (hf : FnAt C n a) (hk : env.kindOf x = some .globalImplicit) (hx : nameOf n = x) (ha : Evs C A env st pos (e :: es) ps) (hc : Cl C A (.ref a) ps R)
    (hd : (x == ("__debug__" : Str)) = false := by decide) (he : backTo pos (starEach (e :: es) env) = (false, eval e env) :: backTo pos (starEach es env) := by rfl) :
    Ev C A env st (.Call (.Name x p) (e :: es) [] pos) R := by
  obtain ⟨fd, h⟩ := hf.isFn
  exact Ev.callF (Ev.globals hk (hx ▸ hf.mg) hd) h ha hc he
end

theorem boot_len : bootBuiltins (Str.ofString "len") = some (.builtin "len") := by decide +kernel
theorem boot_max : bootBuiltins (Str.ofString "max") = some (.builtin "max") := by decide +kernel
theorem boot_sum : bootBuiltins (Str.ofString "sum") = some (.builtin "sum") := by decide +kernel
theorem boot_sorted : bootBuiltins (Str.ofString "sorted") = some (.builtin "sorted") := by decide +kernel
theorem boot_divmod : bootBuiltins (Str.ofString "divmod") = some (.builtin "divmod") := by decide +kernel
theorem boot_range' : bootBuiltins (Str.ofString "range") = some (.type "range") := by decide +kernel
theorem boot_reversed : bootBuiltins (Str.ofString "reversed") = some (.type "reversed") := by decide +kernel
section
variable {C : Cx} {A : Around} {env : Env} {st : List (Str × Pd)}
theorem Ev.len {p pos} {e : Expr} {P R : Pd} (T : Tops C) (hk : env.kindOf (Str.ofString "len") = some .globalImplicit) (ha : Evs C A env st pos [e] [P]) (hc : Cl C A (.builtin "len") [P] R)
    (he : backTo pos (starEach [e] env) = (false, eval e env) :: backTo pos (starEach [] env) := by rfl) : Ev C A env st (.Call (.Name (Str.ofString "len") p) [e] [] pos) R := Ev.bltB T hk (by decide +kernel) boot_len ha hc (he := he)
theorem Ev.max {p pos} {e : Expr} {P R : Pd} (T : Tops C) (hk : env.kindOf (Str.ofString "max") = some .globalImplicit) (ha : Evs C A env st pos [e] [P]) (hc : Cl C A (.builtin "max") [P] R)
    (he : backTo pos (starEach [e] env) = (false, eval e env) :: backTo pos (starEach [] env) := by rfl) : Ev C A env st (.Call (.Name (Str.ofString "max") p) [e] [] pos) R := Ev.bltB T hk (by decide +kernel) boot_max ha hc (he := he)
theorem Ev.sum {p pos} {e : Expr} {P R : Pd} (T : Tops C) (hk : env.kindOf (Str.ofString "sum") = some .globalImplicit) (ha : Evs C A env st pos [e] [P]) (hc : Cl C A (.builtin "sum") [P] R)
    (he : backTo pos (starEach [e] env) = (false, eval e env) :: backTo pos (starEach [] env) := by rfl) : Ev C A env st (.Call (.Name (Str.ofString "sum") p) [e] [] pos) R := Ev.bltB T hk (by decide +kernel) boot_sum ha hc (he := he)
theorem Ev.sorted {p pos} {e : Expr} {P R : Pd} (T : Tops C) (hk : env.kindOf (Str.ofString "sorted") = some .globalImplicit) (ha : Evs C A env st pos [e] [P]) (hc : Cl C A (.builtin "sorted") [P] R)
    (he : backTo pos (starEach [e] env) = (false, eval e env) :: backTo pos (starEach [] env) := by rfl) : Ev C A env st (.Call (.Name (Str.ofString "sorted") p) [e] [] pos) R := Ev.bltB T hk (by decide +kernel) boot_sorted ha hc (he := he)
theorem Ev.divmod {p pos} {e e' : Expr} {P Q R : Pd} (T : Tops C) (hk : env.kindOf (Str.ofString "divmod") = some .globalImplicit) (ha : Evs C A env st pos [e, e'] [P, Q]) (hc : Cl C A (.builtin "divmod") [P, Q] R)
    (he : backTo pos (starEach [e, e'] env) = (false, eval e env) :: backTo pos (starEach [e'] env) := by rfl) (hp : (backTo pos (starEach [e'] env)).any (·.1) = false := by rfl) : Ev C A env st (.Call (.Name (Str.ofString "divmod") p) [e, e'] [] pos) R := Ev.bltB T hk (by decide +kernel) boot_divmod ha hc (he := he) (hp := hp)
theorem It.rangeTo {p pos} {e : Expr} {b : Int} (T : Tops C) (hh : A.handled = none) (hk : env.kindOf (Str.ofString "range") = some .globalImplicit) (h : Ev C A env st e (int b)) (hb : -(2 ^ 62) ≤ b) (hb' : b < 2 ^ 62)
    (he : backTo pos (starEach [e] env) = [(false, eval e env)] := by rfl) : It C A env st (.Call (.Name (Str.ofString "range") p) [e] [] pos) ((rng 0 b.toNat).map int) :=
  It.range1 hh (Ev.bltT T hk (by decide +kernel) boot_range') h hb hb' he
theorem It.rangeFrom {p pos} {e₁ e₂ : Expr} {a b : Int} (T : Tops C) (hh : A.handled = none) (hk : env.kindOf (Str.ofString "range") = some .globalImplicit) (h1 : Ev C A env st e₁ (int a)) (h2 : Ev C A env st e₂ (int b)) (ha : -(2 ^ 62) ≤ a) (ha' : a < 2 ^ 62) (hb : -(2 ^ 62) ≤ b) (hb' : b < 2 ^ 62)
    (he : backTo pos (starEach [e₁, e₂] env) = [(false, eval e₁ env), (false, eval e₂ env)] := by rfl) : It C A env st (.Call (.Name (Str.ofString "range") p) [e₁, e₂] [] pos) ((rng a (b - a).toNat).map int) :=
  It.range2 hh (Ev.bltT T hk (by decide +kernel) boot_range') h1 h2 ha ha' hb hb' he
theorem It.rev {p pos} {e : Expr} {ps : List Pd} (T : Tops C) (hh : A.handled = none) (hk : env.kindOf (Str.ofString "reversed") = some .globalImplicit) (h : Ev C A env st e (lst ps))
    (he : backTo pos (starEach [e] env) = [(false, eval e env)] := by rfl) : It C A env st (.Call (.Name (Str.ofString "reversed") p) [e] [] pos) ps.reverse :=
  It.reversed hh (Ev.bltT T hk (by decide +kernel) boot_reversed) h he
end
/-- a def of the text is entered -/
theorem Cl.fn {C : Cx} {A : Around} {k : Nat} {a : Addr} {n : Nat} {names : List Str} {ps : List Pd} {P : Pd} (hA : Rm (k + 1) A) (hf : FnAt C n a)
    (hlen : names.length = ps.length) (hnd : names.Nodup) (hbind : ∀ pm code doc vs, vs.length = names.length → bindArgs (fdAt n pm code doc) ⟨vs, []⟩ = pure (names.zip vs))
    (hkind : ∀ m, (names.all fun x => (scopeOf n).names.lookup x == some .local || ((scopeOf n).names.lookup x == some .cell && ((cellsFrom m (scopeOf n).names []).lookup x).isSome)) = true)
    (hco : (scopeOf n).isCoroutine = false) (hgen : (scopeOf n).isGenerator = false) (hk : (scopeOf n).kind = .function)
    (h : ∀ pm code doc L, Ex C (A.deeper (callEnvC (fdAt n pm code doc) L a)) (callEnvC (fdAt n pm code doc) L a) (bodyOf n) (names.zip (ps.map Ent.fix)) (fun r _ => r = .ret P)) : Cl C A (.ref a) ps P := by
  obtain ⟨o, pm, code, doc, ho, hd, hcd⟩ := hf.obj
  refine Cl.defC hA ho hd hcd rfl rfl rfl rfl hlen hnd (hbind pm code doc) (fun m x hx => ?_) hco hgen hk fun L => h pm code doc L
  have := List.all_eq_true.mp (hkind m) x hx
  rcases Bool.or_eq_true_iff.mp this with q | q
  · exact .inl (eq_of_beq q)
  · obtain ⟨q1, q2⟩ := Bool.and_eq_true_iff.mp q
    exact .inr ⟨eq_of_beq q1, q2⟩


/-! ## loops over canonical stores -/
theorem Sub.nil {st : Store} : Sub [] st := fun _ h => nomatch h
theorem Sub.cons {x : Str} {e : Ent} {l st : Store} (h : st.lookup x = some e) (r : Sub l st) : Sub ((x, e) :: l) st := fun p hp => by
  rcases List.mem_cons.mp hp with rfl | hp
  · exact h
  · exact r p hp
theorem Sub.keep {x : Str} {e : Ent} {l st : Store} (r : Sub l st) (h : ∀ p ∈ l, p.1 ≠ x) : Sub ((x, e) :: l) ((x, e) :: st) := fun p hp => by
  rcases List.mem_cons.mp hp with rfl | hp
  · exact lookup_cons_self
  · rw [lookup_cons_ne (h p hp)]; exact r p hp
section
variable {C : Cx} {A : Around} {env : Env} {st : Store} {R : Fl → Store → Prop}
/-- goes on with what K says -/
noncomputable def NxS (K : Store) : Fl → Store → Prop := fun r st => r = .next ∧ Sub K st
theorem Ex.stepS {b : Stmt} {rest : List Stmt} {K : Store} (h : Ex1 C A env b st (NxS K)) (hn : Ex C A env rest K R) : Ex C A env (b :: rest) st R :=
  Ex.cons h (fun _ e => hn.sub e.2) fun r _ e hr => absurd e.1 hr
noncomputable def TurnS (K : Store) : Fl → Store → Prop := fun r st' => match r with
  | .next | .cont => Sub K st'
  | _ => False
theorem Ex1.forS {x : Str} {px pos} {iter : Expr} {body : List Stmt} {items : List Pd} {ns : List Str} (K : Nat → Store) (hi : It C A env (see seeF st) iter items) (hk : StOk env x)
    (hns : ∀ i, (K i).map (·.1) = ns) (hx : x ∉ ns) (h0 : Sub (K 0) st)
    (turn : ∀ i P, items[i]? = some P → Ex C A env body ((x, .fix P) :: K i) (TurnS (K (i + 1))))
    (hs : ∀ x, foldedSetIterable iter env x = pure x := by intro _; rfl) : Ex1 C A env (.For (.Name x px) iter body [] pos) st (NxS (K items.length)) :=
  Ex1.for hi hk (fun i st => Sub (K i) st) (fun i P st hP hI => ((turn i P hP).sub (hI.keep fun p hp q => hx (by rw [← q, ← hns i]; exact List.mem_map_of_mem hp))).mono fun r st' h => by
    cases r with
    | next => exact h
    | cont => exact h
    | brk => exact h.elim
    | ret P => exact h.elim) h0 (fun st' h => ⟨rfl, h⟩) hs
/-- a while whose state is σ -/
theorem Ex1.whlS {σ : Type} {t : Expr} {body : List Stmt} {pos} (K : σ → Store) (μ : σ → Nat) (I : σ → Prop) (b : σ → Bool) (next : σ → σ)
    (ht : ∀ x, I x → STr C A env (K x) t (b x)) (hb : ∀ x, I x → b x = true → I (next x) ∧ μ (next x) < μ x ∧ Ex C A env body (K x) (TurnS (K (next x))))
    (x₀ : σ) (hI : I x₀) (h0 : Sub (K x₀) st) (Rz : σ → Prop) (hz : Rz x₀) (hRz : ∀ x, I x → Rz x → b x = true → Rz (next x)) :
    Ex1 C A env (.While t body [] pos) st (fun r st' => r = .next ∧ ∃ x, I x ∧ Rz x ∧ b x = false ∧ Sub (K x) st') :=
  Ex1.whl (fun n st => ∃ x, μ x = n ∧ I x ∧ Rz x ∧ Sub (K x) st) (fun n st ⟨x, hm, hi, hr, hs⟩ => ⟨b x, fun ad ex fz s W F => ht x hi ad ex fz s W (F.sub hs), fun hbx => by
    obtain ⟨i1, i2, i3⟩ := hb x hi hbx
    refine (i3.sub hs).mono fun r st' h => ?_
    cases r with
    | next => exact ⟨_, hm ▸ i2, next x, rfl, i1, hRz x hi hr hbx, h⟩
    | cont => exact ⟨_, hm ▸ i2, next x, rfl, i1, hRz x hi hr hbx, h⟩
    | brk => exact h.elim
    | ret P => exact h.elim, fun hbx => ⟨rfl, x, hi, hr, hbx, hs⟩⟩) (μ x₀) ⟨x₀, rfl, hI, hz, h0⟩
end
/-! ## texts as lists of signs -/
noncomputable def sOf (l : List Nat) : Str := ⟨l.toArray⟩
theorem sOf_append (l m : List Nat) : sOf l ++ sOf m = sOf (l ++ m) := by
  show Str.append _ _ = _
  simp [Str.append, sOf]
theorem sOf_length (l : List Nat) : (sOf l).length = l.length := by simp [sOf, Str.length]
theorem Cl.lenW {C : Cx} {A : Around} {w : List Nat} (h : (w.length : Int) < 2 ^ 63) : Cl C A (.builtin "len") [str (sOf w)] (int w.length) := by
  rw [← sOf_length]
  exact Cl.lenS (by rw [sOf_length]; omega)
theorem sOf_beq (l m : List Nat) : (sOf l == sOf m) = (l == m) := by
  rw [Bool.eq_iff_iff, beq_iff_eq, beq_iff_eq]
  constructor
  · intro h; have := congrArg (fun s : Str => s.cps.toList) h; simpa [sOf] using this
  · rintro rfl; rfl
end Mine
end
/-! # part M11 -/
section
open PySem PySem.W PySem.Calls PyProof.Rows PySem.SeqAt
set_option Elab.async false
set_option maxRecDepth 100000
set_option linter.unusedVariables false
namespace Mine
noncomputable def keepX {α : Type} (xs : List α) (p : α → Bool) (i : Nat) : Bool := match xs[i]? with | some x => p x | none => false
noncomputable def QX {α : Type} (xs : List α) (g : α → Pd) (i : Nat) : Pd := match xs[i]? with | some x => g x | none => anyP
theorem filterX {α : Type} (p : α → Bool) (g : α → Pd) (xs : List α) : ((List.range xs.length).filter (keepX xs p)).map (QX xs g) = (xs.filter p).map g := by
  have h : ∀ (ys zs : List α), ((List.range' ys.length zs.length).filter (keepX (ys ++ zs) p)).map (QX (ys ++ zs) g) = (zs.filter p).map g := by
    intro ys zs
    induction zs generalizing ys with
    | nil => rfl
    | cons z zs ih =>
      rw [List.length_cons, List.range'_succ, List.filter_cons, List.filter_cons]
      have e : (ys ++ z :: zs)[ys.length]? = some z := by simp
      have ih' := ih (ys ++ [z])
      rw [List.append_assoc, List.singleton_append, List.length_append, List.length_singleton] at ih'
      have k1 : keepX (ys ++ z :: zs) p ys.length = p z := by unfold keepX; rw [e]
      rw [k1]
      cases hp : p z with
      | false => simpa using ih'
      | true =>
        simp only [if_true, List.map_cons]
        rw [ih']
        congr 1
        unfold QX; rw [e]
  have := h [] xs
  simpa [List.range_eq_range'] using this
section
variable {C : Cx} {A : Around} {env : Env} {st : List (Str × Pd)}
theorem Ev.compX {α : Type} {elt iter : Expr} {x : Str} {px : Pos} {ifs : List Expr} {scope : Scope} {pos : Pos} {cl : List (Str × Addr)} {st' : List (Str × Pd)} (xs : List α) (f g : α → Pd) (p : α → Bool)
    (hi : It C A env st iter (xs.map f)) (hclos : closureFor scope env = pure cl) (hk : scope.kind = .function) (hnames : ∀ x ∈ scope.names, x.2 = .local → scope.names.lookup x.1 = some .local) (hx : XOk scope env x) (hcap : Caps env scope cl st st') (hsz : xs.length ≤ sizeLine)
    (ht : ∀ L y, y ∈ xs → Tifs C A (cEnv scope cl L env) ((x, f y) :: st') ifs (p y))
    (he : ∀ L y, y ∈ xs → p y = true → Ev C A (cEnv scope cl L env) ((x, f y) :: st') elt (g y))
    (hs : ∀ x, foldedSetIterable iter env x = pure x := by intro _; rfl) :
    Ev C A env st (.ListComp elt [⟨.Name x px, iter, ifs, 0⟩] scope pos) (lst ((xs.filter p).map g)) := by
  have get : ∀ i P, (xs.map f)[i]? = some P → ∃ y, xs[i]? = some y ∧ P = f y := fun i P h => by
    rw [List.getElem?_map] at h
    cases e : xs[i]? with
    | none => rw [e] at h; cases h
    | some y => rw [e] at h; cases h; exact ⟨y, e, rfl⟩
  have := Ev.comp (C := C) (A := A) (elt := elt) (px := px) (ifs := ifs) (pos := pos) (keepX xs p) (QX xs g) hi hclos hk hnames hx hcap (by rw [List.length_map]; exact hsz) (fun L i P h => by
      obtain ⟨y, hy, rfl⟩ := get i P h
      rw [show keepX xs p i = p y by unfold keepX; rw [hy]]
      exact ht L y (List.mem_of_getElem? hy)) (fun L i P h hkp => by
      obtain ⟨y, hy, rfl⟩ := get i P h
      rw [show keepX xs p i = p y by unfold keepX; rw [hy]] at hkp
      rw [show QX xs g i = g y by unfold QX; rw [hy]]
      exact he L y (List.mem_of_getElem? hy) hkp) hs
  rw [List.length_map, filterX] at this
  exact this
theorem filter_true {α : Type} (xs : List α) : xs.filter (fun _ => true) = xs := by simp
theorem Ev.mapX {α : Type} {elt iter : Expr} {x : Str} {px : Pos} {scope : Scope} {pos : Pos} {cl : List (Str × Addr)} {st' : List (Str × Pd)} (xs : List α) (f g : α → Pd)
    (hi : It C A env st iter (xs.map f)) (hclos : closureFor scope env = pure cl) (hk : scope.kind = .function) (hnames : ∀ x ∈ scope.names, x.2 = .local → scope.names.lookup x.1 = some .local) (hx : XOk scope env x) (hcap : Caps env scope cl st st') (hsz : xs.length ≤ sizeLine)
    (he : ∀ L y, y ∈ xs → Ev C A (cEnv scope cl L env) ((x, f y) :: st') elt (g y))
    (hs : ∀ x, foldedSetIterable iter env x = pure x := by intro _; rfl) :
    Ev C A env st (.ListComp elt [⟨.Name x px, iter, [], 0⟩] scope pos) (lst (xs.map g)) := by
  have := Ev.compX (C := C) (A := A) (elt := elt) (px := px) (ifs := []) (pos := pos) xs f g (fun _ => true) hi hclos hk hnames hx hcap hsz (fun L y h => Tifs.nil) (fun L y h _ => he L y h) hs
  rw [filter_true] at this
  exact this
end
section
variable {C : Cx} {A : Around} {env : Env} {st : Store}
theorem Ex1.assignCompX {α : Type} {elt iter : Expr} {x y : Str} {px py spos : Pos} {ifs : List Expr} {scope : Scope} {pos : Pos} {cl : List (Str × Addr)} {st' : List (Str × Pd)} (xs : List α) (f g : α → Pd) (p : α → Bool)
    (hi : It C A env (see seeF st) iter (xs.map f)) (hky : StOk env y) (hsw : swapsWith (.ListComp elt [⟨.Name x px, iter, ifs, 0⟩] scope pos) (some (.Name y py)) spos.line env = pure true)
    (hclos : closureFor scope env = pure cl) (hk : scope.kind = .function) (hnames : ∀ x ∈ scope.names, x.2 = .local → scope.names.lookup x.1 = some .local) (hx : XOk scope env x) (hcap : Caps env scope cl (see seeF st) st') (hsz : xs.length ≤ sizeLine)
    (ht : ∀ L y, y ∈ xs → Tifs C A (cEnv scope cl L env) ((x, f y) :: st') ifs (p y))
    (he : ∀ L y, y ∈ xs → p y = true → Ev C A (cEnv scope cl L env) ((x, f y) :: st') elt (g y))
    (hs : ∀ x, foldedSetIterable iter env x = pure x := by intro _; rfl) :
    Ex1 C A env (.Assign [.Name y py] (.ListComp elt [⟨.Name x px, iter, ifs, 0⟩] scope pos) spos) st (Nx ((y, .fix (lst ((xs.filter p).map g))) :: st)) := by
  have get : ∀ i P, (xs.map f)[i]? = some P → ∃ y, xs[i]? = some y ∧ P = f y := fun i P h => by
    rw [List.getElem?_map] at h
    cases e : xs[i]? with
    | none => rw [e] at h; cases h
    | some y => rw [e] at h; cases h; exact ⟨y, e, rfl⟩
  have := Ex1.assignComp (C := C) (A := A) (elt := elt) (px := px) (ifs := ifs) (pos := pos) (keepX xs p) (QX xs g) hi hky hsw hclos hk hnames hx hcap (by rw [List.length_map]; exact hsz) (fun L i P h => by
      obtain ⟨y, hy, rfl⟩ := get i P h
      rw [show keepX xs p i = p y by unfold keepX; rw [hy]]
      exact ht L y (List.mem_of_getElem? hy)) (fun L i P h hkp => by
      obtain ⟨y, hy, rfl⟩ := get i P h
      rw [show keepX xs p i = p y by unfold keepX; rw [hy]] at hkp
      rw [show QX xs g i = g y by unfold QX; rw [hy]]
      exact he L y (List.mem_of_getElem? hy) hkp) hs
  rw [List.length_map, filterX] at this
  exact this
end
theorem Caps.nil {env : Env} {scope : Scope} {cl : List (Str × Addr)} {st : List (Str × Pd)} : Caps env scope cl st [] := fun p hp => nomatch hp
theorem Caps.cons {env : Env} {scope : Scope} {cl : List (Str × Addr)} {st st' : List (Str × Pd)} {x : Str} {P : Pd} (h1 : st.lookup x = some P)
    (h2 : ∀ L, ∃ c, (cEnv scope cl L env).cells.lookup x = some c ∧ env.cells.lookup x = some c ∧ ((cEnv scope cl L env).kindOf x = some .cell ∨ (cEnv scope cl L env).kindOf x = some .free) ∧ (env.kindOf x = some .cell ∨ env.kindOf x = some .free))
    (r : Caps env scope cl st st') : Caps env scope cl st ((x, P) :: st') := fun p hp => by
  rcases List.mem_cons.mp hp with rfl | hp
  · exact ⟨h1, h2⟩
  · exact r p hp
end Mine
end
/-! # part P1 -/
section
open PySem PySem.W PySem.Calls PyProof.Rows PySem.SeqAt
set_option linter.unusedVariables false
namespace Mine
/-! ## plain facts on texts -/
theorem join_nil (ls : List (List Nat)) : Txt.join (sOf []) (ls.map sOf) = sOf ls.flatten := by
  show Builtin.Str.glued _ _ = _
  rw [StrLaws.glued_eq_join]
  induction ls with
  | nil => rfl
  | cons l ls ih =>
    cases ls with
    | nil => simp [Str.join]
    | cons m ms =>
      rw [List.map_cons, List.map_cons, Str.join]
      · rw [← List.map_cons, ih, sOf_append, sOf_append]
        simp
      · simp
theorem slice_idx {n a b : Nat} (hab : a ≤ b) (hb : b ≤ n) : Builtin.Str.strSliceIndices (some (a : Int)) (some (b : Int)) 1 n = (List.range (b - a)).map (a + ·) := by
  unfold Builtin.Str.strSliceIndices
  simp only [show (1 : Int) > 0 by decide, if_true]
  rw [if_neg (by omega), if_neg (by omega), show max 0 (min (a : Int) n) = ((a : Nat) : Int) by omega, show max 0 (min (b : Int) n) = ((b : Nat) : Int) by omega]
  exact sliceRange_one a b
theorem sOf_pick {l : List Nat} {a k : Nat} : (((List.range k).map (a + ·)).filterMap ((sOf l).cps[·]?)) = (l.drop a).take k := by
  have := pick_run (sOf l).cps a k
  simpa [sOf] using this
theorem strSlice_run {l : List Nat} {a b : Nat} (hab : a ≤ b) (hb : b ≤ l.length) : strSlice (sOf l) (some (a : Int)) (some (b : Int)) none = sOf ((l.drop a).take (b - a)) := by
  unfold strSlice
  simp only [Option.getD_none]
  rw [sOf_length, slice_idx hab hb, sOf_pick]
  split
  · rename_i h
    have h2 : b - a = l.length := by simpa using h
    have ha : a = 0 := by omega
    have hb' : b = l.length := by omega
    subst ha hb'
    simp
  · rfl
theorem slice_idx_from {n a : Nat} (ha : a ≤ n) : Builtin.Str.strSliceIndices (some (a : Int)) none 1 n = (List.range (n - a)).map (a + ·) := by
  unfold Builtin.Str.strSliceIndices
  simp only [show (1 : Int) > 0 by decide, if_true]
  rw [if_neg (by omega), show max 0 (min (a : Int) n) = ((a : Nat) : Int) by omega]
  exact sliceRange_one a n
theorem strSlice_from {l : List Nat} {a : Nat} (ha : a ≤ l.length) : strSlice (sOf l) (some (a : Int)) none none = sOf (l.drop a) := by
  unfold strSlice
  simp only [Option.getD_none]
  rw [sOf_length, slice_idx_from ha, sOf_pick]
  split
  · rename_i h
    have h2 : l.length - a = l.length := by simpa using h
    have ha' : a = 0 ∨ l = [] := by
      cases l with
      | nil => exact .inr rfl
      | cons x l => exact .inl (by simp at h2 ha; omega)
    rcases ha' with rfl | rfl <;> simp
  · show Str.mk _ = Str.mk _
    rw [List.take_of_length_le (by rw [List.length_drop]; omega)]
theorem rev_pick {α : Type} (l : List α) : ((List.range l.length).map fun k => l.length - 1 - k).filterMap (l[·]?) = l.reverse := by
  have h : ((List.range l.length).map fun k => l.length - 1 - k).map (l[·]?) = l.reverse.map some := by
    refine List.ext_getElem (by simp) fun i h1 h2 => ?_
    have hi : i < l.length := by simpa using h1
    simp only [List.getElem_map, List.getElem_range, List.getElem_reverse]
    rw [List.getElem?_eq_getElem (by omega)]
  have h2 := congrArg (List.filterMap id) h
  rw [List.filterMap_map, List.filterMap_map] at h2
  simpa using h2
theorem slice_idx_rev {n : Nat} : Builtin.Str.strSliceIndices none none (-1) n = (List.range n).map fun k => n - 1 - k := by
  unfold Builtin.Str.strSliceIndices sliceRange
  simp only [show ¬ ((-1 : Int) > 0) by decide, if_false]
  have e : (if (n : Int) - 1 > -1 then ((n : Int) - 1 - -1 - -1 - 1) / (- -1) else 0).toNat = n := by
    simp only [Int.neg_neg, Int.ediv_one]
    split <;> omega
  rw [e]
  refine List.map_congr_left fun k hk => ?_
  have := List.mem_range.mp hk
  omega
theorem strSlice_rev {l : List Nat} : strSlice (sOf l) none none (some (-1)) = sOf l.reverse := by
  unfold strSlice
  simp only [Option.getD_some]
  rw [sOf_length, slice_idx_rev]
  rw [if_neg (by simp)]
  show Str.mk _ = Str.mk _
  congr 1
  have := rev_pick l
  simpa [sOf] using this
end Mine
end
/-! # part M12 -/
section
open PySem PySem.W PySem.Calls PyProof.Rows PySem.SeqAt
set_option Elab.async false
set_option maxRecDepth 100000
set_option linter.unusedVariables false
namespace Mine
section
variable {C : Cx} {A : Around}
/-- what bindArgs makes of the arguments -/
noncomputable def Bd (C : Cx) (fd : FuncData) (ps : List Pd) (names : List Str) (qs : List Pd) : Prop :=
  ∀ (A : Around) fz s vs, Wf C fz s → All2 fz ps vs → wpAny (M C) A (bindArgs fd ⟨vs, []⟩) (fun binds s₁ => ∃ fz₁ us, Grow C fz s fz₁ s₁ ∧ binds = names.zip us ∧ All2 fz₁ qs us) NoE s
theorem Cl.defG {k : Nat} {a : Addr} {o : Obj} {fd : FuncData} {body : List Stmt} {names : List Str} {ps qs : List Pd} {P : Pd} (hA : Rm (k + 1) A)
    (ho : C.h0.get? a = some o) (hd : o.data = .func fd) (hcd : C.h0.CodeRec fd.code fd.qualname) (hbody : fd.body = .stmts body) (hclo : fd.closure = []) (hgl : fd.globals = mainGlobals) (hbl : fd.builtins = builtinsNs)
    (hlen : names.length = qs.length) (hnd : names.Nodup) (hbind : Bd C fd ps names qs)
    (hkind : ∀ n, ∀ x ∈ names, fd.scope.names.lookup x = some .local ∨ (fd.scope.names.lookup x = some .cell ∧ ((cellsFrom n fd.scope.names []).lookup x).isSome = true))
    (hco : fd.scope.isCoroutine = false) (hgen : fd.scope.isGenerator = false) (hk : fd.scope.kind = .function)
    (h : ∀ L, Ex C (A.deeper (callEnvC fd L a)) (callEnvC fd L a) body (names.zip (qs.map Ent.fix)) (fun r _ => r = .ret P)) : Cl C A (.ref a) ps P := fun fz₀ s₀ vs₀ W₀ h2₀ => by
  refine wpAny_call (codeAny_call_function hA.room (W₀.keeps _ _ ho) hd hco hgen hbody (hcd.keeps W₀.keeps) ?_)
  refine wpAny_mono (hbind _ fz₀ s₀ vs₀ W₀ h2₀) (fun binds s ⟨fz, vs, G₀, hbe, h2⟩ => ?_) fun _ _ e => e.elim
  have W := G₀.wf
  subst hbe
  have hvl : vs.length = names.length := by rw [← h2.length, hlen]
  rw [hclo]
  refine wpAny_newFunctionEnv_cells hk (fun x hx => hkind _ x.1 (List.of_mem_zip hx).1) fun env he s₁ X => ?_
  have he' : env = callEnvC fd s.heap.objs.size a := he
  clear he
  subst he'
  refine ⟨W.nolimit.keeps X.toInCall.keep, codeAny_func ?_⟩
  · have hfr := heap_fresh s.heap
    have hkeep := X.toInCall.keep
    obtain ⟨h₁, tk, rfl⟩ := X.toInCall.same
    have G := Grow.keep (tk := tk) W hkeep
    have above : ∀ n c, (n, c) ∈ (callEnvC fd s.heap.objs.size a).cells → s.heap.get? c = none := fun n c hm => by
      cases e : s.heap.get? c with
      | none => rfl
      | some o => exact absurd (Nat.lt_trans (X.above n c hm) (Heap.lt_size e)) (Nat.lt_irrefl _)
    have hzn : ((names.zip vs).map (·.1)).Nodup := by rw [List.map_fst_zip (by omega)]; exact hnd
    have F : FmA C (callEnvC fd s.heap.objs.size a) (names.zip (qs.map Ent.fix)) (fun _ => 0) (exAll C s.heap) fz { s with heap := h₁, toks := tk } := by
      refine ⟨⟨hk, hgl, hbl⟩, fun x P hx => ?_, fun x pl qs hx => absurd hx lookup_zip_own, fun x y pl ps ql qs _ hx => absurd hx lookup_zip_own, ?_, fun x c _ hc => ?_, ⟨_, X.toInCall.ns⟩, fun x c hc => ⟨_, X.cell x c hc⟩,
        fun x y c hx hy => name_of_addr X.apart (mem_of_lookup hx) (mem_of_lookup hy), fun a o e => hkeep a o (exAll_get e), exAll_new hfr, fun x c _ hc => exAll_new (above x c (mem_of_lookup hc))⟩
      · obtain ⟨i, h1, h3⟩ := lookup_zip_get hx
        obtain ⟨v, hv, hp⟩ := h2.get h3
        have hmem : (x, v) ∈ names.zip vs := List.mem_of_getElem? (i := i) (List.getElem?_zip_eq_some (z := (x, v)) |>.mpr ⟨h1, hv⟩)
        refine ⟨v, ?_, hp⟩
        rcases hkind (s.heap.objs.size + 1) x (List.mem_of_getElem? h1) with hl | ⟨hl, hc⟩
        · exact .inl ⟨hl, _, X.toInCall.ns, bindL_in hl hzn hmem⟩
        · obtain ⟨c, hc⟩ := Option.isSome_iff_exists.mp hc
          have := X.cell x c hc
          rw [bindC_in (by rw [show (callEnvC fd s.heap.objs.size a).kindOf x = some .cell from hl]; decide) hzn hmem] at this
          exact .inr ⟨.inl hl, c, hc, this⟩
      · cases e : fz s.heap.objs.size with
        | none => exact e
        | some o => have := W.le _ _ e; rw [hfr] at this; cases this
      · cases e : fz c with
        | none => rfl
        | some o => have := W.le _ _ e; rw [above x c (mem_of_lookup hc)] at this; cases this
    refine wpAny_mono (h _ _ fz _ exAll_ok G.wf ⟨_, F⟩) (fun fl s₂ ⟨r, st₂, f₂, a1, a2, a3, ⟨ad₂, F₂⟩, a5⟩ => ?_) fun _ _ e => e.elim
    subst a1
    cases fl with
    | ret v => exact ⟨f₂, G₀.trans W₀ (grow_of_ex W a3 F₂.exle a5), a2⟩
    | _ => exact a2.elim
end
theorem kinds_of {n : Nat} {names : List Str} (hkind : ∀ m, (names.all fun x => (scopeOf n).names.lookup x == some .local || ((scopeOf n).names.lookup x == some .cell && ((cellsFrom m (scopeOf n).names []).lookup x).isSome)) = true) (m : Nat) :
    ∀ x ∈ names, (scopeOf n).names.lookup x = some .local ∨ ((scopeOf n).names.lookup x = some .cell ∧ ((cellsFrom m (scopeOf n).names []).lookup x).isSome = true) := fun x hx => by
  have := List.all_eq_true.mp (hkind m) x hx
  rcases Bool.or_eq_true_iff.mp this with q | q
  · exact .inl (eq_of_beq q)
  · obtain ⟨q1, q2⟩ := Bool.and_eq_true_iff.mp q
    exact .inr ⟨eq_of_beq q1, q2⟩
/-- bisect_right, with its two tables of defaults -/
noncomputable def fdBis (pm code doc : Value) (T K : Addr) : FuncData := { fdAt 8 pm code doc with defaults := .ref T, kwdefaults := .ref K }
structure BisAt (C : Cx) (a : Addr) : Prop where
  mg : C.mg (nameOf 8) = some (.ref a)
  obj : ∃ o pm code doc T K oT t n m, C.h0.get? a = some o ∧ o.data = .func (fdBis pm code doc T K) ∧ C.h0.CodeRec code (nameOf 8) ∧ C.h0.get? T = some oT ∧ oT.data = .seq #[.int 0 t, .none] n ∧ C.h0.Ns K m ∧ m (Str.ofString "key") = some .none
theorem BisAt.isFn {C : Cx} {a : Addr} (h : BisAt C a) : ∃ fd, IsFn C a fd := let ⟨o, pm, code, doc, T, K, oT, t, n, m, h1, h2, _⟩ := h.obj; ⟨_, o, h1, h2⟩
theorem Ev.fnB {C : Cx} {A : Around} {env : Env} {st : List (Str × Pd)} {x : Str} {p pos} {a : Addr} {e : Expr} {es : List Expr} {ps : List Pd} {R : Pd} (hf : BisAt C a) (hk : env.kindOf x = some .globalImplicit) (hx : nameOf 8 = x) (ha : Evs C A env st pos (e :: es) ps) (hc : Cl C A (.ref a) ps R)
    (hd : (x == ("__debug__" : Str)) = false := by decide) (he : backTo pos (starEach (e :: es) env) = (false, eval e env) :: backTo pos (starEach es env) := by rfl) :
    Ev C A env st (.Call (.Name x p) (e :: es) [] pos) R := by
  obtain ⟨fd, h⟩ := hf.isFn
  exact Ev.callF (Ev.globals hk (hx ▸ hf.mg) hd) h ha hc he
theorem Cl.bis {C : Cx} {A : Around} {k : Nat} {a : Addr} {P Q R : Pd} (hA : Rm (k + 1) A) (hf : BisAt C a)
    (h : ∀ pm code doc T K L, Ex C (A.deeper (callEnvC (fdBis pm code doc T K) L a)) (callEnvC (fdBis pm code doc T K) L a) (bodyOf 8)
      [(Str.ofString "a", .fix P), (Str.ofString "x", .fix Q), (Str.ofString "lo", .fix (int 0)), (Str.ofString "hi", .fix non), (Str.ofString "key", .fix non)] (fun r _ => r = .ret R)) : Cl C A (.ref a) [P, Q] R := by
  obtain ⟨o, pm, code, doc, T, K, oT, t, n, m, ho, hd, hcd, hT, hTd, hK, hm⟩ := hf.obj
  refine Cl.defG (names := [Str.ofString "a", Str.ofString "x", Str.ofString "lo", Str.ofString "hi", Str.ofString "key"]) (qs := [P, Q, int 0, non, non]) hA ho hd hcd rfl rfl rfl rfl rfl (by decide) ?_ (fun m => kinds_of (n := 8) (fun m => rfl) m) rfl rfl rfl fun L => h pm code doc T K L
  intro A' fz s vs W h2
  match vs, h2 with
  | [u, v], ⟨h1, h2, _⟩ =>
    show wpAny (M C) A' (seqItems? (.ref T) >>= _) _ _ s
    refine wpAny_bind (wpAny_seqItems (W.keeps _ _ hT) hTd ?_)
    show wpAny (M C) A' (((nsGet K (Str.ofString "key") >>= _) >>= _) >>= _) _ _ s
    refine wpAny_bind (wpAny_bind (wpAny_bind (wpAny_nsGet (hK.keeps W.keeps) ?_)))
    rw [hm]
    exact wpAny_pure (wpAny_pure (wpAny_pure ⟨fz, [u, v, .int 0 t, .none, .none], .refl W, rfl, h1, h2, ⟨t, rfl⟩, rfl, rfl, trivial⟩))
end Mine
end
/-! # part M13 -/
section
open PySem PySem.W PySem.Calls PyProof.Rows PySem.SeqAt
set_option Elab.async false
set_option maxRecDepth 100000
set_option linter.unusedVariables false
namespace Mine
section
variable {C : Cx} {A : Around} {env : Env} {st : List (Str × Pd)}
theorem star_list {fz : Fz} {s : Shared} {v : Value} {ps : List Pd} {Q : List Value → Shared → Prop} {E} (W : Wf C fz s) (h : (lst ps).p fz v) (hz : ps.length ≤ sizeLine)
    (hq : ∀ vs s', Grow C fz s fz s' → All2 fz ps vs → Q vs s') : StarOf (M C) A E v Q s := by
  obtain ⟨a, o, vs, n, rfl, hf, hc, hd, h5⟩ := h
  have ho := W.le _ _ hf
  unfold StarOf notIterableAtAll
  have e : vs.size = ps.length := by rw [← Array.length_toList, h5.length]
  exact wpAny_bind (wpAny_specialOf ⟨o, ho, hc⟩ PySem.F.slot_list_iter.lookup (wpAny_pure ⟨rfl, wpAny_collect_seq a (.inl rfl) ho hc hd (fun h' hk => hq _ _ (Grow.keep (tk := s.toks) W hk) h5) (by rw [e]; exact hz)⟩))
/-- f(e, *es) -/
theorem Ev.callStar {x : Str} {p pos sp} {a : Addr} {fd : FuncData} {e e2 : Expr} {P : Pd} {ps : List Pd} {R : Pd} (hf : Ev C A env st (.Name x p) (val (.ref a))) (hfd : IsFn C a fd) (h1 : Ev C A env st e P) (h2 : Ev C A env st e2 (lst ps)) (hz : ps.length ≤ sizeLine) (hc : Cl C A (.ref a) (P :: ps) R)
    (he : starEach [e, .Starred e2 sp] env = [(false, eval e env), (true, eval e2 env)] := by rfl) :
    Ev C A env st (.Call (.Name x p) [e, .Starred e2 sp] [] pos) R := fun fz s W F =>
  Call_Name rfl (wpAny_mono (hf fz s W F) (fun v s₁ ⟨f₁, G₁, h₁⟩ => by
    cases h₁
    obtain ⟨o, ho, hd⟩ := hfd
    rw [he]
    refine ks_call (P := fun h => h.get? a = some o) rfl (fun h e => ⟨.frame, .inl rfl, (Looks.ld (part := none) e).andThen (by rw [hd]; exact .now)⟩) (evalArgs_plain (spliced_cons (wpAny_mono (h1 f₁ s₁ G₁.wf (F.grow W G₁)) (fun v s₂ ⟨f₂, G₂, hp⟩ => ?_) fun _ _ e => e)))
    have G12 := G₁.trans W G₂
    refine ks_spliced (wpAny_mono (h2 f₂ s₂ G₂.wf (F.grow W G12)) (fun v2 s₃ ⟨f₃, G₃, hl⟩ => star_list G₃.wf hl hz fun vs s₄ G₄ ha => ?_) fun _ _ e => e)
    have G := (G12.trans W G₃).trans W G₄
    refine spliced_nil ⟨G.wf.keeps _ _ ho, ?_⟩
    rw [List.append_nil]
    exact wpAny_mono (hc f₃ s₄ (v :: vs) G₄.wf ⟨P.mono (G₃.le G₂.wf) hp, ha⟩) (fun v s₃ h => Rs.after W G v s₃ h) fun _ _ e => e) fun _ _ e => e)
end
end Mine
end
/-! # part M14 -/
section
open PySem PySem.W PySem.Calls PyProof.Rows PySem.SeqAt
set_option Elab.async false
set_option maxRecDepth 100000
set_option linter.unusedVariables false
namespace Mine
/-- a def within a def, as the heap holds it -/
noncomputable def innP (name qual : Str) (params : Arguments) (body : List Stmt) (scope : Scope) (clos : List (Str × Addr)) : Pd :=
  ⟨fun fz v => ∃ f o doc pm cv ctv, v = .ref f ∧ fz f = some o ∧ o.data = .func (fnX name qual params body scope clos .none .none doc pm none cv ctv) ∧ CodeF fz cv qual,
   fun h ⟨f, o, doc, pm, cv, ctv, e1, e2, e3, e4⟩ => ⟨f, o, doc, pm, cv, ctv, e1, h _ _ e2, e3, e4.mono h⟩⟩
noncomputable def Tb (C : Cx) (c P : Addr) (q : Str) (pos : Pos) : Prop := (c = C.c1 ∧ P = C.t1 ∧ q = C.q1 ∧ pos = C.pos1) ∨ (c = C.c2 ∧ P = C.t2 ∧ q = C.q2 ∧ pos = C.pos2)
section
variable {C : Cx} {A : Around} {env : Env} {fz : Fz} {s : Shared} {c P : Addr} {q : Str} {pos : Pos}
theorem Tb.tab (hT : Tb C c P q pos) (W : Wf C fz s) : TabOk fz s.heap P q pos := by
  rcases hT with ⟨rfl, rfl, rfl, rfl⟩ | ⟨rfl, rfl, rfl, rfl⟩
  · exact W.tab1
  · exact W.tab2
theorem Tb.hd (hT : Tb C c P q pos) : CodeHd C.h0 c P := by
  rcases hT with ⟨rfl, rfl, rfl, rfl⟩ | ⟨rfl, rfl, rfl, rfl⟩
  · exact C.hd1
  · exact C.hd2
/-- a new code record stands in the table -/
theorem Tb.grow (hT : Tb C c P q pos) (W : Wf C fz s) {h' : Heap} {tk : Nat} {c' : Addr} (hx : Heap.ExtBut P s.heap h') (hn : s.heap.get? c' = none) (hr : h'.CodeRec (.ref c') q) (ht : h'.get? P = some (tabObj #[rawInt pos.line, rawInt pos.col, .ref c'])) :
    ∃ f, Grow C fz s f { s with heap := h', toks := tk } ∧ CodeF f (.ref c') q := by
  obtain ⟨c₂, oc, vs, t, e2, hoc, hd, hv⟩ := hr
  cases e2
  have hf : fz c' = none := by
    cases e : fz c' with
    | none => rfl
    | some o' => rw [W.le _ o' e] at hn; cases hn
  have h1 : c' ≠ C.t1 := fun e => by obtain ⟨ps, e1, _⟩ := W.tab1; rw [← e, hn] at e1; cases e1
  have h2 : c' ≠ C.t2 := fun e => by obtain ⟨ps, e1, _⟩ := W.tab2; rw [← e, hn] at e1; cases e1
  have cf : CodeF (fadd fz c' oc) (.ref c') q := ⟨c', oc, vs, t, rfl, fadd_self, hd, hv⟩
  have hPn : fz P = none := by
    rcases hT with ⟨rfl, rfl, rfl, rfl⟩ | ⟨rfl, rfl, rfl, rfl⟩
    · exact W.n1
    · exact W.n2
  have own : TabOk (fadd fz c' oc) h' P q pos := ⟨_, ht, .inr ⟨c', rfl, cf⟩⟩
  have other : ∀ P' q' pos', P' ≠ P → TabOk fz s.heap P' q' pos' → TabOk (fadd fz c' oc) h' P' q' pos' := fun P' q' pos' hne x => x.mono (fadd_le hf) fun o e => hx _ _ hne e
  have le : ∀ b o, fadd fz c' oc b = some o → h'.get? b = some o := fun b o e => by
    by_cases hb : b = c'
    · subst hb; rw [fadd_self] at e; cases e; exact hoc
    · rw [fadd_ne hb] at e
      exact hx b o (fun q => by rw [q, hPn] at e; cases e) (W.le _ _ e)
  refine ⟨fadd fz c' oc, ⟨⟨fun b o e => fadd_le hf _ _ (W.base b o e), le, by rw [fadd_ne h1.symm]; exact W.n1, by rw [fadd_ne h2.symm]; exact W.n2, W.ne, ?_, ?_, W.gens, W.os⟩, fun a o e => ?_, fun a o a1 a2 e => ?_⟩, cf⟩
  · rcases hT with ⟨rfl, rfl, rfl, rfl⟩ | ⟨rfl, rfl, rfl, rfl⟩
    · exact own
    · exact other _ _ _ W.ne W.tab1
  · rcases hT with ⟨rfl, rfl, rfl, rfl⟩ | ⟨rfl, rfl, rfl, rfl⟩
    · exact other _ _ _ W.ne.symm W.tab2
    · exact own
  · exact fadd_ne fun q => by rw [q, hn] at e; cases e
  · refine hx a o (fun q => ?_) e
    rcases hT with ⟨rfl, rfl, rfl, rfl⟩ | ⟨rfl, rfl, rfl, rfl⟩
    · exact a1 q
    · exact a2 q
theorem mk_inner {name : Str} {params : Arguments} {body : List Stmt} {scope : Scope} {clos : List (Str × Addr)} {firstLine : Nat} (W : Wf C fz s) (hT : Tb C c P q pos) (hcode : env.code = .ref c) (hgl : env.globals = mainGlobals) (hcl : closureFor scope env = pure clos) :
    wpAny (M C) A (makeFunction name q params (.stmts body) scope env [] [] [] pos firstLine) (Rs C fz s (innP name q params body scope clos)) NoE s := by
  have hhd := hT.hd.keeps W.keeps
  obtain ⟨ps, hP, hps⟩ := hT.tab W
  have hgs := W.glob
  obtain ⟨bm, ob, b1, b2, b3, b4, b5, b6⟩ := C.bmain
  have hgP : mainGlobals ≠ P := fun q => by
    obtain ⟨o, es, ep, e, hd, _⟩ := hgs
    rw [q, hP] at e; cases e; cases hd
  have hbP : bm ≠ P := fun q => by
    have e := W.keeps _ _ b3
    rw [q, hP] at e; cases e; cases b4
  have hbG : bm ≠ mainGlobals := fun q => by
    obtain ⟨o, es, ep, e, hd, _⟩ := C.g
    rw [q, e] at b3; cases b3; rw [hd] at b6; cases b6
  have hB : s.heap.BuiltinsAt C.mg P := ⟨bm, ob, b1, b2, hbG, hbP, W.keeps _ _ b3, b4, b5, b6⟩
  rcases hps with rfl | ⟨c', rfl, hcf⟩
  · refine makeFunction_K (mg := C.mg) hcl hgl hgs hcode hhd hP trivial rfl hgP hB fun c' ctv doc h' tk hx hge hlt hrec htb => ?_
    have hn : s.heap.get? c' = none := by
      cases e : s.heap.get? c' with
      | none => rfl
      | some o => exact absurd (Nat.lt_of_lt_of_le (Heap.lt_size e) hge) (Nat.lt_irrefl _)
    obtain ⟨f, G, cf⟩ := hT.grow (tk := tk) W hx hn hrec (by simpa using htb)
    have G₂ := Grow.fresh (tk := tk) G.wf (o := fnMade name q params body scope clos doc ((C.mg "__name__").getD .none) c' ctv) (fun b o e => Heap.get?_push_of_some _ e) (heap_fresh h') (Heap.get?_push_size _ rfl)
    exact ⟨_, G.trans W G₂, _, _, doc, _, .ref c', ctv, rfl, fadd_self, rfl, cf.mono (G₂.le G.wf)⟩
  · refine makeFunction_hit (mg := C.mg) (cv := .ref c') hcl hgl hgs hcode hhd hP trivial (by simp [codeAmong, rawInt]) hB fun ctv doc h' tk hk hsz => ?_
    have G := Grow.keep (tk := tk) W hk
    have G₂ := Grow.fresh (tk := tk) G.wf (o := fnMade name q params body scope clos doc ((C.mg "__name__").getD .none) c' ctv) (fun b o e => Heap.get?_push_of_some _ e) (heap_fresh h') (Heap.get?_push_size _ rfl)
    exact ⟨_, G.trans W G₂, _, _, doc, _, .ref c', ctv, rfl, fadd_self, rfl, hcf.mono (G₂.le G.wf)⟩
end
section
variable {C : Cx} {A : Around} {env : Env} {st : Store} {c P : Addr} {q : Str} {pos : Pos}
theorem Ex1.defInner {name : Str} {params : Arguments} {body : List Stmt} {scope : Scope} {clos : List (Str × Addr)} (hT : Tb C c P q pos) (hcode : env.code = .ref c) (hgl : env.globals = mainGlobals) (hcl : closureFor scope env = pure clos) (hq : qualnameIn env name name = q) (hk : StOk env name)
    (hd0 : params.defaults = []) (hk0 : params.kw_defaults = []) (ha : annTrees params none env = []) :
    Ex1 C A env (.FunctionDef name params body [] none [] scope none name pos) st (Nx ((name, .fix (innP name q params body scope clos)) :: st)) := fun ex fz s hx W ⟨ad, F⟩ => by
  refine nestDef_K hd0 hk0 ha ?_
  rw [hq]
  refine wpAny_mono (mk_inner W hT hcode hgl hcl) (fun v s₁ ⟨f₁, G, hp⟩ => ?_) fun _ _ e => e
  have F₁ := F.grow W G hx
  exact stored G.wf F₁ hk fun s₂ S => ⟨.next, _, f₁, ⟨rfl, rfl⟩, trivial, S.wf, ⟨ad, F₁.bindFix S hp⟩, F.kx W G⟩
end
end Mine
end
/-! # part M15 -/
section
open PySem PySem.W PySem.Calls PyProof.Rows PySem.SeqAt
set_option Elab.async false
set_option maxRecDepth 100000
set_option linter.unusedVariables false
namespace Mine
noncomputable def RetIs (fz : Fz) (v : Value) : Fl → Prop
  | .ret P => P.p fz v
  | .next => v = .none
  | _ => False
section
variable {C : Cx} {A : Around}
theorem lookup_app {st st' : Store} {x : Str} {e : Ent} (h : (st ++ st').lookup x = some e) : st.lookup x = some e ∨ (st.lookup x = none ∧ st'.lookup x = some e) := by
  rw [List.lookup_append] at h
  cases q : st.lookup x with
  | none => rw [q] at h; exact .inr ⟨rfl, h⟩
  | some e' => rw [q] at h; exact .inl h
theorem rev_lookup {x : Str} {v : Value} : ∀ {binds : List (Str × Value)}, (binds.map (·.1)).Nodup → (x, v) ∈ binds → binds.reverse.lookup x = some v
  | [], _, h => nomatch h
  | (y, u) :: r, hn, h => by
    rw [List.reverse_cons, List.lookup_append]
    rw [List.map_cons, List.nodup_cons] at hn
    rcases List.mem_cons.mp h with e | h
    · cases e
      have : r.reverse.lookup x = none := by
        cases q : r.reverse.lookup x with
        | none => rfl
        | some w => exact absurd (List.mem_map_of_mem (f := (·.1)) (List.mem_reverse.mp (mem_of_lookup q))) hn.1
      rw [this]
      show List.lookup x [(x, v)] = some v
      rw [List.lookup_cons, beq_self_eq_true]
    · rw [rev_lookup hn.2 h]; rfl
theorem enter_inner {k : Nat} {fz : Fz} {s : Shared} {v : Value} {vs : List Value} {names : List Str} {ps : List Pd} {name q : Str} {params : Arguments} {body : List Stmt} {scope : Scope} {clos : List (Str × Addr)} {frees : Store} {ad : Str → Addr} {ex : Fz} {R : Fl → Store → Prop}
    (hA : Rm (k + 1) A) (W : Wf C fz s) (hv : (innP name q params body scope clos).p fz v) (h2 : All2 fz ps vs) (hlen : names.length = ps.length) (hnd : names.Nodup)
    (hbind : ∀ doc pm cv ctv, bindArgs (fnX name q params body scope clos .none .none doc pm none cv ctv) ⟨vs, []⟩ = pure (names.zip vs))
    (hloc : ∀ x ∈ names, scope.names.lookup x = some .local) (hcell : ∀ x ∈ scope.names, x.2 ≠ .cell) (hk : scope.kind = .function) (hco : scope.isCoroutine = false) (hgen : scope.isGenerator = false)
    (hclos : ∀ x c, clos.lookup x = some c → ∃ v, s.heap.IsCell c v) (hinj : ∀ x y c, clos.lookup x = some c → clos.lookup y = some c → x = y)
    (hex : ∀ a o, ex a = some o → s.heap.get? a = some o) (hxo : ExOk C ex)
    (hfix : ∀ x P, frees.lookup x = some (.fix P) → scope.names.lookup x = some .free ∧ ∃ c v, clos.lookup x = some c ∧ s.heap.IsCell c (some v) ∧ P.p fz v)
    (hown : ∀ x pl ps, frees.lookup x = some (.own pl ps) → scope.names.lookup x = some .free ∧ (∃ c, clos.lookup x = some c ∧ s.heap.IsCell c (some (.ref (ad x)))) ∧ fz (ad x) = none ∧ ex (ad x) = none ∧ ∃ o vs n, s.heap.get? (ad x) = some o ∧ o.cls = .type "list" ∧ o.data = .seq vs n ∧ (pl = true → o = listObj vs n) ∧ All2 fz ps vs.toList)
    (happ : ∀ x y pl ps ql qs, x ≠ y → frees.lookup x = some (.own pl ps) → frees.lookup y = some (.own ql qs) → ad x ≠ ad y)
    (h : ∀ doc pm cv ctv L f, Ex C (A.deeper (callEnv (fnX name q params body scope clos .none .none doc pm none cv ctv) L f)) (callEnv (fnX name q params body scope clos .none .none doc pm none cv ctv) L f) body (names.zip (ps.map Ent.fix) ++ frees) R) 
    (hR : ∀ r st, R r st → r = .next ∨ ∃ P, r = .ret P) :
    wpAny (M C) A (call v vs) (fun u s' => ∃ r st' fz' env, R r st' ∧ RetIs fz' u r ∧ Wf C fz' s' ∧ Fm C env st' ex fz' s' ∧ Kx ex fz fz' ∧ env.cells = clos ∧ env.scope = scope) NoE s := by
  obtain ⟨f, o, doc, pm, cv, ctv, rfl, hf, hd, hcf⟩ := hv
  have ho := W.le _ _ hf
  have hvl : vs.length = names.length := by rw [← h2.length, hlen]
  refine wpAny_call (codeAny_call_def hA.room ho hd W.nolimit (hcf.rec' W.le) rfl (.of_eq (hbind doc pm cv ctv)) hcell (fun x hx => hloc x.1 (List.of_mem_zip hx).1) (fun h₀ hns hkeep => ?_) hco hgen hk)
  have hfr := heap_fresh s.heap
  have G := Grow.keep (tk := s.toks + (names.zip vs).length) W hkeep
  have hzn : ((names.zip vs).map (·.1)).Nodup := by rw [List.map_fst_zip (by omega)]; exact hnd
  have cellK : ∀ c w, s.heap.IsCell c w → h₀.IsCell c w := fun c w ⟨o, e, hd⟩ => ⟨o, hkeep _ _ e, hd⟩
  have hL : fz s.heap.objs.size = none := by
    cases e : fz s.heap.objs.size with
    | none => rfl
    | some o => have := W.le _ _ e; rw [hfr] at this; cases this
  have F : FmA C (callEnv (fnX name q params body scope clos .none .none doc pm none cv ctv) s.heap.objs.size f) (names.zip (ps.map Ent.fix) ++ frees) ad ex fz { s with heap := h₀, toks := s.toks + (names.zip vs).length } := by
    refine ⟨⟨hk, rfl, rfl⟩, fun x P hx => ?_, fun x pl qs hx => ?_, fun x y pl ps ql qs hxy hx hy => ?_, hL, fun x c hkx => ?_, ⟨_, hns⟩, fun x c hc => ?_, hinj, fun a o e => hkeep a o (hex a o e), ?_, fun x c hkx => ?_⟩
    · rcases lookup_app hx with hx | ⟨_, hx⟩
      · obtain ⟨i, h1, h3⟩ := lookup_zip_get hx
        obtain ⟨w, hw, hp⟩ := h2.get h3
        have hmem : (x, w) ∈ names.zip vs := List.mem_of_getElem? (i := i) (List.getElem?_zip_eq_some (z := (x, w)) |>.mpr ⟨h1, hw⟩)
        exact ⟨w, .inl ⟨hloc x (List.mem_of_getElem? h1), _, hns, rev_lookup hzn hmem⟩, hp⟩
      · obtain ⟨h1, c, w, hc, hw, hp⟩ := hfix x P hx
        exact ⟨w, .inr ⟨.inr h1, c, hc, cellK _ _ hw⟩, hp⟩
    · rcases lookup_app hx with hx | ⟨_, hx⟩
      · exact absurd hx lookup_zip_own
      · obtain ⟨h1, ⟨c, hc, hw⟩, h3, h4, o, vs', n, h5, h6⟩ := hown x pl qs hx
        exact ⟨.inr ⟨.inr h1, c, hc, cellK _ _ hw⟩, h3, h4, o, vs', n, hkeep _ _ h5, h6⟩
    · rcases lookup_app hx with hx | ⟨_, hx⟩
      · exact absurd hx lookup_zip_own
      · rcases lookup_app hy with hy | ⟨_, hy⟩
        · exact absurd hy lookup_zip_own
        · exact happ x y pl ps ql qs hxy hx hy
    · have hm := mem_of_lookup (show scope.names.lookup x = some .cell from hkx)
      exact absurd rfl (hcell _ hm)
    · obtain ⟨w, hw⟩ := hclos x c hc
      exact ⟨w, cellK _ _ hw⟩
    · show ex s.heap.objs.size = none
      cases e : ex s.heap.objs.size with
      | none => rfl
      | some o => have := hex _ _ e; rw [hfr] at this; cases this
    · have hm := mem_of_lookup (show scope.names.lookup x = some .cell from hkx)
      exact absurd rfl (hcell _ hm)
  refine wpAny_mono (h doc pm cv ctv _ f ex fz _ hxo G.wf ⟨ad, F⟩) (fun fl s₂ ⟨r, st₂, f₂, a1, a2, a3, a4, a5⟩ => ?_) fun _ _ e => e.elim
  refine ⟨r, st₂, f₂, _, a1, ?_, a3, a4, a5, rfl, rfl⟩
  rcases hR r st₂ a1 with rfl | ⟨P, rfl⟩
  · cases fl with
    | next => rfl
    | _ => exact a2.elim
  · cases fl with
    | ret w => exact a2
    | _ => exact a2.elim
/-- what the captured variables hold -/
noncomputable def CellsAt (clos : List (Str × Addr)) (prs : List (Str × Pd)) (fz : Fz) (h : Heap) : Prop := ∀ x P, prs.lookup x = some P → ∃ c v, clos.lookup x = some c ∧ h.IsCell c (some v) ∧ P.p fz v
noncomputable def ClosOk (clos : List (Str × Addr)) (prs : List Str) : Prop := (∀ x c, clos.lookup x = some c → x ∈ prs) ∧ ∀ x y c, clos.lookup x = some c → clos.lookup y = some c → x = y
theorem CellsAt.grow {clos : List (Str × Addr)} {prs : List (Str × Pd)} {fz fz' : Fz} {s s' : Shared} (W : Wf C fz s) (G : Grow C fz s fz' s') (x : CellsAt clos prs fz s.heap) : CellsAt clos prs fz' s'.heap := fun y P h => by
  obtain ⟨c, v, hc, hv, hp⟩ := x y P h
  obtain ⟨h1, h2⟩ := W.cell_ne hv
  obtain ⟨o, e, hd⟩ := hv
  exact ⟨c, v, hc, ⟨o, G.kp _ o h1 h2 e, hd⟩, P.mono (G.le W) hp⟩
theorem CellsAt.alive {clos : List (Str × Addr)} {prs : List (Str × Pd)} {fz : Fz} {h : Heap} {ns : List Str} (x : CellsAt clos prs fz h) (k : ClosOk clos ns) (hn : ∀ y ∈ ns, (prs.lookup y).isSome = true) : ∀ y c, clos.lookup y = some c → ∃ v, h.IsCell c v := fun y c hc => by
  obtain ⟨P, hP⟩ := Option.isSome_iff_exists.mp (hn y (k.1 y c hc))
  obtain ⟨c', v, hc', hv, _⟩ := x y P hP
  rw [hc] at hc'; cases hc'
  exact ⟨_, hv⟩
/-- a def within a def that changes nothing -/
noncomputable def InnCl (C : Cx) (A : Around) (I : Pd) (clos : List (Str × Addr)) (prs : List (Str × Pd)) (ps : List Pd) (R : Pd) : Prop :=
  ∀ fz s v vs, Wf C fz s → I.p fz v → CellsAt clos prs fz s.heap → All2 fz ps vs → wpAny (M C) A (call v vs) (Rs C fz s R) NoE s
noncomputable def fixes (prs : List (Str × Pd)) : Store := prs.map fun p => (p.1, .fix p.2)
theorem fixes_lookup {x : Str} : ∀ {prs : List (Str × Pd)}, (fixes prs).lookup x = (prs.lookup x).map Ent.fix
  | [] => rfl
  | (y, P) :: r => by
    show List.lookup x ((y, Ent.fix P) :: fixes r) = _
    rw [List.lookup_cons, List.lookup_cons]
    cases x == y
    · exact fixes_lookup
    · rfl
theorem isSome_lookup {p : Str × Pd} : ∀ {prs : List (Str × Pd)}, p ∈ prs → (prs.lookup p.1).isSome = true
  | [], h => nomatch h
  | r :: prs, h => by
    rw [List.lookup_cons]
    cases e : p.1 == r.1 with
    | true => rfl
    | false =>
      rcases List.mem_cons.mp h with rfl | h
      · rw [beq_self_eq_true] at e; cases e
      · exact isSome_lookup h
theorem InnCl.of {k : Nat} {names : List Str} {ps : List Pd} {name q : Str} {params : Arguments} {body : List Stmt} {scope : Scope} {clos : List (Str × Addr)} {prs : List (Str × Pd)} {P : Pd}
    (hA : Rm (k + 1) A) (hlen : names.length = ps.length) (hnd : names.Nodup)
    (hbind : ∀ doc pm cv ctv vs, vs.length = names.length → bindArgs (fnX name q params body scope clos .none .none doc pm none cv ctv) ⟨vs, []⟩ = pure (names.zip vs))
    (hloc : ∀ x ∈ names, scope.names.lookup x = some .local) (hcell : ∀ x ∈ scope.names, x.2 ≠ .cell) (hk : scope.kind = .function) (hco : scope.isCoroutine = false) (hgen : scope.isGenerator = false)
    (hfree : ∀ p ∈ prs, scope.names.lookup p.1 = some .free) (hc : ClosOk clos (prs.map (·.1)))
    (h : ∀ doc pm cv ctv L f, Ex C (A.deeper (callEnv (fnX name q params body scope clos .none .none doc pm none cv ctv) L f)) (callEnv (fnX name q params body scope clos .none .none doc pm none cv ctv) L f) body (names.zip (ps.map Ent.fix) ++ fixes prs) (fun r _ => r = .ret P)) :
    InnCl C A (innP name q params body scope clos) clos prs ps P := fun fz s v vs W hv hx h2 => by
  have hvl : vs.length = names.length := by rw [← h2.length, hlen]
  refine wpAny_mono (enter_inner (ex := exAll C s.heap) (ad := fun _ => 0) hA W hv h2 hlen hnd (fun doc pm cv ctv => hbind doc pm cv ctv vs hvl) hloc hcell hk hco hgen (hx.alive hc fun y hy => ?_) hc.2 (fun a o e => exAll_get e) exAll_ok (fun x P hp => ?_) (fun x pl ps hp => ?_) (fun x y pl ps ql qs _ hp => ?_) h (fun r st e => .inr ⟨_, e⟩))
    (fun u s' ⟨r, st', fz', env, a1, a2, a3, ⟨ad', a4⟩, a5, _⟩ => ?_) fun _ _ e => e
  · obtain ⟨p, hp, rfl⟩ := List.mem_map.mp hy
    exact isSome_lookup hp
  · rw [fixes_lookup] at hp
    cases q : prs.lookup x with
    | none => rw [q] at hp; cases hp
    | some P' =>
      rw [q] at hp; cases hp
      obtain ⟨c, w, hc, hw, hp⟩ := hx x _ q
      exact ⟨hfree _ (mem_of_lookup q), c, w, hc, hw, hp⟩
  · rw [fixes_lookup] at hp
    cases q : prs.lookup x <;> rw [q] at hp <;> cases hp
  · rw [fixes_lookup] at hp
    cases q : prs.lookup x <;> rw [q] at hp <;> cases hp
  · subst a1
    exact ⟨fz', grow_of_ex W a3 a4.exle a5, a2⟩
end
section
variable {C : Cx} {A : Around} {env : Env} {st : List (Str × Pd)}
/-- where the caller's variables are the captured ones -/
noncomputable def Shares (env : Env) (clos : List (Str × Addr)) (prs : List (Str × Pd)) (st : List (Str × Pd)) : Prop :=
  ∀ p ∈ prs, st.lookup p.1 = some p.2 ∧ (env.kindOf p.1 = some .cell ∨ env.kindOf p.1 = some .free) ∧ env.cells.lookup p.1 = clos.lookup p.1
theorem Shares.at {clos : List (Str × Addr)} {prs : List (Str × Pd)} {fz : Fz} {h : Heap} (S : Shares env clos prs st) (F : Fe env st fz h) : CellsAt clos prs fz h := fun x P hp => by
  obtain ⟨h1, h2, h3⟩ := S (x, P) (mem_of_lookup hp)
  obtain ⟨v, hs, hpv⟩ := F.var x P h1
  rcases hs with ⟨hk, _⟩ | ⟨hk, c, hc, hv⟩
  · rcases h2 with h2 | h2 <;> (rw [show env.kindOf x = _ from h2] at hk; cases hk)
  · exact ⟨c, v, h3 ▸ hc, hv, hpv⟩
end
end Mine
end
/-! # part M16 -/
section
open PySem PySem.W PySem.Calls PyProof.Rows PySem.SeqAt
set_option Elab.async false
set_option maxRecDepth 100000
set_option linter.unusedVariables false
namespace Mine
section
variable {C : Cx} {A : Around} {env : Env} {st : List (Str × Pd)}
theorem Ev.callInn {x : Str} {p pos} {e : Expr} {es : List Expr} {ps : List Pd} {R : Pd} {name q : Str} {params : Arguments} {body : List Stmt} {scope : Scope} {clos : List (Str × Addr)} {prs : List (Str × Pd)}
    (hf : Ev C A env st (.Name x p) (innP name q params body scope clos)) (S : Shares env clos prs st) (ha : Evs C A env st pos (e :: es) ps) (hc : InnCl C A (innP name q params body scope clos) clos prs ps R)
    (he : backTo pos (starEach (e :: es) env) = (false, eval e env) :: backTo pos (starEach es env) := by rfl) :
    Ev C A env st (.Call (.Name x p) (e :: es) [] pos) R := fun fz s W F =>
  Call_Name rfl (wpAny_mono (hf fz s W F) (fun v s₁ ⟨f₁, G₁, h₁⟩ => by
    have h₁' := h₁
    obtain ⟨f, o, doc, pm, cv, ctv, rfl, e2, e3, e4⟩ := h₁'
    have h2 := ha f₁ s₁ G₁.wf (F.grow W G₁)
    rw [he] at h2 ⊢
    refine callWith_function (o := o) (fd := _) (evalArgs_plain (wpAny_mono h2 (fun vs s₂ ⟨f₂, G₂, h₂⟩ => ⟨⟨G₂.wf.le _ _ (G₂.le G₁.wf _ _ e2), e3⟩, ?_⟩) fun _ _ e => e))
    have G := G₁.trans W G₂
    exact wpAny_mono (hc f₂ s₂ _ vs G₂.wf ((innP name q params body scope clos).mono (G₂.le G₁.wf) h₁) (S.at (F.grow W G)) h₂) (fun v s₃ h => Rs.after W G v s₃ h) fun _ _ e => e) fun _ _ e => e)
end
theorem nodup_snd : ∀ {clos : List (Str × Addr)} {x y : Str} {c : Addr}, (clos.map (·.2)).Nodup → (x, c) ∈ clos → (y, c) ∈ clos → x = y
  | [], _, _, _, _, h, _ => nomatch h
  | (z, d) :: r, x, y, c, hn, h1, h2 => by
    rw [List.map_cons, List.nodup_cons] at hn
    rcases List.mem_cons.mp h1 with e1 | h1
    · rcases List.mem_cons.mp h2 with e2 | h2
      · cases e1; cases e2; rfl
      · cases e1; exact absurd (List.mem_map_of_mem (f := (·.2)) h2) hn.1
    · rcases List.mem_cons.mp h2 with e2 | h2
      · cases e2; exact absurd (List.mem_map_of_mem (f := (·.2)) h1) hn.1
      · exact nodup_snd hn.2 h1 h2
theorem ClosOk.of {clos : List (Str × Addr)} (h : (clos.map (·.2)).Nodup) : ClosOk clos (clos.map (·.1)) :=
  ⟨fun x c hc => List.mem_map_of_mem (f := (·.1)) (mem_of_lookup hc), fun x y c hx hy => nodup_snd h (mem_of_lookup hx) (mem_of_lookup hy)⟩
/-- a def of the text whose code is told -/
structure FnAtC (C : Cx) (n : Nat) (a : Addr) (cv : Value) : Prop where
  mg : C.mg (nameOf n) = some (.ref a)
  obj : ∃ o pm doc, C.h0.get? a = some o ∧ o.data = .func (fdAt n pm cv doc) ∧ C.h0.CodeRec cv (nameOf n)
theorem FnAtC.to {C : Cx} {n : Nat} {a : Addr} {cv : Value} (h : FnAtC C n a cv) : FnAt C n a := ⟨h.mg, let ⟨o, pm, doc, r⟩ := h.obj; ⟨o, pm, cv, doc, r⟩⟩
theorem Cl.fnC {C : Cx} {A : Around} {k : Nat} {a : Addr} {n : Nat} {cv : Value} {names : List Str} {ps : List Pd} {P : Pd} (hA : Rm (k + 1) A) (hf : FnAtC C n a cv)
    (hlen : names.length = ps.length) (hnd : names.Nodup) (hbind : ∀ pm code doc vs, vs.length = names.length → bindArgs (fdAt n pm code doc) ⟨vs, []⟩ = pure (names.zip vs))
    (hkind : ∀ m, (names.all fun x => (scopeOf n).names.lookup x == some .local || ((scopeOf n).names.lookup x == some .cell && ((cellsFrom m (scopeOf n).names []).lookup x).isSome)) = true)
    (hco : (scopeOf n).isCoroutine = false) (hgen : (scopeOf n).isGenerator = false) (hk : (scopeOf n).kind = .function)
    (h : ∀ pm doc L, Ex C (A.deeper (callEnvC (fdAt n pm cv doc) L a)) (callEnvC (fdAt n pm cv doc) L a) (bodyOf n) (names.zip (ps.map Ent.fix)) (fun r _ => r = .ret P)) : Cl C A (.ref a) ps P := by
  obtain ⟨o, pm, doc, ho, hd, hcd⟩ := hf.obj
  exact Cl.defC hA ho hd hcd rfl rfl rfl rfl hlen hnd (hbind pm cv doc) (fun m => kinds_of hkind m) hco hgen hk fun L => h pm doc L
end Mine
end
/-! # part M17 -/
section
open PySem PySem.W PySem.Calls PyProof.Rows PySem.SeqAt
set_option Elab.async false
set_option maxRecDepth 100000
set_option linter.unusedVariables false
namespace Mine
/-- a list stands at D -/
noncomputable def LsAt (D : Addr) (pl : Bool) (ps : List Pd) (fz : Fz) (h : Heap) : Prop := ∃ o us n, h.get? D = some o ∧ o.cls = .type "list" ∧ o.data = .seq us n ∧ (pl = true → o = listObj us n) ∧ All2 fz ps us.toList
/-- all stands but the list at D -/
structure Poke (C : Cx) (D : Addr) (fz : Fz) (s : Shared) (fz' : Fz) (s' : Shared) : Prop where
  wf : Wf C fz' s'
  eq : ∀ a o, s.heap.get? a = some o → fz' a = fz a
  le : FzLe fz fz'
  kp : ∀ a o, a ≠ C.t1 → a ≠ C.t2 → a ≠ D → s.heap.get? a = some o → s'.heap.get? a = some o
section
variable {C : Cx} {A : Around} {env : Env} {st : Store} {ad : Str → Addr} {ex fz fz' : Fz} {s s' : Shared}
theorem FmA.poke {x : Str} {pl : Bool} {ps qs : List Pd} (hx : ExOk C ex) (W : Wf C fz s) (F : FmA C env st ad ex fz s) (hl : st.lookup x = some (.own pl ps)) (K : Poke C (ad x) fz s fz' s') (hD : LsAt (ad x) pl qs fz' s'.heap) :
    FmA C env ((x, .own pl qs) :: st) ad ex fz' s' ∧ Kx ex fz fz' := by
  obtain ⟨hsx, hf, he, ox, vsx, nx, hgx, hcx, hdx, _⟩ := F.own x pl ps hl
  obtain ⟨m, hm⟩ := F.hasL
  have hL := W.ns_ne hm
  have neL : env.locals ≠ ad x := by
    intro q
    obtain ⟨o', _, _, e', q', _⟩ := hm
    rw [q, hgx] at e'; cases e'; rw [hdx] at q'; cases q'
  have kL : ∀ o, s.heap.get? env.locals = some o → s'.heap.get? env.locals = some o := fun o e => K.kp _ o hL.1 hL.2 neL e
  have kC : ∀ c v, s.heap.IsCell c v → s'.heap.IsCell c v := fun c v hv => by
    obtain ⟨h1, h2⟩ := W.cell_ne hv
    obtain ⟨o, e, hd⟩ := hv
    exact ⟨o, K.kp _ o h1 h2 (by rintro rfl; rw [hgx] at e; cases e; rw [hdx] at hd; cases hd) e, hd⟩
  have sl : ∀ y ov, Slot env s.heap y ov → Slot env s'.heap y ov := fun y ov q => by
    rcases q with ⟨k, m', hn', hm'⟩ | ⟨k, d, hd, hv⟩
    · exact .inl ⟨k, m', hn'.at' kL, hm'⟩
    · exact .inr ⟨k, d, hd, kC _ _ hv⟩
  obtain ⟨oD, us, n, d1, d2, d3, d4, d5⟩ := hD
  refine ⟨⟨F.ok, fun y Q h => ?_, fun y rl rs h => ?_, fun y z pl ps ql qs hyz h h' => ?_, ?_, fun y c hk h => ?_, ⟨m, hm.at' kL⟩, fun y c h => ?_, F.cells, fun a o e => ?_, F.exL, F.exC⟩, fun a o e => K.eq a o (F.exle a o e), K.le⟩
  · by_cases hy : y = x
    · subst hy; rw [lookup_cons_self] at h; cases h
    · rw [lookup_cons_ne hy] at h
      obtain ⟨v, hs', hq⟩ := F.fix y Q h
      exact ⟨v, sl _ _ hs', Q.mono K.le hq⟩
  · by_cases hy : y = x
    · subst hy; rw [lookup_cons_self] at h; cases h
      exact ⟨sl _ _ hsx, (K.eq _ _ hgx).trans hf, he, oD, us, n, d1, d2, d3, d4, d5⟩
    · rw [lookup_cons_ne hy] at h
      obtain ⟨hs', hf', he', o', vs', n', hg', hc', hd', hpl', ha'⟩ := F.own y rl rs h
      obtain ⟨h1, h2⟩ := W.seq_ne hg' hd'
      exact ⟨sl _ _ hs', (K.eq _ _ hg').trans hf', he', o', vs', n', K.kp _ _ h1 h2 (F.apart y x _ _ _ _ hy h hl) hg', hc', hd', hpl', ha'.mono K.le⟩
  · by_cases hy : y = x
    · subst hy
      rw [lookup_cons_ne hyz.symm] at h'
      exact F.apart y z _ _ _ _ hyz hl h'
    · rw [lookup_cons_ne hy] at h
      by_cases hz : z = x
      · subst hz; exact F.apart y z _ _ _ _ hyz h hl
      · rw [lookup_cons_ne hz] at h'; exact F.apart y z _ _ _ _ hyz h h'
  · obtain ⟨o', _, _, e', _⟩ := hm
    exact (K.eq _ _ e').trans F.nl
  · obtain ⟨v, o', e', _⟩ := F.hasC y c h
    exact (K.eq _ _ e').trans (F.nc y c hk h)
  · obtain ⟨v, hv⟩ := F.hasC y c h
    exact ⟨v, kC _ _ hv⟩
  · obtain ⟨h1, h2⟩ := hx a o e
    exact K.kp a o h1 h2 (by rintro rfl; rw [he] at e; cases e) (F.exle a o e)
/-- a def within a def that changes the list that y names -/
noncomputable def InnMut (C : Cx) (A : Around) (I : Pd) (clos : List (Str × Addr)) (prs : List (Str × Pd)) (y : Str) (pl : Bool) (ps : List Pd) (args : List Pd) (qs : List Pd) : Prop :=
  ∀ fz s v vs D c, Wf C fz s → I.p fz v → CellsAt clos prs fz s.heap → clos.lookup y = some c → s.heap.IsCell c (some (.ref D)) → fz D = none → LsAt D pl ps fz s.heap → All2 fz args vs →
    wpAny (M C) A (call v vs) (fun u s' => u = .none ∧ ∃ fz', Poke C D fz s fz' s' ∧ LsAt D pl qs fz' s'.heap) NoE s
noncomputable def exBut (C : Cx) (D : Addr) (h : Heap) : Fz := fun a => if a = D then none else exAll C h a
theorem exBut_get {D a : Addr} {h : Heap} {o : Obj} (e : exBut C D h a = some o) : exAll C h a = some o := by
  unfold exBut at e
  split at e
  · cases e
  · exact e
theorem exBut_some {D a : Addr} {h : Heap} {o : Obj} (e : h.get? a = some o) (h1 : a ≠ C.t1) (h2 : a ≠ C.t2) (h3 : a ≠ D) : exBut C D h a = some o := by
  unfold exBut
  rw [if_neg h3]
  exact (if_neg (by rintro (h | h); exact h1 h; exact h2 h)).trans e
theorem InnMut.of {k : Nat} {names : List Str} {ps qs args : List Pd} {name q y : Str} {pl : Bool} {params : Arguments} {body : List Stmt} {scope : Scope} {clos : List (Str × Addr)} {prs : List (Str × Pd)}
    (hA : Rm (k + 1) A) (hlen : names.length = args.length) (hnd : names.Nodup)
    (hbind : ∀ doc pm cv ctv vs, vs.length = names.length → bindArgs (fnX name q params body scope clos .none .none doc pm none cv ctv) ⟨vs, []⟩ = pure (names.zip vs))
    (hloc : ∀ x ∈ names, scope.names.lookup x = some .local) (hcell : ∀ x ∈ scope.names, x.2 ≠ .cell) (hk : scope.kind = .function) (hco : scope.isCoroutine = false) (hgen : scope.isGenerator = false)
    (hfree : ∀ p ∈ prs, scope.names.lookup p.1 = some .free) (hy : scope.names.lookup y = some .free) (hc : ClosOk clos (y :: prs.map (·.1)))
    (h : ∀ doc pm cv ctv L f, Ex C (A.deeper (callEnv (fnX name q params body scope clos .none .none doc pm none cv ctv) L f)) (callEnv (fnX name q params body scope clos .none .none doc pm none cv ctv) L f) body (names.zip (args.map Ent.fix) ++ ((y, .own pl ps) :: fixes prs)) (fun r st => (r = .next ∨ r = .ret non) ∧ st.lookup y = some (.own pl qs))) :
    InnMut C A (innP name q params body scope clos) clos prs y pl ps args qs := fun fz s v vs D c W hv hx hyc hcD hfD hLs h2 => by
  have hvl : vs.length = names.length := by rw [← h2.length, hlen]
  have hLs' := hLs
  obtain ⟨oD, us, n, d1, d2, d3, d4, d5⟩ := hLs'
  have look : ∀ x e, ((y, Ent.own pl ps) :: fixes prs).lookup x = some e → (x = y ∧ e = .own pl ps) ∨ (x ≠ y ∧ ∃ P, prs.lookup x = some P ∧ e = .fix P) := fun x e hp => by
    by_cases hxy : x = y
    · subst hxy; rw [lookup_cons_self] at hp; cases hp; exact .inl ⟨rfl, rfl⟩
    · rw [lookup_cons_ne hxy, fixes_lookup] at hp
      cases q : prs.lookup x with
      | none => rw [q] at hp; cases hp
      | some P => rw [q] at hp; cases hp; exact .inr ⟨hxy, P, rfl, rfl⟩
  refine wpAny_mono (enter_inner (ex := exBut C D s.heap) (ad := fun _ => D) (frees := (y, .own pl ps) :: fixes prs) hA W hv h2 hlen hnd (fun doc pm cv ctv => hbind doc pm cv ctv vs hvl) hloc hcell hk hco hgen (fun x c' hc' => ?_) hc.2 (fun a o e => exAll_get (exBut_get e)) (fun a o e => exAll_ok a o (exBut_get e)) (fun x P hp => ?_) (fun x pl' ps' hp => ?_) (fun x z pl ps ql qs hne hp hp' => ?_) h (fun r st e => ?_))
    (fun u s' ⟨r, st', fz', env, ⟨a0, a1⟩, a2, a3, ⟨ad', a4⟩, a5, a6, a7⟩ => ?_) fun _ _ e => e
  · rcases List.mem_cons.mp (hc.1 x c' hc') with rfl | hm
    · rw [hyc] at hc'; cases hc'; exact ⟨_, hcD⟩
    · obtain ⟨p, hp, rfl⟩ := List.mem_map.mp hm
      obtain ⟨P, hP⟩ := Option.isSome_iff_exists.mp (isSome_lookup hp)
      obtain ⟨c₂, w, e1, e2, _⟩ := hx _ P hP
      rw [hc'] at e1; cases e1
      exact ⟨_, e2⟩
  · rcases look x _ hp with ⟨_, e⟩ | ⟨_, P', hP, e⟩
    · cases e
    · cases e
      obtain ⟨c₂, w, e1, e2, e3⟩ := hx x _ hP
      exact ⟨hfree _ (mem_of_lookup hP), c₂, w, e1, e2, e3⟩
  · rcases look x _ hp with ⟨rfl, e⟩ | ⟨_, P', hP, e⟩
    · cases e
      exact ⟨hy, ⟨c, hyc, hcD⟩, hfD, if_pos rfl, oD, us, n, d1, d2, d3, d4, d5⟩
    · cases e
  · rcases look x _ hp with ⟨rfl, _⟩ | ⟨_, P', hP, e⟩
    · rcases look z _ hp' with ⟨rfl, _⟩ | ⟨_, P', hP, e⟩
      · exact absurd rfl hne
      · cases e
    · cases e
  · rcases e.1 with e | e
    · exact .inl e
    · exact .inr ⟨_, e⟩
  · obtain ⟨hs1, hf1, _, o1, us1, n1, g1, g2, g3, g4, g5⟩ := a4.own y pl qs a1
    obtain ⟨t1, t2⟩ := W.cell_ne hcD
    have hcs' : s'.heap.IsCell c (some (.ref D)) := by
      obtain ⟨oc, ec, dc⟩ := hcD
      exact ⟨oc, a4.exle _ _ (exBut_some ec t1 t2 (by rintro rfl; rw [d1] at ec; cases ec; rw [d3] at dc; cases dc)), dc⟩
    have hsl : Slot env s'.heap y (some (.ref D)) := .inr ⟨.inr (by show env.scope.names.lookup y = _; rw [a7]; exact hy), c, by rw [a6]; exact hyc, hcs'⟩
    have hDD : ad' y = D := by
      have := hs1.det hsl
      cases this; rfl
    rw [hDD] at hf1 g1
    refine ⟨?_, fz', ⟨a3, fun a o e => ?_, a5.2, fun a o h1 h2 h3 e => a4.exle _ _ (exBut_some e h1 h2 h3)⟩, o1, us1, n1, g1, g2, g3, g4, g5⟩
    · rcases a0 with rfl | rfl
      · exact a2
      · exact a2
    · by_cases h1 : a = C.t1
      · subst h1; rw [a3.n1, W.n1]
      · by_cases h2 : a = C.t2
        · subst h2; rw [a3.n2, W.n2]
        · by_cases h3 : a = D
          · subst h3; rw [hf1, hfD]
          · exact a5.1 a o (exBut_some e h1 h2 h3)
theorem Ex1.callMut {x y : Str} {p pos pos2} {e : Expr} {es : List Expr} {ps qs args : List Pd} {pl : Bool} {name q : Str} {params : Arguments} {body : List Stmt} {scope : Scope} {clos : List (Str × Addr)} {prs : List (Str × Pd)}
    (hl : st.lookup y = some (.own pl ps)) (hky : env.kindOf y = some .cell ∨ env.kindOf y = some .free) (hyc : env.cells.lookup y = clos.lookup y)
    (hf : Ev C A env (see seeF st) (.Name x p) (innP name q params body scope clos)) (S : Shares env clos prs (see seeF st)) (ha : Evs C A env (see seeF st) pos (e :: es) args) (hc : InnMut C A (innP name q params body scope clos) clos prs y pl ps args qs)
    (he : backTo pos (starEach (e :: es) env) = (false, eval e env) :: backTo pos (starEach es env) := by rfl) :
    Ex1 C A env (.Expr (.Call (.Name x p) (e :: es) [] pos) pos2) st (Nx ((y, .own pl qs) :: st)) := fun ex fz s hx W ⟨ad, F⟩ => by
  refine wpAny_Expr (Call_Name rfl (wpAny_mono (hf fz s W F.feF) (fun v s₁ ⟨f₁, G₁, h₁⟩ => ?_) fun _ _ e => e)) (by unfold interactive; rw [F.ok.kind]; rfl) rfl
  have h₁' := h₁
  obtain ⟨f, o, doc, pm, cv, ctv, rfl, e2, e3, e4⟩ := h₁'
  have F₁ := F.grow W G₁ hx
  have h2 := ha f₁ s₁ G₁.wf F₁.feF
  rw [he] at h2 ⊢
  refine callWith_function (o := o) (fd := _) (evalArgs_plain (wpAny_mono h2 (fun vs s₂ ⟨f₂, G₂, h₂⟩ => ⟨⟨G₂.wf.le _ _ (G₂.le G₁.wf _ _ e2), e3⟩, ?_⟩) fun _ _ e => e))
  have G := G₁.trans W G₂
  have F₂ := F.grow W G hx
  obtain ⟨hs1, hf1, _, hls⟩ := F₂.own y pl ps hl
  rcases hs1 with ⟨hk, _⟩ | ⟨_, c, hcl, hcell⟩
  · rcases hky with h | h <;> (rw [h] at hk; cases hk)
  · refine wpAny_mono (hc f₂ s₂ _ vs (ad y) c G₂.wf ((innP name q params body scope clos).mono (G₂.le G₁.wf) h₁) (S.at F₂.feF) (hyc ▸ hcl) hcell hf1 hls h₂) (fun u s₃ ⟨e, f₃, K, hD⟩ => ?_) fun _ _ e => e
    subst e
    obtain ⟨F₃, kx⟩ := F₂.poke hx G₂.wf hl K hD
    exact ⟨.next, _, f₃, ⟨rfl, rfl⟩, trivial, K.wf, ⟨ad, F₃⟩, (F.kx W G).trans kx⟩
theorem Ex1.ret0 {pos} : Ex1 C A env (.Return none pos) st (fun r st' => r = .ret non ∧ st' = st) := fun ex fz s hx W F =>
  wpAny_Return_none ⟨.ret non, st, fz, ⟨rfl, rfl⟩, rfl, W, F, .refl _ _⟩
end
end Mine
end
/-! # part M18 -/
section
open PySem PySem.W PySem.Calls PyProof.Rows PySem.SeqAt
set_option Elab.async false
set_option maxRecDepth 100000
set_option linter.unusedVariables false
namespace Mine
section
variable {C : Cx} {A : Around} {env : Env} {st : Store} {ps qs : List Pd}
/-- an operation that gives a new list -/
noncomputable def BinN (C : Cx) (A : Around) (op : Operator) (P Q : Pd) (R : List Pd) : Prop :=
  ∀ fz s v w, Wf C fz s → P.p fz v → Q.p fz w → wpAny (M C) A (binaryOp op v w) (fun u s' => ∃ vs : List Value, u = .ref s.heap.objs.size ∧ s' = { s with heap := s.heap.push { cls := .type "list", data := .seq vs.toArray } } ∧ All2 fz R vs) NoE s
theorem BinN.addL (hz : ps.length + qs.length ≤ sizeLine) : BinN C A .Add (lst ps) (lst qs) (ps ++ qs) := fun fz s v w W ⟨a, o, vs, n, e1, e2, e3, e4, e5⟩ ⟨b, o', ws, n', f1, f2, f3, f4, f5⟩ => by
  subst e1 f1
  obtain ⟨cls, dd, data, sl⟩ := o
  obtain ⟨cls2, dd2, data2, sl2⟩ := o'
  simp only at e3 e4 f3 f4
  subst e3 e4 f3 f4
  have h1 := W.le _ _ e2
  have h2 := W.le _ _ f2
  refine concat_meets ⟨_, h1, rfl⟩ ⟨_, h2, rfl⟩ noFill_list_add seq_list_add PySem.F.slot_list_add PySem.F.entry_list_add (PySem.F.args_list_add_2 _ _) (list_addW a b vs ws n n' dd dd2 sl sl2 ?_) ⟨h1, h2, ?_⟩
  · rw [← Array.length_toList, ← Array.length_toList, ← e5.length, ← f5.length]; exact hz
  · refine ⟨vs.toList ++ ws.toList, rfl, ?_, e5.append f5⟩
    rw [show (vs.toList ++ ws.toList).toArray = vs ++ ws by simp]
theorem BinN.mulL {x : Int} (hlo : -(2 ^ 63 : Int) ≤ x) (hhi : x < 2 ^ 63) (hz : ps.length * x.toNat ≤ 2 ^ 24) : BinN C A .Mult (lst ps) (int x) (List.replicate x.toNat ps).flatten := fun fz s v w W ⟨a, o, vs, n, e1, e2, e3, e4, e5⟩ ⟨u, e'⟩ => by
  subst e1 e'
  obtain ⟨cls, dd, data, sl⟩ := o
  simp only at e3 e4
  subst e3 e4
  have h1 := W.le _ _ e2
  have hsz : vs.size * x.toNat ≤ 2 ^ 24 := by rw [← Array.length_toList, ← e5.length]; exact hz
  refine wpAny_binaryOp_repeat_ref (T := "list") (U := "int") (by decide) ⟨_, h1, rfl⟩ (fun s' => typeIs_int s' x u) noFill_list_mul PySem.F.fills_int_mul PySem.F.slot_int_rmul repeat_list PySem.F.slot_int_index.lookup
    (call_meets PySem.F.slot_int_rmul (typeIs_int s x u) PySem.F.entry_int_rmul (PySem.F.args_int_rmul_2 _ _) (lm_int_rmul_list_any x u a vs n dd sl)
      ⟨h1, rfl, ⟨_, h1, rfl⟩, call_meets PySem.F.slot_list_mul ⟨_, h1, rfl⟩ PySem.F.entry_list_mul (PySem.F.args_list_mul_2 _ _)
        (lm_list_mul_any a vs n dd sl x u (by simp [Builtin.List.listFitsIndex]; omega) (by omega) (by simp [Builtin.List.listTooLong, sizeLine]; omega))
        ⟨h1, ?_⟩⟩)
  have e : (List.foldl (fun x1 x2 => x1 ++ x2) #[] (List.replicate (if vs.isEmpty = true then 0 else x.toNat) vs)) = (List.replicate x.toNat vs.toList).flatten.toArray := by
    exact listMul_foldl_if vs x.toNat
  rw [e]
  exact ⟨_, rfl, rfl, e5.rep x.toNat⟩
theorem Nw.bin {l r : Expr} {op pos} {P Q : Pd} {R : List Pd} (hl : Ev C A env (see seeF st) l P) (hr : Ev C A env (see seeF st) r Q) (ho : BinN C A op P Q R) : Nw C A env st (.BinOp l op r pos) R := fun ad ex fz s W F =>
  wpAny_BinOp (wpAny_mono (hl fz s W F.feF) (fun v s₁ ⟨f₁, G₁, h₁⟩ => wpAny_mono (hr f₁ s₁ G₁.wf (F.feF.grow W G₁)) (fun w s₂ ⟨f₂, G₂, h₂⟩ =>
    wpAny_mono (ho f₂ s₂ v w G₂.wf (P.mono (G₂.le G₁.wf) h₁) h₂) (fun u s₃ ⟨vs, e1, e2, h3⟩ => by
      subst e1 e2
      have G := G₁.trans W G₂
      have G₃ := Grow.keep (tk := s₂.toks) G₂.wf (fun b o e => Heap.get?_push_of_some { cls := .type "list", data := .seq vs.toArray } e)
      exact ⟨f₂, s₂.heap.objs.size, vs.toArray, 0, G.trans W G₃, rfl, fresh_before G (heap_fresh _), gone G₂.wf, Heap.get?_push_size _ rfl, by simpa using h3⟩) fun _ _ e => e) fun _ _ e => e) fun _ _ e => e)
theorem Ex.plain {body : List Stmt} {x : Str} {pl : Bool} {R : Fl → Store → Prop} (hl : st.lookup x = some (.own pl ps)) (h : Ex C A env body ((x, .own false ps) :: st) R) : Ex C A env body st R := fun ex fz s hx W ⟨ad, F⟩ => by
  refine h ex fz s hx W ⟨ad, ⟨F.ok, fun y Q q => ?_, fun y rl rs q => ?_, fun y z pl ps ql qs hyz q q' => ?_, F.nl, F.nc, F.hasL, F.hasC, F.cells, F.exle, F.exL, F.exC⟩⟩
  · by_cases hy : y = x
    · subst hy; rw [lookup_cons_self] at q; cases q
    · rw [lookup_cons_ne hy] at q; exact F.fix y Q q
  · by_cases hy : y = x
    · subst hy; rw [lookup_cons_self] at q; cases q
      obtain ⟨a1, a2, a3, o, us, n, a4, a5, a6, _, a8⟩ := F.own y pl ps hl
      exact ⟨a1, a2, a3, o, us, n, a4, a5, a6, (fun e => by cases e), a8⟩
    · rw [lookup_cons_ne hy] at q; exact F.own y rl rs q
  · by_cases hy : y = x
    · subst hy
      rw [lookup_cons_ne hyz.symm] at q'
      exact F.apart y z _ _ _ _ hyz hl q'
    · rw [lookup_cons_ne hy] at q
      by_cases hz : z = x
      · subst hz; exact F.apart y z _ _ _ _ hyz q hl
      · rw [lookup_cons_ne hz] at q'; exact F.apart y z _ _ _ _ hyz q q'
/-- arguments whose values hold no list -/
noncomputable def SEvs (C : Cx) (A : Around) (env : Env) (st : Store) (pos : Pos) (es : List Expr) (ps : List Pd) : Prop :=
  ∀ ad ex fz s, Wf C fz s → FmA C env st ad ex fz s → wpAny (M C) A (spliced (backTo pos (starEach es env))) (Rl C fz s ps) NoE s
theorem SEvs.fix {pos} {es : List Expr} (h : Evs C A env (see seeF st) pos es ps) : SEvs C A env st pos es ps := fun ad ex fz s W F => h fz s W F.feF
theorem All2.flat {f g : Fz} : ∀ {ps : List Pd} {vs : List Value}, (∀ P ∈ ps, Flat P) → All2 f ps vs → All2 g ps vs
  | [], [], _, _ => trivial
  | P :: ps, v :: vs, h, ⟨h1, h2⟩ => ⟨h P (.head _) _ _ _ h1, All2.flat (fun Q hQ => h Q (.tail _ hQ)) h2⟩
  | [], _ :: _, _, h => h.elim
  | _ :: _, [], _, h => h.elim
theorem SEvs.flat {pos} {es : List Expr} (h : Evs C A env (see seeA st) pos es ps) (hp : ∀ P ∈ ps, Flat P) : SEvs C A env st pos es ps := fun ad ex fz s W F =>
  wpAny_mono (h _ s (F.plus W) (F.feA W)) (fun v s' ⟨f, G, x⟩ => ⟨_, F.minus W G, x.flat hp⟩) fun _ _ e => e
theorem Ex1.callMutS {x y : Str} {p pos pos2} {e : Expr} {es : List Expr} {args : List Pd} {pl : Bool} {name q : Str} {params : Arguments} {body : List Stmt} {scope : Scope} {clos : List (Str × Addr)} {prs : List (Str × Pd)}
    (hl : st.lookup y = some (.own pl ps)) (hky : env.kindOf y = some .cell ∨ env.kindOf y = some .free) (hyc : env.cells.lookup y = clos.lookup y)
    (hf : Ev C A env (see seeF st) (.Name x p) (innP name q params body scope clos)) (S : Shares env clos prs (see seeF st)) (ha : SEvs C A env st pos (e :: es) args) (hc : InnMut C A (innP name q params body scope clos) clos prs y pl ps args qs)
    (he : backTo pos (starEach (e :: es) env) = (false, eval e env) :: backTo pos (starEach es env) := by rfl) :
    Ex1 C A env (.Expr (.Call (.Name x p) (e :: es) [] pos) pos2) st (Nx ((y, .own pl qs) :: st)) := fun ex fz s hx W ⟨ad, F⟩ => by
  refine wpAny_Expr (Call_Name rfl (wpAny_mono (hf fz s W F.feF) (fun v s₁ ⟨f₁, G₁, h₁⟩ => ?_) fun _ _ e => e)) (by unfold interactive; rw [F.ok.kind]; rfl) rfl
  have h₁' := h₁
  obtain ⟨f, o, doc, pm, cv, ctv, rfl, e2, e3, e4⟩ := h₁'
  have F₁ := F.grow W G₁ hx
  have h2 := ha ad ex f₁ s₁ G₁.wf F₁
  rw [he] at h2 ⊢
  refine callWith_function (o := o) (fd := _) (evalArgs_plain (wpAny_mono h2 (fun vs s₂ ⟨f₂, G₂, h₂⟩ => ⟨⟨G₂.wf.le _ _ (G₂.le G₁.wf _ _ e2), e3⟩, ?_⟩) fun _ _ e => e))
  have G := G₁.trans W G₂
  have F₂ := F.grow W G hx
  obtain ⟨hs1, hf1, _, hls⟩ := F₂.own y pl ps hl
  rcases hs1 with ⟨hk, _⟩ | ⟨_, c, hcl, hcell⟩
  · rcases hky with h | h <;> (rw [h] at hk; cases hk)
  · refine wpAny_mono (hc f₂ s₂ _ vs (ad y) c G₂.wf ((innP name q params body scope clos).mono (G₂.le G₁.wf) h₁) (S.at F₂.feF) (hyc ▸ hcl) hcell hf1 hls h₂) (fun u s₃ ⟨e, f₃, K, hD⟩ => ?_) fun _ _ e => e
    subst e
    obtain ⟨F₃, kx⟩ := F₂.poke hx G₂.wf hl K hD
    exact ⟨.next, _, f₃, ⟨rfl, rfl⟩, trivial, K.wf, ⟨ad, F₃⟩, (F.kx W G).trans kx⟩
end
end Mine
end
/-! # part F1 -/
section
open PySem PySem.W PySem.Calls PyProof.Rows PySem.SeqAt
set_option Elab.async false
set_option maxRecDepth 100000
set_option linter.unusedVariables false
namespace Mine
section
variable {C : Cx} {A : Around} {env : Env} {st : List (Str × Pd)}
theorem Ev.neg {e : Expr} {pos} {a : Int} (h : Ev C A env st e (int a)) : Ev C A env st (.UnaryOp .USub e pos) (int (-a)) := fun fz s W F =>
  wpAny_UnaryOp (wpAny_mono (h fz s W F) (fun v s₁ ⟨f₁, G, t, e⟩ => by
    subst e; exact PyProof.Rows.neg_int ⟨f₁, G.trans W (.toks G.wf _), _, rfl⟩) fun _ _ e => e)
end
/-- words as texts -/
noncomputable abbrev wds (ws : List (List Nat)) : Pd := lst (ws.map fun w => str (sOf w))
noncomputable abbrev nums (ns : List Int) : Pd := lst (ns.map int)
noncomputable def addRow (counts : List Int) (left : Int) (acc : List Int) (w : List Nat) : List Int :=
  acc ++ [acc.getLastD 0 + (if (w.length : Int) ≤ left then counts.getD (left - w.length).toNat 0 else 0)]
noncomputable def rowF (ws : List (List Nat)) (counts : List Int) (left : Int) : List Int := ws.foldl (addRow counts left) [0]
noncomputable def tablesF (ws : List (List Nat)) (counts : List Int) : List (List Int) := (rng 0 counts.length).map (rowF ws counts)
theorem take_snoc {α : Type} {l : List α} {i : Nat} {x : α} (h : l[i]? = some x) : l.take (i + 1) = l.take i ++ [x] := by
  rw [List.take_add_one, h]; rfl
theorem map_get {α β : Type} {f : α → β} {l : List α} {i : Nat} {y : β} (h : (l.map f)[i]? = some y) : ∃ x, l[i]? = some x ∧ y = f x := by
  rw [List.getElem?_map] at h
  cases e : l[i]? with
  | none => rw [e] at h; cases h
  | some x => rw [e] at h; cases h; exact ⟨x, rfl, rfl⟩
theorem row_ne (ws : List (List Nat)) (counts : List Int) (left : Int) : ∀ acc : List Int, acc ≠ [] → ws.foldl (addRow counts left) acc ≠ [] := by
  induction ws with
  | nil => intro acc h; exact h
  | cons w ws ih => intro acc h; exact ih _ (by simp [addRow])
theorem row_len (ws : List (List Nat)) (counts : List Int) (left : Int) : ∀ acc : List Int, (ws.foldl (addRow counts left) acc).length = acc.length + ws.length := by
  induction ws with
  | nil => intro acc; rfl
  | cons w ws ih => intro acc; rw [List.foldl_cons, ih, List.length_cons]; simp [addRow]; omega
theorem tables_ok {C : Cx} {A : Around} {a : Addr} (T : Tops C) (hf : FnAt C 15 a) (hA : Rm 1 A)
    (ws : List (List Nat)) (counts : List Int) (hw : ws.length ≤ 1000) (hl : ∀ w ∈ ws, w.length ≤ 1000) (hc : counts.length ≤ 1000) :
    Cl C A (.ref a) [wds ws, nums counts] (lst (intss (tablesF ws counts))) := by
  refine Cl.fn (names := [Str.ofString "words", Str.ofString "counts"]) hA hf rfl (by decide) (fun pm code doc vs hv => ?_) (fun m => rfl) rfl rfl rfl fun pm code doc L => ?_
  · match vs, hv with
    | [u, v], _ => rfl
  · have hA' := Rm.deeper (env := callEnvC (fdAt 15 pm code doc) L a) hA
    generalize hB : A.deeper (callEnvC (fdAt 15 pm code doc) L a) = B at hA'
    have hh := hA'.1
    conv => arg 4; whnf
    -- tables = []
    refine Ex.step (Ex1.assignOwn (Nw.display Evs.nil) (.inl rfl)) ?_
    -- for left in range(len(counts))
    refine' Ex.stepS (Ex1.forS (items := (rng 0 counts.length).map int) (ns := [Str.ofString "words", Str.ofString "counts", Str.ofString "tables"])
      (fun i => [(Str.ofString "words", .fix (wds ws)), (Str.ofString "counts", .fix (nums counts)), (Str.ofString "tables", .own true (intss (((rng 0 counts.length).take i).map (rowF ws counts))))]) ?it (.inl rfl) (fun _ => rfl) (by decide)
      (.cons rfl (.cons rfl (.cons rfl .nil))) ?turn) ?rest
    case it =>
      have e : (rng 0 counts.length) = rng 0 (Int.toNat (((counts.map int).length : Nat) : Int)) := by simp
      rw [e]
      refine' It.rangeTo T hh rfl ?_ ?_ ?_
      · exact Ev.len T rfl (Evs.cons Evs.nil (Ev.name rfl)) (Cl.lenL (by rw [List.length_map]; omega))
      · rw [List.length_map]; omega
      · rw [List.length_map]; omega
    case rest =>
      have e : (rng 0 counts.length).take ((rng 0 counts.length).map int).length = rng 0 counts.length := by rw [List.length_map]; exact List.take_length
      rw [e]
      refine Ex.freeze (x := Str.ofString "tables") rfl ?_
      refine Ex.ret (SEv.fix (Ev.name rfl)) rfl
    case turn =>
      intro i P hP
      obtain ⟨left, hleft, rfl⟩ := map_get hP
      have hli : left = (i : Int) ∧ i < counts.length := by
        have h1 : i < counts.length := by
          rcases Nat.lt_or_ge i counts.length with h | h
          · exact h
          · rw [List.getElem?_eq_none (by rw [rng_length]; exact h)] at hleft; cases hleft
        rw [rng_get h1] at hleft
        cases hleft
        exact ⟨by omega, h1⟩
      obtain ⟨hl1, hl2⟩ := hli
      -- ahead = [0]
      refine' Ex.step (Ex1.assignOwn (Nw.display (ps := [int 0]) ?_) (.inl rfl)) ?_
      · exact Evs.cons Evs.nil Ev.cint
      -- for word in words
      refine' Ex.stepS (Ex1.forS (items := ws.map fun w => str (sOf w)) (ns := [Str.ofString "words", Str.ofString "counts", Str.ofString "tables", Str.ofString "left", Str.ofString "ahead"])
        (fun j => [(Str.ofString "words", .fix (wds ws)), (Str.ofString "counts", .fix (nums counts)), (Str.ofString "tables", .own true (intss (((rng 0 counts.length).take i).map (rowF ws counts)))), (Str.ofString "left", .fix (int left)),
          (Str.ofString "ahead", .own true (((ws.take j).foldl (addRow counts left) [0]).map int))]) ?it2 (.inl rfl) (fun _ => rfl) (by decide)
        (.cons rfl (.cons rfl (.cons rfl (.cons rfl (.cons rfl .nil))))) ?turn2) ?rest2
      case it2 => exact It.list hh (Ev.name rfl)
      case rest2 =>
        have e : ws.take (ws.map fun w => str (sOf w)).length = ws := by rw [List.length_map]; exact List.take_length
        rw [e]
        refine Ex.freeze (x := Str.ofString "ahead") rfl ?_
        refine Ex.step (Ex1.append (ps := intss (((rng 0 counts.length).take i).map (rowF ws counts))) (P := lst ((rowF ws counts left).map int)) rfl (SEv.fix (Ev.name rfl)) ?_) (Ex.nil (.cons rfl (.cons rfl (.cons ?_ .nil))))
        · rw [show (intss (((rng 0 counts.length).take i).map (rowF ws counts))).length = ((rng 0 counts.length).take i).length by simp [intss], List.length_take, rng_length]
          rw [sizeLine_eq]; omega
        · rw [take_snoc hleft]
          simp only [List.map_append, intss]
          rfl
      case turn2 =>
        intro j P hP
        obtain ⟨w, hw', rfl⟩ := map_get hP
        have hwl : w.length ≤ 1000 := hl w (List.mem_of_getElem? hw')
        generalize hacc : (ws.take j).foldl (addRow counts left) [0] = acc
        have hne : acc ≠ [] := by rw [← hacc]; exact row_ne _ _ _ _ (by simp)
        have hal : acc.length ≤ 1001 := by rw [← hacc, row_len, List.length_take]; simp; omega
        have hpos : 0 < acc.length := List.length_pos_iff.mpr hne
        have hlast : acc[acc.length - 1]? = some (acc.getLastD 0) := by
          rw [← List.getLast?_eq_getElem?, List.getLastD_eq_getLast?]
          cases h : acc.getLast? with
          | none => exact absurd (List.getLast?_eq_none_iff.mp h) hne
          | some x => rfl
        refine' Ex.step (Ex1.append (ps := acc.map int) (P := int (acc.getLastD 0 + (if (w.length : Int) ≤ left then counts.getD (left - w.length).toNat 0 else 0))) rfl (SEv.flat ?e Flat.int) ?z) (Ex.nil (.cons rfl (.cons rfl (.cons rfl (.cons rfl (.cons ?_ .nil))))))
        case z => rw [List.length_map, sizeLine_eq]; omega
        case e =>
          refine Ev.bin (P := int (acc.getLastD 0)) (Q := int (if (w.length : Int) ≤ left then counts.getD (left - w.length).toNat 0 else 0)) ?_ ?_ Bin.add
          · refine Ev.sub (P := lst (acc.map int)) (Q := int (-1)) (Ev.name rfl) (Ev.neg Ev.cint) (Sb.getNeg (by decide) ?_ (by decide) ?_)
            · rw [List.length_map]; omega
            · rw [List.getElem?_map, List.length_map, show ((-1 : Int) + (acc.length : Nat)).toNat = acc.length - 1 by omega, hlast]; rfl
          · dsimp only [see, List.map, seeF, seeA]
            refine' Ev.ife (b := decide ((w.length : Int) ≤ left)) ?_ (fun h => ?_) (fun h => ?_)
            · exact Tr.cmp (Ev.len T rfl (Evs.cons Evs.nil (Ev.name rfl)) (Cl.lenW (by omega))) (Ev.name rfl) Cmp.le
            · have h' := of_decide_eq_true h
              rw [if_pos h']
              refine' Ev.sub (P := lst (counts.map int)) (Q := int (left - (w.length : Int))) (Ev.name rfl) ?_ (Sb.get ?_ ?_ ?_)
              · exact Ev.bin (Ev.name rfl) (Ev.len T rfl (Evs.cons Evs.nil (Ev.name rfl)) (Cl.lenW (by omega))) Bin.sub
              · omega
              · omega
              · rw [List.getElem?_map, List.getD_eq_getElem?_getD, List.getElem?_eq_getElem (show (left - (w.length : Int)).toNat < counts.length by omega)]; rfl
            · have h' := of_decide_eq_false h
              rw [if_neg h']
              exact Ev.cint
        rw [take_snoc hw', List.foldl_append, hacc]
        simp only [List.foldl_cons, List.foldl_nil, addRow, List.map_append]
        rfl
end Mine
end
/-! # part F2 -/
section
open PySem PySem.W PySem.Calls PyProof.Rows PySem.SeqAt
set_option Elab.async false
set_option maxRecDepth 100000
set_option linter.unusedVariables false
namespace Mine
theorem Ev.cstrW {C : Cx} {A : Around} {env : Env} {st : List (Str × Pd)} {x : Str} {l : List Nat} {k pos} (h : x = sOf l) : Ev C A env st (.Constant (.str x) k pos) (str (sOf l)) := by
  subst h; exact Ev.cstr
noncomputable def bitF (size : Nat) (number k : Int) : Nat := if (number.fdiv (2 ^ ((size : Int) - 1 - k).toNat)).fmod 2 == 1 then 49 else 48
noncomputable def bitsF (size : Nat) (number : Int) : List Nat := (rng 0 size).map (bitF size number)
noncomputable def hitF (bits : List Nat) (reached : List Int) (k : Int) (w : List Nat) : Bool :=
  reached.contains (k - w.length) && ((bits.drop (k - w.length).toNat).take w.length == w)
noncomputable def stepR (ws : List (List Nat)) (bits : List Nat) (reached : List Int) (k : Int) : List Int := if ws.any (hitF bits reached k) then reached ++ [k] else reached
noncomputable def reachF (ws : List (List Nat)) (bits : List Nat) (size : Nat) : List Int := (rng 1 size).foldl (stepR ws bits) [0]
noncomputable def walksF (ws : List (List Nat)) (size : Nat) : List (List Int) := (rng 0 (2 ^ size)).map fun number => reachF ws (bitsF size number) size
theorem bits_len (size : Nat) (number : Int) : (bitsF size number).length = size := by simp [bitsF, rng_length]
/-- what was reached lies between 0 and the last place -/
theorem reach_mem (ws : List (List Nat)) (bits : List Nat) : ∀ (ks : List Int) (acc : List Int) (n : Int), (∀ x ∈ acc, 0 ≤ x ∧ x ≤ n) → (∀ k ∈ ks, 0 ≤ k ∧ k ≤ n) → ∀ x ∈ ks.foldl (stepR ws bits) acc, 0 ≤ x ∧ x ≤ n := by
  intro ks
  induction ks with
  | nil => intro acc n h _; exact h
  | cons k ks ih =>
    intro acc n h hk
    refine ih _ n ?_ fun j hj => hk j (.tail _ hj)
    intro x hx
    unfold stepR at hx
    split at hx
    · rcases List.mem_append.mp hx with hx | hx
      · exact h x hx
      · rw [List.mem_singleton.mp hx]; exact hk k (.head _)
    · exact h x hx
theorem reach_len (ws : List (List Nat)) (bits : List Nat) : ∀ (ks : List Int) (acc : List Int), (ks.foldl (stepR ws bits) acc).length ≤ acc.length + ks.length := by
  intro ks
  induction ks with
  | nil => intro acc; exact Nat.le_refl _
  | cons k ks ih =>
    intro acc
    refine Nat.le_trans (ih _) ?_
    unfold stepR
    split <;> simp <;> omega
theorem rng_mem {a : Int} {n : Nat} {x : Int} (h : x ∈ rng a n) : a ≤ x ∧ x < a + n := by
  unfold rng at h
  obtain ⟨i, hi, rfl⟩ := List.mem_map.mp h
  have := List.mem_range.mp hi
  omega
theorem rng_at {a : Int} {n i : Nat} {x : Int} (h : (rng a n)[i]? = some x) : x = a + i ∧ i < n := by
  have h1 : i < n := by
    rcases Nat.lt_or_ge i n with q | q
    · exact q
    · rw [List.getElem?_eq_none (by rw [rng_length]; exact q)] at h; cases h
  rw [rng_get h1] at h
  cases h
  exact ⟨rfl, h1⟩
theorem filter_any {α : Type} (l : List α) (p : α → Bool) (d : α) : (((List.range l.length).filter fun i => p (l.getD i d)).isEmpty) = !l.any p := by
  rw [Bool.eq_iff_iff]
  simp only [List.isEmpty_iff, List.filter_eq_nil_iff, List.mem_range, Bool.not_eq_true, Bool.not_eq_true', List.any_eq_false]
  constructor
  · intro h x hx
    obtain ⟨i, hi, rfl⟩ := List.getElem_of_mem hx
    have := h i hi
    rwa [List.getD_eq_getElem?_getD, List.getElem?_eq_getElem hi] at this
  · intro h i hi
    rw [List.getD_eq_getElem?_getD, List.getElem?_eq_getElem hi]
    exact h _ (List.getElem_mem hi)
theorem bits2 : Builtin.Int.intBits 2 = 2 := by decide +kernel
theorem two_pow (n : Nat) : (2 : Int) ^ n = ((2 ^ n : Nat) : Int) := by rw [Int.natCast_pow]; rfl
theorem two_pow_toNat (n : Nat) : ((2 : Int) ^ n).toNat = 2 ^ n := by rw [two_pow]; exact Int.toNat_natCast _
theorem pow_fits {b : Int} (h : b ≤ 1000) : (Builtin.Int.intBits 2 : Int) * b ≤ 2 ^ 27 := by rw [bits2]; omega
theorem walks_ok {C : Cx} {A : Around} {a : Addr} (T : Tops C) (hf : FnAt C 14 a) (hA : Rm 1 A)
    (ws : List (List Nat)) (size : Nat) (hw : ws.length ≤ 1000) (hl : ∀ w ∈ ws, w.length ≤ 1000) (hsz : size ≤ 10) :
    Cl C A (.ref a) [wds ws, int size] (lst (intss (walksF ws size))) := by
  refine Cl.fn (names := [Str.ofString "words", Str.ofString "size"]) hA hf rfl (by decide) (fun pm code doc vs hv => ?_) (fun m => rfl) rfl rfl rfl fun pm code doc L => ?_
  · match vs, hv with
    | [u, v], _ => rfl
  · have hA' := Rm.deeper (env := callEnvC (fdAt 14 pm code doc) L a) hA
    generalize hB : A.deeper (callEnvC (fdAt 14 pm code doc) L a) = B at hA'
    have hh := hA'.1
    have h2s : (2 : Nat) ^ size ≤ 1024 := by
      calc (2 : Nat) ^ size ≤ 2 ^ 10 := Nat.pow_le_pow_right (by decide) hsz
        _ = 1024 := by decide
    conv => arg 4; whnf
    -- walks = []
    refine Ex.step (Ex1.assignOwn (Nw.display Evs.nil) (.inl rfl)) ?_
    -- for number in range(2 ** size)
    refine' Ex.stepS (Ex1.forS (items := (rng 0 (2 ^ size)).map int) (ns := [Str.ofString "words", Str.ofString "size", Str.ofString "walks"])
      (fun i => [(Str.ofString "words", .fix (wds ws)), (Str.ofString "size", .fix (int size)), (Str.ofString "walks", .own true (intss (((rng 0 (2 ^ size)).take i).map fun number => reachF ws (bitsF size number) size)))]) ?it (.inr ⟨rfl, _, rfl⟩) (fun _ => rfl) (by decide)
      (.cons rfl (.cons rfl (.cons rfl .nil))) ?turn) ?rest
    case it =>
      have e : (rng 0 (2 ^ size)) = rng 0 (Int.toNat ((2 : Int) ^ (Int.toNat (size : Int)))) := by rw [Int.toNat_natCast, two_pow_toNat]
      rw [e]
      refine' It.rangeTo T hh rfl ?_ ?_ ?_
      · exact Ev.bin Ev.cint (Ev.name rfl) (Bin.pow (by omega) (pow_fits (by omega)))
      · rw [Int.toNat_natCast, two_pow size]; exact Int.le_trans (by decide) (Int.natCast_nonneg _)
      · rw [Int.toNat_natCast, two_pow size]; exact Int.lt_of_le_of_lt (Int.ofNat_le.mpr h2s) (by decide)
    case rest =>
      have e : (rng 0 (2 ^ size)).take ((rng 0 (2 ^ size)).map int).length = rng 0 (2 ^ size) := by rw [List.length_map]; exact List.take_length
      rw [e]
      refine Ex.freeze (x := Str.ofString "walks") rfl ?_
      refine Ex.ret (SEv.fix (Ev.name rfl)) rfl
    case turn =>
      intro i P hP
      obtain ⟨number, hnum, rfl⟩ := map_get hP
      obtain ⟨hn1, hn2⟩ := rng_at hnum
      have hn3 : i < 1024 := Nat.lt_of_lt_of_le hn2 h2s
      -- bits = ''.join([..])
      refine' Ex.step (Ex1.assign (P := str (sOf (bitsF size number))) (SEv.fix ?bits) (.inr ⟨rfl, _, rfl⟩)) ?_
      case bits =>
        dsimp only [see, List.map, seeF]
        have e : bitsF size number = ((rng 0 size).map fun k => [bitF size number k]).flatten := by
          unfold bitsF
          generalize rng 0 size = r
          induction r with
          | nil => rfl
          | cons k r ih => simp only [List.map_cons, List.flatten_cons, ← ih]; rfl
        rw [e, ← join_nil]
        refine Ev.join (Ev.cstrW rfl) ?_ ?_
        · rw [List.map_map, List.map_map]
          refine Ev.mapX (st' := [(Str.ofString "number", int number), (Str.ofString "size", int size)]) (rng 0 size) int (fun k => str (sOf [bitF size number k])) ?_ rfl rfl (by decide +kernel) (.inl fun _ _ => rfl)
            (.cons rfl (fun L => ⟨_, rfl, rfl, .inl rfl, .inl rfl⟩) (.cons rfl (fun L => ⟨_, rfl, rfl, .inl rfl, .inl rfl⟩) .nil)) (by rw [rng_length, sizeLine_eq]; omega) fun L k hk => ?_
          · have := It.rangeTo (C := C) (A := B) (env := callEnvC (fdAt 14 pm code doc) L a) (st := [(Str.ofString "number", int number), (Str.ofString "words", wds ws), (Str.ofString "size", int ↑size), (Str.ofString "walks", anyP)])
              (p := ⟨111, 88, 111, 93⟩) (pos := ⟨111, 88, 111, 99⟩) (e := .Name (Str.ofString "size") ⟨111, 94, 111, 98⟩) T hh rfl (Ev.name rfl) (by omega) (by omega)
            rw [Int.toNat_natCast] at this
            exact this
          · obtain ⟨hk1, hk2⟩ := rng_mem hk
            have hp : ((2 : Int) ^ ((size : Int) - 1 - k).toNat) ≠ 0 := by
              rw [two_pow]
              have : 0 < 2 ^ ((size : Int) - 1 - k).toNat := Nat.pow_pos (by decide)
              omega
            have hpl : (2 : Nat) ^ ((size : Int) - 1 - k).toNat ≤ 1024 := Nat.le_trans (Nat.pow_le_pow_right (by decide) (show ((size : Int) - 1 - k).toNat ≤ size by omega)) h2s
            refine' Ev.ife (b := ((number.fdiv (2 ^ ((size : Int) - 1 - k).toNat)).fmod 2 == 1)) ?_ (fun h => ?_) (fun h => ?_)
            · refine Tr.cmp (Ev.bin (Ev.bin (Ev.name rfl) (Ev.bin Ev.cint (Ev.bin (Ev.bin (Ev.name rfl) Ev.cint Bin.sub) (Ev.name rfl) Bin.sub) (Bin.pow (by omega) (pow_fits (by omega)))) (Bin.fdiv hp ?_)) Ev.cint (Bin.mod (by decide))) Ev.cint Cmp.eq
              · refine PyProof.noPylong_small ?_
                rw [two_pow, Int.natAbs_natCast]
                exact Nat.lt_of_le_of_lt hpl (by decide)
            · unfold bitF; rw [if_pos h]; exact Ev.cstrW rfl
            · unfold bitF; rw [if_neg (by rw [h]; decide)]; exact Ev.cstrW rfl
        · have : (List.map (fun x => x.length) (List.map sOf (List.map (fun k => [bitF size number k]) (rng 0 size)))).sum = size := by
            rw [List.map_map, List.map_map]
            have h : ∀ r : List Int, (r.map (((fun x => x.length) ∘ sOf) ∘ fun k => [bitF size number k])).sum = r.length := by
              intro r
              induction r with
              | nil => rfl
              | cons k r ih => simp only [List.map_cons, List.sum_cons, ih, List.length_cons]; simp [sOf_length]; omega
            rw [h, rng_length]
          rw [this]
          have e0 : (sOf []).length = 0 := rfl
          rw [e0]
          omega
      -- reached = [0]
      refine' Ex.step (Ex1.assignOwn (Nw.display (ps := [int 0]) ?_) (.inr ⟨rfl, _, rfl⟩)) ?_
      · exact Evs.cons Evs.nil Ev.cint
      generalize hbits : bitsF size number = bits
      have hbl : bits.length = size := by rw [← hbits]; exact bits_len _ _
      -- for k in range(1, size + 1)
      refine' Ex.stepS (Ex1.forS (items := (rng 1 size).map int) (ns := [Str.ofString "words", Str.ofString "size", Str.ofString "walks", Str.ofString "bits", Str.ofString "reached"])
        (fun j => [(Str.ofString "words", .fix (wds ws)), (Str.ofString "size", .fix (int size)), (Str.ofString "walks", .own true (intss (((rng 0 (2 ^ size)).take i).map fun number => reachF ws (bitsF size number) size))), (Str.ofString "bits", .fix (str (sOf bits))),
          (Str.ofString "reached", .own true ((((rng 1 size).take j).foldl (stepR ws bits) [0]).map int))]) ?it2 (.inr ⟨rfl, _, rfl⟩) (fun _ => rfl) (by decide)
        (.cons rfl (.cons rfl (.cons rfl (.cons rfl (.cons rfl .nil))))) ?turn2) ?rest2
      case it2 =>
        have e : (rng 1 size) = rng 1 (((size : Int) + 1 - 1).toNat) := by rw [show ((size : Int) + 1 - 1).toNat = size by omega]
        rw [e]
        refine' It.rangeFrom T hh rfl ?_ ?_ ?_ ?_ ?_ ?_
        · exact Ev.cint
        · exact Ev.bin (Ev.name rfl) Ev.cint Bin.add
        all_goals omega
      case rest2 =>
        have e : (rng 1 size).take ((rng 1 size).map int).length = rng 1 size := by rw [List.length_map]; exact List.take_length
        rw [e]
        refine Ex.freeze (x := Str.ofString "reached") rfl ?_
        refine Ex.step (Ex1.append (ps := intss (((rng 0 (2 ^ size)).take i).map fun number => reachF ws (bitsF size number) size)) (P := lst ((reachF ws bits size).map int)) rfl (SEv.fix (Ev.name rfl)) ?_) (Ex.nil (.cons rfl (.cons rfl (.cons ?_ .nil))))
        · rw [show (intss (((rng 0 (2 ^ size)).take i).map fun number => reachF ws (bitsF size number) size)).length = ((rng 0 (2 ^ size)).take i).length by simp [intss], List.length_take, rng_length]
          rw [sizeLine_eq]; omega
        · rw [take_snoc hnum, ← hbits]
          simp only [List.map_append, intss]
          rfl
      case turn2 =>
        intro j P hP
        obtain ⟨k, hk, rfl⟩ := map_get hP
        obtain ⟨hk1, hk2⟩ := rng_at hk
        generalize hacc : ((rng 1 size).take j).foldl (stepR ws bits) [0] = acc
        have hmem : ∀ x ∈ acc, 0 ≤ x ∧ x ≤ (size : Int) := by
          rw [← hacc]
          refine reach_mem _ _ _ _ _ (fun x hx => ?_) fun x hx => ?_
          · rw [List.mem_singleton.mp hx]; omega
          · have := rng_mem (List.mem_of_mem_take hx); omega
        have hal : acc.length ≤ 20 := by
          rw [← hacc]
          refine Nat.le_trans (reach_len _ _ _ _) ?_
          rw [List.length_take, rng_length]
          simp
          omega
        rw [take_snoc hk, List.foldl_append, hacc]
        show Ex _ _ _ _ _ (TurnS [_, _, _, _, (_, .own true ((stepR ws bits acc k).map int))])
        have hb : ws.any (hitF bits acc k) = !((ws.filter (hitF bits acc k)).map fun w => str (sOf w)).isEmpty := by
          rw [Bool.eq_iff_iff]
          simp [List.any_eq_true]
        refine' Ex.cons (Ex1.ite (b := ws.any (hitF bits acc k)) (R := TurnS [(Str.ofString "words", .fix (wds ws)), (Str.ofString "size", .fix (int size)), (Str.ofString "walks", .own true (intss (((rng 0 (2 ^ size)).take i).map fun number => reachF ws (bitsF size number) size))), (Str.ofString "bits", .fix (str (sOf bits))), (Str.ofString "reached", .own true ((stepR ws bits acc k).map int))]) (STr.flat ?t) (fun h => ?y) (fun h => ?n)) (fun st' h => Ex.nil h) fun r st' h _ => h
        case t =>
          rw [hb]
          dsimp only [see, List.map, seeA]
          refine Tr.cmp (Ev.compX (st' := [(Str.ofString "k", int k), (Str.ofString "reached", nums acc), (Str.ofString "bits", str (sOf bits))]) ws (fun w => str (sOf w)) (fun w => str (sOf w)) (hitF bits acc k) (It.list hh (Ev.name rfl)) rfl rfl (by decide +kernel) (.inl fun _ _ => rfl)
            (.cons rfl (fun L => ⟨_, rfl, rfl, (by first | exact .inl rfl | exact .inr rfl), (by first | exact .inl rfl | exact .inr rfl)⟩) (.cons rfl (fun L => ⟨_, rfl, rfl, (by first | exact .inl rfl | exact .inr rfl), (by first | exact .inl rfl | exact .inr rfl)⟩) (.cons rfl (fun L => ⟨_, rfl, rfl, (by first | exact .inl rfl | exact .inr rfl), (by first | exact .inl rfl | exact .inr rfl)⟩) .nil))) (by rw [sizeLine_eq]; omega) (fun L w hw => Tifs.one ?_) (fun L w hw _ => Ev.name rfl)) (Ev.list Evs.nil) (Cmp.neNil hA'.units)
          have hwl := hl w hw
          refine Tr.and (a := acc.contains (k - w.length)) ?_ (fun h => ?_) (fun h => ?_)
          · exact Tr.cmp (Ev.bin (Ev.name rfl) (Ev.len T rfl (Evs.cons Evs.nil (Ev.name rfl)) (Cl.lenW (by omega))) Bin.sub) (Ev.name rfl) Cmp.inInts
          · have h0 := hmem _ (List.contains_iff_mem.mp h)
            have e : strSlice (sOf bits) (some (k - w.length)) (some k) none = sOf ((bits.drop (k - w.length).toNat).take w.length) := by
              have := strSlice_run (l := bits) (a := (k - w.length).toNat) (b := k.toNat) (by omega) (by omega)
              rw [Int.toNat_of_nonneg h0.1, Int.toNat_of_nonneg (by omega)] at this
              rw [this, show k.toNat - (k - w.length).toNat = w.length by omega]
            have hq : hitF bits acc k w = (strSlice (sOf bits) (some (k - w.length)) (some k) none == sOf w) := by
              rw [e, sOf_beq]; unfold hitF; rw [h]; rfl
            rw [hq]
            refine Tr.cmp (Ev.sub (Ev.name rfl) (Ev.slice (EvP.some ?_) (EvP.some (Ev.name rfl)) EvP.none) (Sb.strSlice rfl (by rw [e, sOf_length, sizeLine_eq, List.length_take]; omega))) (Ev.name rfl) Cmp.eqS
            exact Ev.bin (Ev.name rfl) (Ev.len T rfl (Evs.cons Evs.nil (Ev.name rfl)) (Cl.lenW (by omega))) Bin.sub
          · unfold hitF; rw [h]; rfl
        case y =>
          refine Ex.step (Ex1.append (ps := acc.map int) (P := int k) rfl (SEv.fix (Ev.name rfl)) (by rw [List.length_map, sizeLine_eq]; omega)) (Ex.nil (.cons rfl (.cons rfl (.cons rfl (.cons rfl (.cons ?_ .nil))))))
          unfold stepR; rw [if_pos h, List.map_append]; rfl
        case n =>
          refine Ex.nil (.cons rfl (.cons rfl (.cons rfl (.cons rfl (.cons ?_ .nil)))))
          unfold stepR; rw [if_neg (by rw [h]; decide)]; rfl
end Mine
end
/-! # part F3 -/
section
open PySem PySem.W PySem.Calls PyProof.Rows PySem.SeqAt
set_option Elab.async false
set_option maxRecDepth 100000
set_option linter.unusedVariables false
namespace Mine
theorem pick_run' {α : Type} (l : List α) (a k : Nat) : (((List.range k).map (a + ·)).filterMap (l[·]?)) = (l.drop a).take k := by
  have := pick_run l.toArray a k
  simpa using this
theorem pick_to {α : Type} (l : List α) {k : Int} (h0 : 0 ≤ k) (hk : k ≤ l.length) : pick l none (some k) none = l.take k.toNat := by
  unfold pick sliceBounds
  simp only [Option.getD_none, show (1 : Int) > 0 by decide, if_true]
  rw [if_neg (by omega), show max 0 (min k l.length) = ((k.toNat : Nat) : Int) by omega]
  have := sliceRange_one 0 k.toNat
  rw [show ((0 : Nat) : Int) = 0 by rfl] at this
  rw [this, pick_run']
  simp
theorem pick_from {α : Type} (l : List α) {k : Int} (h0 : 0 ≤ k) : pick l (some k) none none = l.drop k.toNat := by
  unfold pick sliceBounds
  simp only [Option.getD_none, show (1 : Int) > 0 by decide, if_true]
  rw [if_neg (by omega), show max 0 (min k l.length) = ((min k.toNat l.length : Nat) : Int) by omega, sliceRange_one, pick_run']
  rcases Nat.lt_or_ge k.toNat l.length with h | h
  · rw [Nat.min_eq_left (by omega), List.take_of_length_le (by rw [List.length_drop]; omega)]
  · rw [Nat.min_eq_right h, List.drop_of_length_le h, List.drop_of_length_le (Nat.le_refl _)]; simp
theorem pick_rev {α : Type} (l : List α) : pick l none none (some (-1)) = l.reverse := by
  unfold pick sliceBounds
  simp only [Option.getD_some, show ¬ ((-1 : Int) > 0) by decide, if_false]
  have e : sliceRange ((l.length : Int) - 1) (-1) (-1) = (List.range l.length).map fun k => l.length - 1 - k := by
    unfold sliceRange
    simp only [show ¬ ((-1 : Int) > 0) by decide, if_false]
    have e : (if (l.length : Int) - 1 > -1 then ((l.length : Int) - 1 - -1 - -1 - 1) / (- -1) else 0).toNat = l.length := by
      simp only [Int.neg_neg, Int.ediv_one]
      split <;> omega
    rw [e]
    refine List.map_congr_left fun k hk => ?_
    have := List.mem_range.mp hk
    omega
  rw [e, rev_pick]
theorem pick_map {α β : Type} (f : α → β) (l : List α) (lo hi sp : Option Int) : pick (l.map f) lo hi sp = (pick l lo hi sp).map f := by
  unfold pick
  rw [List.length_map]
  generalize sliceRange _ _ _ = js
  induction js with
  | nil => rfl
  | cons j js ih =>
    simp only [List.getElem?_map] at ih
    simp only [List.filterMap_cons, List.getElem?_map]
    cases l[j]? with
    | none => exact ih
    | some x => exact congrArg (f x :: ·) ih
noncomputable def modC (k : Int) (n : Nat) : Int := if k == 0 then 2 else (n : Int) + 1
noncomputable def placeC (ns : List Int) (k : Int) (n : Nat) : Int := (ns.getD k.toNat 0).fmod (modC k n)
noncomputable def stepC (ns : List Int) (ws : List (List Nat)) (k : Int) : List (List Nat) :=
  if (placeC ns k ws.length).toNat < ws.length then ws.take (placeC ns k ws.length).toNat ++ [ws.getD (placeC ns k ws.length).toNat [] ++ [48], ws.getD (placeC ns k ws.length).toNat [] ++ [49]] ++ ws.drop ((placeC ns k ws.length).toNat + 1) else ws
noncomputable def treeF (ns : List Int) : List (List Nat) := (rng 0 3).foldl (stepC ns) [[48], [49]]
noncomputable def codeF (ns : List Int) : List (List Nat) :=
  (treeF ns).take ((ns.getD 3 0).fmod ((treeF ns).length + 1)).toNat ++ (treeF ns).drop (((ns.getD 3 0).fmod ((treeF ns).length + 1)).toNat + 1)
theorem placeC_pos (ns : List Int) (k : Int) (n : Nat) : 0 ≤ placeC ns k n ∧ placeC ns k n < modC k n := by
  have h : 0 < modC k n := by unfold modC; split <;> omega
  exact ⟨Int.fmod_nonneg_of_pos _ h, Int.fmod_lt_of_pos _ h⟩
/-- short lists of short words -/
noncomputable def Short (ws : List (List Nat)) (n : Nat) : Prop := ws.length ≤ n ∧ ∀ w ∈ ws, w.length ≤ n
theorem stepC_short {ns : List Int} {ws : List (List Nat)} {k : Int} {n : Nat} (h : Short ws n) : Short (stepC ns ws k) (n + 1) := by
  unfold stepC
  split
  · rename_i hp
    have hg : (ws.getD (placeC ns k ws.length).toNat []).length ≤ n := by
      rw [List.getD_eq_getElem?_getD, List.getElem?_eq_getElem hp]; exact h.2 _ (List.getElem_mem hp)
    refine ⟨?_, fun w hw => ?_⟩
    · simp only [List.length_append, List.length_take, List.length_drop, List.length_cons, List.length_nil]
      have := h.1
      omega
    · simp only [List.mem_append, List.mem_cons, List.not_mem_nil, or_false] at hw
      rcases hw with (hw | rfl | rfl) | hw
      · exact Nat.le_succ_of_le (h.2 w (List.mem_of_mem_take hw))
      · rw [List.length_append, List.length_singleton]; omega
      · rw [List.length_append, List.length_singleton]; omega
      · exact Nat.le_succ_of_le (h.2 w (List.mem_of_mem_drop hw))
  · exact ⟨Nat.le_succ_of_le h.1, fun w hw => Nat.le_succ_of_le (h.2 w hw)⟩
theorem fold_short {ns : List Int} : ∀ (ks : List Int) {ws : List (List Nat)} {n : Nat}, Short ws n → Short (ks.foldl (stepC ns) ws) (n + ks.length)
  | [], _, _, h => h
  | k :: ks, ws, n, h => by
    have := fold_short (ns := ns) ks (stepC_short (ns := ns) (k := k) h)
    rw [List.length_cons, show n + (ks.length + 1) = n + 1 + ks.length by omega]
    exact this
theorem short0 : Short [[48], [49]] 2 := ⟨by decide, by decide⟩
theorem tree_short (ns : List Int) : Short (treeF ns) 5 := fold_short (rng 0 3) short0
theorem code_ok {C : Cx} {A : Around} {a : Addr} (T : Tops C) (hf : FnAt C 12 a) (hA : Rm 1 A) (ns : List Int) (hn : 4 ≤ ns.length) :
    Cl C A (.ref a) [nums ns] (wds (codeF ns)) := by
  refine Cl.fn (names := [Str.ofString "nums"]) hA hf rfl (by decide) (fun pm code doc vs hv => ?_) (fun m => rfl) rfl rfl rfl fun pm code doc L => ?_
  · match vs, hv with
    | [u], _ => rfl
  · have hA' := Rm.deeper (env := callEnvC (fdAt 12 pm code doc) L a) hA
    generalize hB : A.deeper (callEnvC (fdAt 12 pm code doc) L a) = B at hA'
    have hh := hA'.1
    conv => arg 4; whnf
    refine Ex.step (Ex1.assign (P := wds [[48], [49]]) (SEv.fix (Ev.list (ps := [str (sOf [48]), str (sOf [49])]) (Evs.cons (Evs.cons Evs.nil (Ev.cstrW rfl)) (Ev.cstrW rfl)))) (.inl rfl)) ?_
    refine' Ex.stepS (Ex1.forS (items := (rng 0 3).map int) (ns := [Str.ofString "nums", Str.ofString "words"])
      (fun i => [(Str.ofString "nums", .fix (nums ns)), (Str.ofString "words", .fix (wds (((rng 0 3).take i).foldl (stepC ns) [[48], [49]])))]) ?it (.inl rfl) (fun _ => rfl) (by decide)
      (.cons rfl (.cons rfl .nil)) ?turn) ?rest
    case it => exact It.rangeTo (b := 3) T hh rfl Ev.cint (by decide) (by decide)
    case rest =>
      have e : (rng 0 3).take ((rng 0 3).map int).length = rng 0 3 := by rw [List.length_map]; exact List.take_length
      rw [e]
      show Ex _ _ _ _ [(Str.ofString "nums", .fix (nums ns)), (Str.ofString "words", .fix (wds (treeF ns)))] _
      obtain ⟨s1, s2⟩ := tree_short ns
      unfold codeF
      generalize treeF ns = ws at s1 s2
      have hp0 : 0 ≤ (ns.getD 3 0).fmod ((ws.length : Int) + 1) := Int.fmod_nonneg_of_pos _ (by omega)
      have hp1 : (ns.getD 3 0).fmod ((ws.length : Int) + 1) < (ws.length : Int) + 1 := Int.fmod_lt_of_pos _ (by omega)
      refine Ex.step (Ex1.assign (P := int ((ns.getD 3 0).fmod ((ws.length : Int) + 1))) (SEv.fix ?_) (.inl rfl)) ?_
      · refine Ev.bin (P := int (ns.getD 3 0)) (Q := int ((ws.length : Int) + 1)) (Ev.sub (P := nums ns) (Q := int 3) (Ev.name rfl) Ev.cint (Sb.get (by decide) (by decide) ?_)) ?_ (Bin.mod (by omega))
        · rw [List.getElem?_map, List.getD_eq_getElem?_getD, show (3 : Int).toNat = 3 by rfl, List.getElem?_eq_getElem (by omega)]; rfl
        · have := Cl.lenL (C := C) (A := B) (ps := ws.map fun w => str (sOf w)) (by rw [List.length_map]; omega)
          rw [List.length_map] at this
          refine Ev.bin (P := int ws.length) (Q := int 1) (Ev.len T rfl (Evs.cons Evs.nil (Ev.name rfl)) this) Ev.cint Bin.add
      generalize (ns.getD 3 0).fmod ((ws.length : Int) + 1) = p at hp0 hp1
      refine Ex.ret (SEv.fix ?_) rfl
      rw [show wds (ws.take p.toNat ++ ws.drop (p.toNat + 1)) = lst (pick (ws.map fun w => str (sOf w)) none (some p) none ++ pick (ws.map fun w => str (sOf w)) (some (p + 1)) none none) by
        rw [pick_map, pick_map, pick_to _ hp0 (by omega), pick_from _ (by omega), show (p + 1).toNat = p.toNat + 1 by omega, ← List.map_append]]
      refine Ev.bin (Ev.sub (Ev.name rfl) (Ev.slice EvP.none (EvP.some (Ev.name rfl)) EvP.none) (Sb.slice (by decide) (by rw [List.length_map, sizeLine_eq]; omega)))
        (Ev.sub (Ev.name rfl) (Ev.slice (EvP.some (Ev.bin (Ev.name rfl) Ev.cint Bin.add)) EvP.none EvP.none) (Sb.slice (by decide) (by rw [List.length_map, sizeLine_eq]; omega))) (Bin.addL ?_)
      rw [pick_map, pick_map, pick_to _ hp0 (by omega), pick_from _ (by omega), List.length_map, List.length_map, List.length_take, List.length_drop, sizeLine_eq]
      omega
    case turn =>
      intro i P hP
      obtain ⟨k, hk, rfl⟩ := map_get hP
      obtain ⟨hk1, hk2⟩ := rng_at hk
      rw [take_snoc hk, List.foldl_append]
      have hsh : Short (((rng 0 3).take i).foldl (stepC ns) [[48], [49]]) (2 + ((rng 0 3).take i).length) := fold_short _ short0
      have hti : ((rng 0 3).take i).length ≤ 3 := by rw [List.length_take, rng_length]; omega
      generalize ((rng 0 3).take i).foldl (stepC ns) [[48], [49]] = ws at hsh
      show Ex _ _ _ _ _ (TurnS [_, (_, .fix (wds (stepC ns ws k)))])
      obtain ⟨s1, s2⟩ := hsh
      obtain ⟨hp0, hp1⟩ := placeC_pos ns k ws.length
      have hlen := Cl.lenL (C := C) (A := B) (ps := ws.map fun w => str (sOf w)) (by rw [List.length_map]; omega)
      rw [List.length_map] at hlen
      refine Ex.step (Ex1.assign (P := int (placeC ns k ws.length)) (SEv.fix ?_) (.inl rfl)) ?_
      · refine Ev.bin (P := int (ns.getD k.toNat 0)) (Q := int (modC k ws.length)) (Ev.sub (P := nums ns) (Q := int k) (Ev.name rfl) (Ev.name rfl) (Sb.get (by omega) (by omega) ?_)) ?_ (Bin.mod ?_)
        · rw [List.getElem?_map, List.getD_eq_getElem?_getD, List.getElem?_eq_getElem (by omega)]; rfl
        · refine Ev.ife (b := k == 0) (Tr.cmp (Ev.name rfl) Ev.cint Cmp.eq) (fun h => ?_) (fun h => ?_)
          · unfold modC; rw [if_pos h]; exact Ev.cint
          · unfold modC; rw [if_neg (by rw [h]; decide)]
            exact Ev.bin (P := int ws.length) (Q := int 1) (Ev.len T rfl (Evs.cons Evs.nil (Ev.name rfl)) hlen) Ev.cint Bin.add
        · unfold modC; split <;> omega
      unfold stepC
      generalize placeC ns k ws.length = p at hp0 hp1
      refine' Ex.cons (Ex1.ite (b := decide (p < (ws.length : Int))) (R := TurnS [(Str.ofString "nums", .fix (nums ns)), (Str.ofString "words", .fix (wds (if p.toNat < ws.length then ws.take p.toNat ++ [ws.getD p.toNat [] ++ [48], ws.getD p.toNat [] ++ [49]] ++ ws.drop (p.toNat + 1) else ws)))]) (STr.fix ?t) (fun h => ?y) (fun h => ?n)) (fun st' h => Ex.nil h) fun r st' h _ => h
      case t => exact Tr.cmp (Ev.name rfl) (Ev.len T rfl (Evs.cons Evs.nil (Ev.name rfl)) hlen) Cmp.lt
      case n =>
        have h' := of_decide_eq_false h
        rw [if_neg (by omega)]
        exact Ex.nil (.cons rfl (.cons rfl .nil))
      case y =>
        have h' := of_decide_eq_true h
        rw [if_pos (by omega)]
        have hpl : p.toNat < ws.length := by omega
        have hget : (ws.map fun w => str (sOf w))[p.toNat]? = some (str (sOf (ws.getD p.toNat []))) := by
          rw [List.getElem?_map, List.getD_eq_getElem?_getD, List.getElem?_eq_getElem hpl]; rfl
        have hgl : (ws.getD p.toNat []).length ≤ 5 := by
          rw [List.getD_eq_getElem?_getD, List.getElem?_eq_getElem hpl]; exact Nat.le_trans (s2 _ (List.getElem_mem hpl)) (by omega)
        refine Ex.step (Ex1.assign (P := wds (ws.take p.toNat ++ [ws.getD p.toNat [] ++ [48], ws.getD p.toNat [] ++ [49]] ++ ws.drop (p.toNat + 1))) (SEv.fix ?_) (.inl rfl)) (Ex.nil (.cons rfl (.cons rfl .nil)))
        generalize ws.getD p.toNat [] = w at hget hgl
        rw [show wds (ws.take p.toNat ++ [w ++ [48], w ++ [49]] ++ ws.drop (p.toNat + 1)) = lst (pick (ws.map fun w => str (sOf w)) none (some p) none ++ [str (sOf w ++ sOf [48]), str (sOf w ++ sOf [49])] ++ pick (ws.map fun w => str (sOf w)) (some (p + 1)) none none) by
          rw [pick_map, pick_map, pick_to _ hp0 (by omega), pick_from _ (by omega), show (p + 1).toNat = p.toNat + 1 by omega, sOf_append, sOf_append]
          simp only [wds, List.map_append, List.map_cons, List.map_nil]]
        have l1 : (pick (ws.map fun w => str (sOf w)) none (some p) none).length ≤ 5 := by rw [pick_map, pick_to _ hp0 (by omega), List.length_map, List.length_take]; omega
        have l2 : (pick (ws.map fun w => str (sOf w)) (some (p + 1)) none none).length ≤ 5 := by rw [pick_map, pick_from _ (by omega), List.length_map, List.length_drop]; omega
        have lz : ∀ c, (sOf w).length + (sOf [c]).length ≤ sizeLine := fun c => by rw [sOf_length, sOf_length, sizeLine_eq, List.length_singleton]; omega
        refine Ev.bin (Ev.bin (Ev.sub (Ev.name rfl) (Ev.slice EvP.none (EvP.some (Ev.name rfl)) EvP.none) (Sb.slice (by decide) (by rw [List.length_map, sizeLine_eq]; omega)))
          (Ev.list (ps := [str (sOf w ++ sOf [48]), str (sOf w ++ sOf [49])]) (hl := by rw [sizeLine_eq]; simp) (Evs.cons (Evs.cons Evs.nil (Ev.bin (Ev.sub (Ev.name rfl) (Ev.name rfl) (Sb.get hp0 (by omega) hget)) (Ev.cstrW rfl) (Bin.addS (lz 49)))) (Ev.bin (Ev.sub (Ev.name rfl) (Ev.name rfl) (Sb.get hp0 (by omega) hget)) (Ev.cstrW rfl) (Bin.addS (lz 48))))) (Bin.addL (by rw [sizeLine_eq]; simp only [List.length_cons, List.length_nil]; omega)))
          (Ev.sub (Ev.name rfl) (Ev.slice (EvP.some (Ev.bin (Ev.name rfl) Ev.cint Bin.add)) EvP.none EvP.none) (Sb.slice (by decide) (by rw [List.length_map, sizeLine_eq]; omega))) (Bin.addL (by rw [sizeLine_eq]; simp only [List.length_append, List.length_cons, List.length_nil]; omega))
end Mine
end
/-! # part F4 -/
section
open PySem PySem.W PySem.Calls PyProof.Rows PySem.SeqAt
set_option Elab.async false
set_option maxRecDepth 100000
set_option linter.unusedVariables false
namespace Mine
section
variable {α : Type} [Inhabited α] (lt : α → α → Bool) (y : α) (xs : List α)
noncomputable def bisG : Nat → Nat → Nat → Nat
  | 0, lo, _ => lo
  | n + 1, lo, hi => if lo < hi then (if lt y (xs.getD ((lo + hi) / 2) default) then bisG n lo ((lo + hi) / 2) else bisG n ((lo + hi) / 2 + 1) hi) else lo
theorem bisG_stay (n : Nat) {lo hi : Nat} (h : ¬ lo < hi) : bisG lt y xs n lo hi = lo := by
  cases n with
  | zero => rfl
  | succ n => rw [bisG, if_neg h]
theorem bisG_more : ∀ (n : Nat) {lo hi : Nat}, hi - lo ≤ n → bisG lt y xs n lo hi = bisG lt y xs (n + 1) lo hi
  | 0, lo, hi, h => by rw [bisG, bisG, if_neg (by omega)]
  | n + 1, lo, hi, h => by
    rw [bisG]
    conv => rhs; rw [bisG]
    by_cases hl : lo < hi
    · rw [if_pos hl, if_pos hl, bisG_more n (lo := lo) (hi := (lo + hi) / 2) (by omega), bisG_more n (lo := (lo + hi) / 2 + 1) (hi := hi) (by omega)]
    · rw [if_neg hl, if_neg hl]
theorem bisG_any (n m : Nat) {lo hi : Nat} (h : hi - lo ≤ n) (hm : n ≤ m) : bisG lt y xs n lo hi = bisG lt y xs m lo hi := by
  induction m with
  | zero => rw [show n = 0 by omega]
  | succ m ih =>
    rcases Nat.lt_or_ge n (m + 1) with q | q
    · rw [ih (by omega), bisG_more _ _ _ m (by omega)]
    · rw [show n = m + 1 by omega]
noncomputable def bisF : Nat := bisG lt y xs xs.length 0 xs.length
end
theorem bis_ok {C : Cx} {A : Around} {a : Addr} {α : Type} [Inhabited α] (T : Tops C) (hf : BisAt C a) (hA : Rm 1 A) (f : α → Pd) (lt : α → α → Bool) (hlt : ∀ (B : Around) y x, Cmp C B .Lt (f y) (f x) (lt y x))
    (xs : List α) (y : α) (hn : xs.length ≤ 1000) : Cl C A (.ref a) [lst (xs.map f), f y] (int (bisF lt y xs)) := by
  refine Cl.bis hA hf fun pm code doc T' K L => ?_
  have hA' := Rm.deeper (env := callEnvC (fdBis pm code doc T' K) L a) hA
  generalize hB : A.deeper (callEnvC (fdBis pm code doc T' K) L a) = B at hA'
  have hh := hA'.1
  conv => arg 4; whnf
  refine' Ex.stepS (K := [(Str.ofString "a", .fix (lst (xs.map f))), (Str.ofString "x", .fix (f y)), (Str.ofString "lo", .fix (int 0)), (Str.ofString "hi", .fix non), (Str.ofString "key", .fix non)])
    (Ex1.ite (b := false) (STr.fix (Tr.cmp (b := decide ((0 : Int) < 0)) (Ev.name rfl) Ev.cint Cmp.lt)) (fun h => by cases h) (fun h => Ex.nil ⟨rfl, .cons rfl (.cons rfl (.cons rfl (.cons rfl (.cons rfl .nil))))⟩)) ?_
  refine' Ex.stepS (K := [(Str.ofString "a", .fix (lst (xs.map f))), (Str.ofString "x", .fix (f y)), (Str.ofString "lo", .fix (int 0)), (Str.ofString "hi", .fix (int xs.length)), (Str.ofString "key", .fix non)])
    (Ex1.ite (b := true) (STr.fix (Tr.cmp (Ev.name rfl) Ev.cnone Cmp.isNone)) (fun h => Ex.step (Ex1.assign (P := int xs.length) (SEv.fix ?_) (.inl rfl)) (Ex.nil ⟨rfl, .cons rfl (.cons rfl (.cons rfl (.cons rfl (.cons rfl .nil))))⟩)) (fun h => by cases h)) ?_
  · have := Cl.lenL (C := C) (A := B) (ps := xs.map f) (by rw [List.length_map]; omega)
    rw [List.length_map] at this
    exact Ev.len T rfl (Evs.cons Evs.nil (Ev.name rfl)) this
  refine' Ex.stepS (K := [(Str.ofString "lo", .fix (int (bisF lt y xs)))])
    (Ex1.ite (b := true) (STr.fix (Tr.cmp (Ev.name rfl) Ev.cnone Cmp.isNone)) (fun h => ?_) (fun h => by cases h)) (Ex.ret (SEv.fix (Ev.name rfl)) rfl)
  refine' Ex.cons (Ex1.whlS (σ := Nat × Nat) (fun q => [(Str.ofString "a", .fix (lst (xs.map f))), (Str.ofString "x", .fix (f y)), (Str.ofString "lo", .fix (int q.1)), (Str.ofString "hi", .fix (int q.2))]) (fun q => q.2 - q.1) (fun q => q.2 ≤ xs.length) (fun q => decide ((q.1 : Int) < q.2))
    (fun q => if lt y (xs.getD ((q.1 + q.2) / 2) default) then (q.1, (q.1 + q.2) / 2) else ((q.1 + q.2) / 2 + 1, q.2)) (fun q hq => STr.fix (Tr.cmp (Ev.name rfl) (Ev.name rfl) Cmp.lt)) (fun q hq hb => ?_)
    (0, xs.length) (Nat.le_refl _) (.cons rfl (.cons rfl (.cons rfl (.cons rfl .nil)))) (fun q => bisG lt y xs xs.length q.1 q.2 = bisF lt y xs) rfl (fun q hq hr hb => ?_))
    (fun st' ⟨_, q, hq, hr, hb, hs⟩ => Ex.nil ⟨rfl, ?_⟩) (fun r st' h hr => absurd h.1 hr)
  · have hb' := of_decide_eq_true hb
    have hm : ((q.1 : Int) + q.2).fdiv 2 = (((q.1 + q.2) / 2 : Nat) : Int) := by
      rw [Int.fdiv_eq_ediv_of_nonneg _ (by decide)]; omega
    have hml : (q.1 + q.2) / 2 < xs.length := by omega
    have hget : (xs.map f)[(((q.1 + q.2) / 2 : Nat) : Int).toNat]? = some (f (xs.getD ((q.1 + q.2) / 2) default)) := by
      rw [Int.toNat_natCast, List.getElem?_map, List.getD_eq_getElem?_getD, List.getElem?_eq_getElem hml]; rfl
    refine ⟨?_, ?_, ?_⟩
    · split
      · show (q.1 + q.2) / 2 ≤ _; omega
      · exact hq
    · split
      · show (q.1 + q.2) / 2 - q.1 < _; omega
      · show q.2 - ((q.1 + q.2) / 2 + 1) < _; omega
    · refine Ex.step (Ex1.assign (P := int (((q.1 + q.2) / 2 : Nat) : Int)) (SEv.fix ?_) (.inl rfl)) ?_
      · rw [← hm]
        exact Ev.bin (Ev.bin (Ev.name rfl) (Ev.name rfl) Bin.add) Ev.cint (Bin.fdiv (by decide) (PyProof.noPylong_small (by decide)))
      · refine' Ex.cons (Ex1.ite (b := lt y (xs.getD ((q.1 + q.2) / 2) default)) (R := TurnS [(Str.ofString "a", .fix (lst (xs.map f))), (Str.ofString "x", .fix (f y)), (Str.ofString "lo", .fix (int (if lt y (xs.getD ((q.1 + q.2) / 2) default) then (q.1, (q.1 + q.2) / 2) else ((q.1 + q.2) / 2 + 1, q.2)).1)), (Str.ofString "hi", .fix (int (if lt y (xs.getD ((q.1 + q.2) / 2) default) then (q.1, (q.1 + q.2) / 2) else ((q.1 + q.2) / 2 + 1, q.2)).2))])
          (STr.fix (Tr.cmp (Ev.name rfl) (Ev.sub (Ev.name rfl) (Ev.name rfl) (Sb.get (by omega) (by omega) hget)) (hlt _ _ _))) (fun h => ?_) (fun h => ?_)) (fun st' h => Ex.nil h) fun r st' h _ => h
        · rw [if_pos h]
          exact Ex.step (Ex1.assign (SEv.fix (Ev.name rfl)) (.inl rfl)) (Ex.nil (.cons rfl (.cons rfl (.cons rfl (.cons rfl .nil)))))
        · rw [if_neg (by rw [h]; decide)]
          exact Ex.step (Ex1.assign (SEv.fix (Ev.bin (Ev.name rfl) Ev.cint Bin.add)) (.inl rfl)) (Ex.nil (.cons rfl (.cons rfl (.cons rfl (.cons rfl .nil)))))
  · have hb' := of_decide_eq_true hb
    rw [bisG_more _ _ _ _ (by omega), bisG, if_pos (by omega)] at hr
    show bisG lt y xs xs.length (if _ then _ else _ : Nat × Nat).1 (if _ then _ else _ : Nat × Nat).2 = _
    rw [← hr]
    cases lt y (xs.getD ((q.1 + q.2) / 2) default) <;> rfl
  · have hb' := of_decide_eq_false hb
    rw [bisG_stay _ _ _ _ (by omega)] at hr
    rw [hr] at hs
    exact fun p hp => hs p (by simp only [List.mem_singleton] at hp; subst hp; simp)
end Mine
end
/-! # part F5 -/
section
open PySem PySem.W PySem.Calls PyProof.Rows PySem.SeqAt
set_option Elab.async false
set_option maxRecDepth 100000
set_option linter.unusedVariables false
namespace Mine
noncomputable def ltI (a b : Int) : Bool := decide (a < b)
noncomputable def ltW (a b : List Nat) : Bool := decide (a < b)
noncomputable def letter (tables : List (List Int)) (left rest : Int) : Int := (bisF ltI rest (tables.getD left.toNat []) : Int) - 1
noncomputable def msgOk (tables : List (List Int)) (ws : List (List Nat)) (left rest : Int) : Bool :=
  decide (0 ≤ letter tables left rest) && decide (letter tables left rest < ws.length) && decide (letter tables left rest < (tables.getD left.toNat []).length) && decide (left < tables.length) && decide ((tables.getD left.toNat []).length ≤ 1000)
noncomputable def msgG (tables : List (List Int)) (ws : List (List Nat)) : Nat → Int → Int → List Int → Option (List Int)
  | 0, left, _, acc => if 0 < left then none else some acc
  | n + 1, left, rest, acc => if 0 < left then (if msgOk tables ws left rest then msgG tables ws n (left - (ws.getD (letter tables left rest).toNat []).length) (rest - (tables.getD left.toNat []).getD (letter tables left rest).toNat 0) (acc ++ [letter tables left rest]) else none) else some acc
noncomputable def msgF (tables : List (List Int)) (ws : List (List Nat)) (number : Int) : Option (List Int) := msgG tables ws 20 ((tables.length : Int) - 1) number []
noncomputable def readG (ws : List (List Nat)) : Nat → List Nat → List Int → Option (List Int)
  | 0, rest, acc => if rest.isEmpty then some acc else none
  | n + 1, rest, acc => if rest.isEmpty then some acc else (if 0 < bisF ltW rest ws ∧ bisF ltW rest ws ≤ ws.length ∧ (ws.getD (bisF ltW rest ws - 1) []).length ≤ rest.length ∧ rest.length ≤ 1000 then readG ws n (rest.drop (ws.getD (bisF ltW rest ws - 1) []).length) (acc ++ [(bisF ltW rest ws : Int) - 1]) else none)
noncomputable def readF (ws : List (List Nat)) (line : List Nat) : Option (List Int) := readG ws 20 line []
theorem message_ok {C : Cx} {A : Around} {a ab : Addr} (T : Tops C) (hf : FnAt C 16 a) (hbs : BisAt C ab) (hA : Rm 2 A) (tables : List (List Int)) (ws : List (List Nat)) (number : Int) (m : List Int)
    (hm : msgF tables ws number = some m) (ht : tables.length ≤ 1000) (hl : ∀ w ∈ ws, w.length ≤ 1000) : Cl C A (.ref a) [int number, lst (intss tables), wds ws] (nums m) := by
  refine Cl.fn (names := [Str.ofString "number", Str.ofString "tables", Str.ofString "words"]) hA hf rfl (by decide) (fun pm code doc vs hv => ?_) (fun m => rfl) rfl rfl rfl fun pm code doc L => ?_
  · match vs, hv with
    | [u, v, w], _ => rfl
  · have hA' := Rm.deeper (env := callEnvC (fdAt 16 pm code doc) L a) hA
    generalize hB : A.deeper (callEnvC (fdAt 16 pm code doc) L a) = B at hA'
    have hh := hA'.1
    conv => arg 4; whnf
    refine Ex.step (Ex1.assignOwn (Nw.display Evs.nil) (.inl rfl)) ?_
    have hlen := Cl.lenL (C := C) (A := B) (ps := intss tables) (by simp only [intss, List.length_map]; omega)
    rw [show (intss tables).length = tables.length by simp [intss]] at hlen
    refine Ex.step (Ex1.assign (P := int ((tables.length : Int) - 1)) (SEv.fix (Ev.bin (Ev.len T rfl (Evs.cons Evs.nil (Ev.name rfl)) hlen) Ev.cint Bin.sub)) (.inl rfl)) ?_
    refine Ex.step (Ex1.assign (P := int number) (SEv.fix (Ev.name rfl)) (.inl rfl)) ?_
    refine' Ex.cons (Ex1.whlS (σ := Nat × Int × Int × List Int) (fun q => [(Str.ofString "tables", .fix (lst (intss tables))), (Str.ofString "words", .fix (wds ws)), (Str.ofString "message", .own true (q.2.2.2.map int)), (Str.ofString "left", .fix (int q.2.1)), (Str.ofString "rest", .fix (int q.2.2.1))]) (fun q => q.1)
      (fun q => msgG tables ws q.1 q.2.1 q.2.2.1 q.2.2.2 = some m ∧ q.2.2.2.length + q.1 ≤ 1000) (fun q => decide ((0 : Int) < q.2.1))
      (fun q => (q.1 - 1, q.2.1 - (ws.getD (letter tables q.2.1 q.2.2.1).toNat []).length, q.2.2.1 - (tables.getD q.2.1.toNat []).getD (letter tables q.2.1 q.2.2.1).toNat 0, q.2.2.2 ++ [letter tables q.2.1 q.2.2.1]))
      (fun q hq => STr.fix (Tr.cmp (Ev.name rfl) Ev.cint Cmp.gt)) (fun q hq hb => ?_) (20, (tables.length : Int) - 1, number, []) ⟨hm, by show 0 + 20 ≤ 1000; decide⟩ (.cons rfl (.cons rfl (.cons rfl (.cons rfl (.cons rfl .nil))))) (fun _ => True) trivial (fun _ _ _ _ => trivial))
      (fun st' ⟨_, q, hq, _, hb, hs⟩ => ?_) (fun r st' h hr => absurd h.1 hr)
    · obtain ⟨n, left, rest, acc⟩ := q
      dsimp only at hq hb ⊢
      obtain ⟨hq, hqa⟩ := hq
      have hb' := of_decide_eq_true hb
      cases n with
      | zero => rw [msgG, if_pos hb'] at hq; cases hq
      | succ n =>
        rw [msgG, if_pos hb'] at hq
        by_cases hk : msgOk tables ws left rest = true
        · rw [if_pos hk] at hq
          refine ⟨⟨hq, by rw [List.length_append, List.length_singleton]; omega⟩, Nat.lt_succ_self _, ?_⟩
          unfold msgOk at hk
          simp only [Bool.and_eq_true, decide_eq_true_eq] at hk
          obtain ⟨⟨⟨⟨k0, k1⟩, k2⟩, k3⟩, k4⟩ := hk
          have e : letter tables left rest = (bisF ltI rest (tables.getD left.toNat []) : Int) - 1 := rfl
          have gt : (intss tables)[left.toNat]? = some (lst ((tables.getD left.toNat []).map int)) := by
            unfold intss
            rw [List.getElem?_map, List.getD_eq_getElem?_getD, List.getElem?_eq_getElem (by omega)]; rfl
          refine Ex.step (Ex1.assign (P := int (letter tables left rest)) (SEv.fix ?_) (.inl rfl)) ?_
          · rw [e]
            exact Ev.bin (Ev.fnB hbs rfl rfl (Evs.cons (Evs.cons Evs.nil (Ev.name rfl)) (Ev.sub (Ev.name rfl) (Ev.name rfl) (Sb.get (by omega) (by omega) gt))) (bis_ok T hbs (hA'.le (by decide)) int ltI (fun B y x => Cmp.lt) _ rest k4)) Ev.cint Bin.sub
          generalize letter tables left rest = k at k0 k1 k2
          clear e hq
          generalize htr : tables.getD left.toNat [] = row at gt k2 k4
          have gr : (row.map int)[k.toNat]? = some (int (row.getD k.toNat 0)) := by
            rw [List.getElem?_map, List.getD_eq_getElem?_getD, List.getElem?_eq_getElem (by omega)]; rfl
          have gw : (ws.map fun w => str (sOf w))[k.toNat]? = some (str (sOf (ws.getD k.toNat []))) := by
            rw [List.getElem?_map, List.getD_eq_getElem?_getD, List.getElem?_eq_getElem (by omega)]; rfl
          have gl : (ws.getD k.toNat []).length ≤ 1000 := by
            rw [List.getD_eq_getElem?_getD, List.getElem?_eq_getElem (by omega)]; exact hl _ (List.getElem_mem _)
          refine Ex.step (Ex1.append (ps := acc.map int) (P := int k) rfl (SEv.fix (Ev.name rfl)) (by rw [List.length_map, sizeLine_eq]; omega)) ?_
          refine Ex.step (Ex1.assign (P := int (rest - row.getD k.toNat 0)) (SEv.fix (Ev.bin (Ev.name rfl) (Ev.sub (Ev.sub (Ev.name rfl) (Ev.name rfl) (Sb.get (by omega) (by omega) gt)) (Ev.name rfl) (Sb.get k0 (by omega) gr)) Bin.sub)) (.inl rfl)) ?_
          refine Ex.step (Ex1.assign (P := int (left - (ws.getD k.toNat []).length)) (SEv.fix (Ev.bin (Ev.name rfl) (Ev.len T rfl (Evs.cons Evs.nil (Ev.sub (Ev.name rfl) (Ev.name rfl) (Sb.get k0 (by omega) gw))) (Cl.lenW (by omega))) Bin.sub)) (.inl rfl)) ?_
          refine Ex.nil (.cons rfl (.cons rfl (.cons ?_ (.cons rfl (.cons rfl .nil)))))
          rw [List.map_append]; rfl
        · rw [if_neg hk] at hq; cases hq
    · obtain ⟨n, left, rest, acc⟩ := q
      dsimp only at hq hb hs
      have hb' := of_decide_eq_false hb
      have e : some acc = some m := by
        rw [← hq.1]
        cases n with
        | zero => rw [msgG, if_neg hb']
        | succ n => rw [msgG, if_neg hb']
      cases e
      refine Ex.sub hs (Ex.freeze (x := Str.ofString "message") rfl (Ex.ret (SEv.fix (Ev.name rfl)) rfl))
theorem read_ok {C : Cx} {A : Around} {a ab : Addr} (T : Tops C) (hf : FnAt C 17 a) (hbs : BisAt C ab) (hA : Rm 2 A) (ws : List (List Nat)) (line : List Nat) (m : List Int)
    (hm : readF ws line = some m) (hw : ws.length ≤ 1000) : Cl C A (.ref a) [str (sOf line), wds ws] (nums m) := by
  refine Cl.fn (names := [Str.ofString "line", Str.ofString "words"]) hA hf rfl (by decide) (fun pm code doc vs hv => ?_) (fun m => rfl) rfl rfl rfl fun pm code doc L => ?_
  · match vs, hv with
    | [u, v], _ => rfl
  · have hA' := Rm.deeper (env := callEnvC (fdAt 17 pm code doc) L a) hA
    generalize hB : A.deeper (callEnvC (fdAt 17 pm code doc) L a) = B at hA'
    have hh := hA'.1
    conv => arg 4; whnf
    refine Ex.step (Ex1.assignOwn (Nw.display Evs.nil) (.inl rfl)) ?_
    refine Ex.step (Ex1.assign (P := str (sOf line)) (SEv.fix (Ev.name rfl)) (.inl rfl)) ?_
    refine' Ex.cons (Ex1.whlS (σ := Nat × List Nat × List Int) (fun q => [(Str.ofString "words", .fix (wds ws)), (Str.ofString "message", .own true (q.2.2.map int)), (Str.ofString "rest", .fix (str (sOf q.2.1)))]) (fun q => q.1)
      (fun q => readG ws q.1 q.2.1 q.2.2 = some m ∧ q.2.2.length + q.1 ≤ 1000) (fun q => !q.2.1.isEmpty)
      (fun q => (q.1 - 1, q.2.1.drop (ws.getD (bisF ltW q.2.1 ws - 1) []).length, q.2.2 ++ [(bisF ltW q.2.1 ws : Int) - 1]))
      (fun q hq => STr.fix ?_) (fun q hq hb => ?_) (20, line, []) ⟨hm, by show 0 + 20 ≤ 1000; decide⟩ (.cons rfl (.cons rfl (.cons rfl .nil))) (fun _ => True) trivial (fun _ _ _ _ => trivial))
      (fun st' ⟨_, q, hq, _, hb, hs⟩ => ?_) (fun r st' h hr => absurd h.1 hr)
    · have e : (!q.2.1.isEmpty) = (sOf q.2.1 != sOf []) := by
        rw [bne, sOf_beq]; cases q.2.1 <;> rfl
      rw [e]
      exact Tr.cmp (Ev.name rfl) (Ev.cstrW rfl) Cmp.neS
    · obtain ⟨n, rest, acc⟩ := q
      dsimp only at hq hb ⊢
      obtain ⟨hq, hqa⟩ := hq
      have hb' : ¬ (rest.isEmpty = true) := by simpa using hb
      cases n with
      | zero => rw [readG, if_neg hb'] at hq; cases hq
      | succ n =>
        rw [readG, if_neg hb'] at hq
        split at hq
        · rename_i hk
          refine ⟨⟨hq, by rw [List.length_append, List.length_singleton]; omega⟩, Nat.lt_succ_self _, ?_⟩
          clear hq
          obtain ⟨k0, k1, k2, k3⟩ := hk
          refine Ex.step (Ex1.assign (P := int ((bisF ltW rest ws : Int) - 1)) (SEv.fix (Ev.bin (Ev.fnB hbs rfl rfl (Evs.cons (Evs.cons Evs.nil (Ev.name rfl)) (Ev.name rfl)) (bis_ok T hbs (hA'.le (by decide)) (fun w => str (sOf w)) ltW (fun B y x => ?_) _ rest hw)) Ev.cint Bin.sub)) (.inl rfl)) ?_
          · exact Cmp.ltS
          generalize bisF ltW rest ws = k at k0 k1 k2
          have gw : (ws.map fun w => str (sOf w))[((k : Int) - 1).toNat]? = some (str (sOf (ws.getD (k - 1) []))) := by
            rw [List.getElem?_map, List.getD_eq_getElem?_getD, show ((k : Int) - 1).toNat = k - 1 by omega, List.getElem?_eq_getElem (by omega)]; rfl
          refine Ex.step (Ex1.append (ps := acc.map int) (P := int ((k : Int) - 1)) rfl (SEv.fix (Ev.name rfl)) (by rw [List.length_map, sizeLine_eq]; omega)) ?_
          generalize ws.getD (k - 1) [] = w at gw k2
          refine Ex.step (Ex1.assign (P := str (sOf (rest.drop w.length))) (SEv.fix ?_) (.inl rfl)) (Ex.nil (.cons rfl (.cons ?_ (.cons rfl .nil))))
          · rw [← strSlice_from k2]
            exact Ev.sub (Ev.name rfl) (Ev.slice (EvP.some (Ev.len T rfl (Evs.cons Evs.nil (Ev.sub (Ev.name rfl) (Ev.name rfl) (Sb.get (by omega) (by omega) gw))) (Cl.lenW (by omega)))) EvP.none EvP.none) (Sb.strSlice rfl (by rw [strSlice_from k2, sOf_length, List.length_drop, sizeLine_eq]; omega))
          · rw [List.map_append]; rfl
        · cases hq
    · obtain ⟨n, rest, acc⟩ := q
      dsimp only at hq hb hs
      have hb' : rest.isEmpty = true := by simpa using hb
      have e : some acc = some m := by
        rw [← hq.1]
        cases n with
        | zero => rw [readG, if_pos hb']
        | succ n => rw [readG, if_pos hb']
      cases e
      refine Ex.sub hs (Ex.freeze (x := Str.ofString "message") rfl (Ex.ret (SEv.fix (Ev.name rfl)) rfl))
end Mine
end
/-! # part F6 -/
section
open PySem PySem.W PySem.Calls PyProof.Rows PySem.SeqAt
set_option Elab.async false
set_option maxRecDepth 100000
set_option linter.unusedVariables false
namespace Mine
noncomputable def swapC (c : Nat) (w : List Nat) (t : List Nat) : List Nat := t.flatMap fun x => if x = c then w else [x]
theorem swap_free {c : Nat} {w l : List Nat} (h : c ∉ l) : swapC c w l = l := by
  induction l with
  | nil => rfl
  | cons x l ih =>
    have h1 : x ≠ c := fun e => h (e ▸ .head _)
    unfold swapC at ih ⊢
    rw [List.flatMap_cons, if_neg h1, ih fun q => h (.tail _ q)]
    rfl
theorem swap_append (c : Nat) (w l m : List Nat) : swapC c w (l ++ m) = swapC c w l ++ swapC c w m := List.flatMap_append
theorem str_app (a b : Str) : (a ++ b).cps.toList = a.cps.toList ++ b.cps.toList := by
  show (Str.append a b).cps.toList = _
  simp [Str.append]
theorem join_swap_aux (c : Nat) (w : List Nat) : ∀ ps : List Str, (∀ p ∈ ps, c ∉ p.cps.toList) → (Str.join (sOf w) ps).cps.toList = swapC c w (Str.join (sOf [c]) ps).cps.toList
  | [], _ => rfl
  | [p], h => (swap_free (h p (.head _))).symm
  | p :: q :: r, h => by
    have ih := join_swap_aux c w (q :: r) fun x hx => h x (.tail _ hx)
    have e : ∀ z : Str, Str.join z (p :: q :: r) = p ++ z ++ Str.join z (q :: r) := fun z => rfl
    rw [e, e, str_app, str_app, str_app, str_app, swap_append, swap_append, ← ih, swap_free (h p (.head _))]
    congr 2
    show w = swapC c w [c]
    simp [swapC]
theorem join_swap (c : Nat) (w t : List Nat) : Txt.join (sOf w) (Txt.split (sOf t) (sOf [c])) = sOf (swapC c w t) := by
  show Builtin.Str.glued _ _ = _
  rw [StrLaws.glued_eq_join]
  have h1 := join_swap_aux c w (Txt.split (sOf t) (sOf [c])) (StrLaws.split_free (sOf t) c)
  rw [StrLaws.join_split] at h1
  generalize Str.join (sOf w) (Txt.split (sOf t) (sOf [c])) = z at h1
  obtain ⟨z⟩ := z
  show Str.mk z = Str.mk _
  congr 1
  apply Array.toList_inj.mp
  rw [h1]
  simp [sOf]
section
variable {C : Cx} {A : Around} {env : Env} {st : List (Str × Pd)}
theorem All2.strs {fz : Fz} : ∀ {l : List (Str × Tok)} {xs : List Str}, l.map (·.1) = xs → All2 fz (xs.map str) (strValues l)
  | [], _, rfl => trivial
  | (x, t) :: l, _, rfl => ⟨⟨t, rfl⟩, All2.strs rfl⟩
theorem split_call {fz : Fz} {s : Shared} {x y : Str} {t u : Tok} (W : Wf C fz s) (hy : (y.length == 0) = false) (hsz : x.length + 2 ≤ sizeLine) :
    wpAny (M C) A (call (.builtin "str.split") [.str x t, .str y u]) (Rs C fz s (lst ((Txt.split x y).map str))) NoE s := by
  have hsz2 : (Builtin.Str.partsBetween x (Builtin.Str.occurrences x y 0 x.length (x.length + 1)) y.length).length ≤ sizeLine := by
    rw [len_partsBetween]
    have := StrLaws.occ_length_le x y 0 x.length (x.length + 1)
    omega
  cases h1 : (decide (x.length < y.length) || decide (Builtin.Str.strKind x < Builtin.Str.strKind y))
  · cases hf : (Builtin.Str.occurrences x y 0 x.length (x.length + 1)).isEmpty
    · refine call_meets PySem.F.slot_str_split (typeIs_str _ _ _) PySem.F.entry_str_split (PySem.F.args_str_split_2 _ _) (meets_str_split_sep x y t u h1 hy hf (by omega) hsz2) ?_
      show Rs C fz s _ _ { s with toks := _, heap := s.heap.push { cls := .type "list", data := .seq (strsFrom s.toks (Builtin.Str.partsBetween x (Builtin.Str.occurrences x y 0 x.length (x.length + 1)) y.length)).toArray } }
      rw [strsFrom_eq]
      obtain ⟨f, G, hp⟩ := Grow.seq (cls := "list") (n := 0) W (All2.strs (fz := fz) (numbered_texts s.toks (Builtin.Str.partsBetween x (Builtin.Str.occurrences x y 0 x.length (x.length + 1)) y.length)))
      have e : Txt.split x y = Builtin.Str.partsBetween x (Builtin.Str.occurrences x y 0 x.length (x.length + 1)) y.length := (if_neg (ne_true_of_eq_false h1)).trans (if_neg (ne_true_of_eq_false hf))
      rw [e]
      exact ⟨f, G.trans W (.toks G.wf _), hp⟩
    · have e : Txt.split x y = [x] := (if_neg (ne_true_of_eq_false h1)).trans (if_pos hf)
      rw [e]
      exact call_meets PySem.F.slot_str_split (typeIs_str _ _ _) PySem.F.entry_str_split (PySem.F.args_str_split_2 _ _) (meets_str_split_not_found x y t u h1 hy hf) (Grow.seq (cls := "list") (n := 0) (vs := [.str x t]) W ⟨⟨t, rfl⟩, trivial⟩)
  · have e : Txt.split x y = [x] := if_pos h1
    rw [e]
    exact call_meets PySem.F.slot_str_split (typeIs_str _ _ _) PySem.F.entry_str_split (PySem.F.args_str_split_2 _ _) (meets_str_split_cannot_occur x y t u h1) (Grow.seq (cls := "list") (n := 0) (vs := [.str x t]) W ⟨⟨t, rfl⟩, trivial⟩)
theorem Ev.split {o e : Expr} {apos pos} {x y : Str} (ho : Ev C A env st o (str x)) (h : Ev C A env st e (str y)) (hy : (y.length == 0) = false) (hz : x.length + 2 ≤ sizeLine)
    (hb : attributeBase o (Str.ofString "split") env (eval o env) = eval o env := by rfl) (hs : starEach [e] env = [(false, eval e env)] := by rfl) (hline : (apos.endLine == pos.line) = true := by rfl) :
    Ev C A env st (.Call (.Attribute o (Str.ofString "split") apos) [e] [] pos) (lst ((Txt.split x y).map str)) := fun fz s W F =>
  Call_method1 hb hs hline (wpAny_mono (ho fz s W F) (fun v s₁ ⟨f₁, G, t, e⟩ => by
    subst e
    refine ⟨"str", "str.split", PySem.F.plainAttrs_str, PySem.F.slot_str_split, PySem.F.type_str_split, typeIs_str _ _ _, (fun a q => by cases q), ?_⟩
    refine callWith_builtin rfl (evalArgs_plain (spliced_cons (wpAny_mono (h f₁ s₁ G.wf (F.grow W G)) (fun v s₂ ⟨f₂, G₂, hp⟩ => spliced_nil ?_) fun _ _ e => e)))
    obtain ⟨u, rfl⟩ := hp
    exact wpAny_mono (split_call G₂.wf hy hz) (fun v s₃ h => Rs.after W (G.trans W G₂) v s₃ h) fun _ _ e => e) fun _ _ e => e)
end
/-- the pairs, one behind the other -/
noncomputable def pairP (qs : List (Nat × List Nat)) : List Pd := qs.flatMap fun q => [str (sOf [q.1]), str (sOf q.2)]
theorem pairP_len : ∀ qs : List (Nat × List Nat), (pairP qs).length = 2 * qs.length
  | [] => rfl
  | q :: qs => by
    have := pairP_len qs
    unfold pairP at this ⊢
    rw [List.flatMap_cons, List.length_append, this, List.length_cons, List.length_cons, List.length_cons, List.length_nil]
    omega
noncomputable def replG : List (Nat × List Nat) → List Nat → Option (List Nat)
  | [], t => some t
  | q :: qs, t => if t.length ≤ 1000 ∧ q.2.length ≤ 1000 then replG qs (swapC q.1 q.2 t) else none
theorem repl_bd {C : Cx} {pm code doc : Value} {P : Pd} {ps : List Pd} (hz : ps.length ≤ sizeLine) : Bd C (fdAt 10 pm code doc) (P :: ps) [Str.ofString "text", Str.ofString "pairs"] [P, tup ps] := by
  intro A' fz s vs W h2
  match vs, h2 with
  | [u], ⟨h1, h2⟩ =>
    obtain rfl : ps = [] := List.length_eq_zero_iff.mp h2.length
    show wpAny (M C) A' (newTuple [] >>= fun v => pure [(Str.ofString "text", u), (Str.ofString "pairs", v)]) _ _ s
    refine wpAny_bind (wpAny_newTuple (wpAny_pure ?_) (by decide))
    obtain ⟨f, G, hp⟩ := Grow.seq (cls := "tuple") (n := 0) W h2
    exact ⟨f, [u, _], G, rfl, P.mono (G.le W) h1, hp, trivial⟩
  | u :: v :: r, ⟨h1, h2⟩ =>
    show wpAny (M C) A' (newTuple (v :: r) >>= fun w => pure [(Str.ofString "text", u), (Str.ofString "pairs", w)]) _ _ s
    refine wpAny_bind (wpAny_newTuple (wpAny_pure ?_) (by rw [← h2.length]; exact hz))
    obtain ⟨f, G, hp⟩ := Grow.seq (cls := "tuple") (n := 0) W h2
    exact ⟨f, [u, _], G, rfl, P.mono (G.le W) h1, hp, trivial⟩
theorem repl_ok {C : Cx} {A : Around} {a : Addr} (T : Tops C) (hf : FnAt C 10 a) (hA : Rm 1 A) (qs : List (Nat × List Nat)) (t r : List Nat) (hr : replG qs t = some r) (hq : qs.length ≤ 1000) :
    Cl C A (.ref a) (str (sOf t) :: pairP qs) (str (sOf r)) := by
  obtain ⟨o, pm, code, doc, ho, hd, hcd⟩ := hf.obj
  refine Cl.defG (names := [Str.ofString "text", Str.ofString "pairs"]) (qs := [str (sOf t), tup (pairP qs)]) hA ho hd hcd rfl rfl rfl rfl rfl (by decide) (repl_bd (by rw [pairP_len, sizeLine_eq]; omega)) (fun m => kinds_of (n := 10) (fun m => rfl) m) rfl rfl rfl fun L => ?_
  have hA' := Rm.deeper (env := callEnvC (fdAt 10 pm code doc) L a) hA
  generalize hB : A.deeper (callEnvC (fdAt 10 pm code doc) L a) = B at hA'
  have hh := hA'.1
  show Ex C B _ (bodyOf 10) _ _
  conv => arg 4; whnf
  refine' Ex.cons (Ex1.whlS (σ := List (Nat × List Nat) × List Nat) (fun q => [(Str.ofString "text", .fix (str (sOf q.2))), (Str.ofString "pairs", .fix (tup (pairP q.1)))]) (fun q => q.1.length)
      (fun q => replG q.1 q.2 = some r ∧ q.1.length ≤ 1000) (fun q => !q.1.isEmpty) (fun q => match q with | ([], t) => ([], t) | (p :: qs, t) => (qs, swapC p.1 p.2 t))
      (fun q hq => STr.fix ?_) (fun q hq hb => ?_) (qs, t) ⟨hr, hq⟩ (.cons rfl (.cons rfl .nil)) (fun _ => True) trivial (fun _ _ _ _ => trivial))
      (fun st' ⟨_, q, hq, _, hb, hs⟩ => ?_) (fun r st' h hr => absurd h.1 hr)
  · have e : (!q.1.isEmpty) = !(pairP q.1).isEmpty := by
      cases q.1 <;> rfl
    rw [e]
    exact Tr.value (Ev.name rfl) (Tt.tup (by rw [pairP_len]; omega))
  · obtain ⟨qs, t⟩ := q
    cases qs with
    | nil => cases hb
    | cons p qs =>
      obtain ⟨c, w⟩ := p
      dsimp only at hq ⊢
      obtain ⟨hq, hl⟩ := hq
      rw [replG] at hq
      split at hq
      · rename_i hz
        refine ⟨⟨hq, by simp at hl; omega⟩, Nat.lt_succ_self _, ?_⟩
        obtain ⟨z1, z2⟩ := hz
        dsimp only at z2
        have hpp : pairP ((c, w) :: qs) = str (sOf [c]) :: str (sOf w) :: pairP qs := rfl
        have hsz : (pairP ((c, w) :: qs)).length ≤ sizeLine := by rw [pairP_len, sizeLine_eq]; omega
        have sl := split_weight (sOf t) (sOf [c]) (Nat.le_refl 1)
        rw [sOf_length] at sl
        refine Ex.step (Ex1.assign (P := str (sOf (swapC c w t))) (SEv.fix ?_) (.inl rfl)) ?_
        · rw [← join_swap]
          refine Ev.join (Ev.sub (P := tup (pairP ((c, w) :: qs))) (Ev.name rfl) Ev.cint (Sb.tupGet (j := 1) (by decide) (by decide) ?_ (by rw [hpp]; rfl))) (Ev.split (Ev.name rfl) (Ev.sub (P := tup (pairP ((c, w) :: qs))) (Ev.name rfl) Ev.cint (Sb.tupGet (j := 0) (by decide) (by decide) ?_ (by rw [hpp]; rfl))) rfl (by rw [sOf_length, sizeLine_eq]; omega)) ?_
          · rw [hpp]; rw [show seqIndex? 1 (str (sOf [c]) :: str (sOf w) :: pairP qs).length = some 1 by simp [seqIndex?]; omega]
          · rw [hpp]; rw [show seqIndex? 0 (str (sOf [c]) :: str (sOf w) :: pairP qs).length = some 0 by simp [seqIndex?]; omega]
          · rw [sOf_length]
            have : (Txt.split (sOf t) (sOf [c])).length * w.length ≤ 1001 * 1000 := Nat.mul_le_mul (by omega) z2
            omega
        · refine Ex.step (Ex1.assign (P := tup (pairP qs)) (SEv.fix ?_) (.inl rfl)) (Ex.nil (.cons rfl (.cons rfl .nil)))
          have := Sb.tupFrom (C := C) (A := B) (ps := pairP ((c, w) :: qs)) (k := 2) (slice := .Slice (some (.Constant (.int 2) 0 ⟨90, 22, 90, 23⟩)) none none ⟨90, 22, 90, 24⟩) (by decide) (by rw [hpp]; simp) hsz
          exact Ev.sub (Ev.name rfl) (Ev.slice (EvP.some Ev.cint) EvP.none EvP.none) this
      · cases hq
  · obtain ⟨qs, t⟩ := q
    cases qs with
    | nil =>
      have e : some t = some r := hq.1
      cases e
      exact Ex.sub hs (Ex.ret (SEv.fix (Ev.name rfl)) rfl)
    | cons p qs => cases hb
end Mine
end
/-! # part F7 -/
section
open PySem PySem.W PySem.Calls PyProof.Rows PySem.SeqAt
set_option Elab.async false
set_option maxRecDepth 100000
set_option linter.unusedVariables false
namespace Mine
noncomputable def inSt (n i : Nat) : Stmt := ((bodyOf n)[i]?).getD (.Pass default)
noncomputable def inBody (n i : Nat) : List Stmt := match inSt n i with | .FunctionDef _ _ b _ _ _ _ _ _ _ => b | _ => []
noncomputable def inScope (n i : Nat) : Scope := match inSt n i with | .FunctionDef _ _ _ _ _ _ s _ _ _ => s | _ => default
noncomputable def inParams (n i : Nat) : Arguments := match inSt n i with | .FunctionDef _ a _ _ _ _ _ _ _ _ => a | _ => default
theorem body5 : bodyOf 5 = [.FunctionDef (Str.ofString "inner") (inParams 5 0) (inBody 5 0) [] none [] (inScope 5 0) none (Str.ofString "inner") ⟨47, 4, 52, 55⟩, inSt 5 1] := rfl
noncomputable def d2iOk (n u : Int) (L mid : Nat) : Bool := decide (Builtin.Int.intBits ((mid : Int) - L) ≤ 64) && decide (0 ≤ ((mid : Int) - L) * n) && decide ((Builtin.Int.intBits u : Int) + ((mid : Int) - L) * n ≤ 2 ^ 27)
noncomputable def d2iG (ds : List Int) (n : Int) : Nat → Nat → Nat → Option Int
  | 0, _, _ => none
  | k + 1, L, R => if L + 1 = R then ds[L]? else
      match d2iG ds n k ((L + R) / 2) R, d2iG ds n k L ((L + R) / 2) with
      | some u, some v => if d2iOk n u L ((L + R) / 2) then some (u * 2 ^ (((((L + R) / 2 : Nat) : Int) - L) * n).toNat + v) else none
      | _, _ => none
noncomputable def d2iF (ds : List Int) (n : Int) : Option Int := if ds.isEmpty then some 0 else d2iG ds n 8 0 ds.length
theorem half (L R : Nat) : ((L : Int) + R).fdiv (2 ^ (1 : Int).toNat) = (((L + R) / 2 : Nat) : Int) := by
  show ((L : Int) + R).fdiv 2 = _
  rw [Int.fdiv_eq_ediv_of_nonneg _ (by decide)]; omega
theorem d2i_inner {C : Cx} {q : Str} {clos : List (Str × Addr)} (T : Tops C) (ds : List Int) (n : Int) (hcl : ClosOk clos [Str.ofString "digits", Str.ofString "inner", Str.ofString "n"]) :
    ∀ (k L R : Nat) (r : Int) (A : Around), d2iG ds n k L R = some r → ds.length ≤ 1000 → Rm k A →
      InnCl C A (innP (Str.ofString "inner") q (inParams 5 0) (inBody 5 0) (inScope 5 0) clos) clos
        [(Str.ofString "digits", nums ds), (Str.ofString "inner", innP (Str.ofString "inner") q (inParams 5 0) (inBody 5 0) (inScope 5 0) clos), (Str.ofString "n", int n)] [int L, int R] (int r) := by
  intro k
  induction k with
  | zero => intro L R r A h; cases h
  | succ k ih =>
    intro L R r A h hl hA
    refine InnCl.of (names := [Str.ofString "L", Str.ofString "R"]) hA rfl (by decide) (fun doc pm cv ctv vs hv => ?_) (by decide +kernel) (by decide +kernel) rfl rfl rfl (by
      intro p hp
      simp only [List.mem_cons, List.not_mem_nil, or_false] at hp
      rcases hp with rfl | rfl | rfl <;> rfl) hcl fun doc pm cv ctv L' f => ?_
    · match vs, hv with
      | [u, v], _ => rfl
    · generalize hE : callEnv (fnX (Str.ofString "inner") q (inParams 5 0) (inBody 5 0) (inScope 5 0) clos .none .none doc pm none cv ctv) L' f = env
      have hA' := Rm.deeper (env := env) hA
      generalize hB : A.deeper env = B at hA'
      subst hE
      have hh := hA'.1
      generalize hI : innP (Str.ofString "inner") q (inParams 5 0) (inBody 5 0) (inScope 5 0) clos = I at ih
      conv => arg 4; whnf
      rw [d2iG] at h
      by_cases hLR : L + 1 = R
      · rw [if_pos hLR] at h
        have hLl : L < ds.length := by
          rcases Nat.lt_or_ge L ds.length with q | q
          · exact q
          · rw [List.getElem?_eq_none q] at h; cases h
        refine Ex.cons (Ex1.ite (b := true) (R := fun r' _ => r' = .ret (int r)) (STr.fix ?_) (fun _ => Ex.ret (SEv.fix (Ev.sub (P := nums ds) (Ev.name rfl) (Ev.name rfl) (Sb.get (by omega) (by omega) ?_))) rfl) (fun h => by cases h)) (fun _ h => by cases h) fun r' _ h _ => h
        · have e : ((L : Int) + 1 == R) = true := by simpa using (by omega : (L : Int) + 1 = R)
          rw [← e]
          exact Tr.cmp (Ev.bin (Ev.name rfl) Ev.cint Bin.add) (Ev.name rfl) Cmp.eq
        · rw [Int.toNat_natCast, List.getElem?_map, h]; rfl
      · rw [if_neg hLR] at h
        generalize hmid : (L + R) / 2 = mid at h
        cases h1 : d2iG ds n k mid R with
        | none => rw [h1] at h; cases h
        | some u =>
          cases h2 : d2iG ds n k L mid with
          | none => rw [h1, h2] at h; cases h
          | some v =>
            rw [h1, h2] at h
            dsimp only at h
            split at h
            · rename_i hok
              cases h
              unfold d2iOk at hok
              simp only [Bool.and_eq_true, decide_eq_true_eq] at hok
              obtain ⟨⟨o1, o2⟩, o3⟩ := hok
              refine Ex.step (st' := _) (Ex1.mono (Ex1.ite (b := false) (R := Nx _) (STr.fix ?_) (fun h => by cases h) (fun _ => Ex.nil ⟨rfl, rfl⟩)) fun _ _ h => h) ?_
              · have e : ((L : Int) + 1 == R) = false := by
                  rw [beq_eq_false_iff_ne]; omega
                rw [← e]
                exact Tr.cmp (Ev.bin (Ev.name rfl) Ev.cint Bin.add) (Ev.name rfl) Cmp.eq
              refine Ex.step (Ex1.assign (P := int (mid : Nat)) (SEv.fix ?_) (.inl rfl)) ?_
              · have := half L R
                rw [hmid] at this
                rw [← this]
                exact Ev.bin (Ev.bin (Ev.name rfl) (Ev.name rfl) Bin.add) Ev.cint (Bin.shr (by decide))
              refine Ex.step (Ex1.assign (P := int (((mid : Int) - L) * n)) (SEv.fix (Ev.bin (Ev.bin (Ev.name rfl) (Ev.name rfl) Bin.sub) (Ev.name rfl) (Bin.mul (IntMulOk.of_left o1)))) (.inl rfl)) ?_
              have i1 := ih mid R u B h1 hl hA'
              have i2 := ih L mid v B h2 hl hA'
              subst hI
              refine Ex.ret (SEv.fix ?_) rfl
              refine Ev.bin (Ev.bin (Ev.callInn (Ev.name rfl) ?_ (Evs.cons (Evs.cons Evs.nil (Ev.name rfl)) (Ev.name rfl)) i1) (Ev.name rfl) (Bin.shl o2 o3)) (Ev.callInn (Ev.name rfl) ?_ (Evs.cons (Evs.cons Evs.nil (Ev.name rfl)) (Ev.name rfl)) i2) Bin.add
              all_goals
                intro p hp
                simp only [List.mem_cons, List.not_mem_nil, or_false] at hp
                rcases hp with rfl | rfl | rfl <;> exact ⟨rfl, .inr rfl, rfl⟩
            · cases h
end Mine
end
/-! # part F8 -/
section
open PySem PySem.W PySem.Calls PyProof.Rows PySem.SeqAt
set_option Elab.async false
set_option maxRecDepth 100000
set_option linter.unusedVariables false
namespace Mine
noncomputable def qIn (n : Nat) : Str := nameOf n ++ ".<locals>." ++ Str.ofString "inner"
noncomputable def clos4 (L : Addr) : List (Str × Addr) := [(Str.ofString "n", L + 1 + 1), (Str.ofString "inner", L + 1 + 1 + 1), (Str.ofString "digits", L + 1)]
theorem clos4_ok (L : Addr) : ClosOk (clos4 L) [Str.ofString "digits", Str.ofString "inner", Str.ofString "n"] := by
  have h : ClosOk (clos4 L) [Str.ofString "n", Str.ofString "inner", Str.ofString "digits"] := ClosOk.of (clos := clos4 L) (by
    show [L + 1 + 1, L + 1 + 1 + 1, L + 1].Nodup
    simp <;> exact fun h => absurd h (by show ¬ (L : Nat) + 1 + 1 = L; omega))
  refine ⟨fun x c hc => ?_, h.2⟩
  have := h.1 x c hc
  exact List.mem_reverse.mp this
theorem d2i_ok {C : Cx} {A : Around} {a c P : Addr} (T : Tops C) (hf : FnAtC C 5 a (.ref c)) (hT : Tb C c P (qIn 5) ⟨47, 4, 52, 55⟩) (hA : Rm 10 A) (ds : List Int) (n r : Int) (hr : d2iF ds n = some r) (hl : ds.length ≤ 1000) :
    Cl C A (.ref a) [nums ds, int n] (int r) := by
  refine Cl.fnC (names := [Str.ofString "digits", Str.ofString "n"]) hA hf rfl (by decide) (fun pm code doc vs hv => ?_) (fun m => rfl) rfl rfl rfl fun pm doc L => ?_
  · match vs, hv with
    | [u, v], _ => rfl
  · have hA' := Rm.deeper (env := callEnvC (fdAt 5 pm (.ref c) doc) L a) hA
    generalize hB : A.deeper (callEnvC (fdAt 5 pm (.ref c) doc) L a) = B at hA'
    have hh := hA'.1
    rw [body5]
    refine Ex.step (Ex1.defInner hT rfl rfl rfl rfl (.inr ⟨rfl, _, rfl⟩) rfl rfl rfl) ?_
    conv => arg 4; whnf
    unfold d2iF at hr
    refine Ex.ret (SEv.fix (Ev.ife (b := !ds.isEmpty) ?_ (fun h => ?_) (fun h => ?_))) rfl
    · rw [show (!ds.isEmpty) = !(ds.map int).isEmpty by cases ds <;> rfl]
      exact Tr.value (Ev.name rfl) (Tt.lst (by rw [List.length_map]; omega))
    · rw [if_neg (by simpa using h)] at hr
      have hlen := Cl.lenL (C := C) (A := B) (ps := ds.map int) (by rw [List.length_map]; omega)
      rw [List.length_map] at hlen
      refine Ev.callInn (clos := clos4 L) (prs := [(Str.ofString "digits", nums ds), (Str.ofString "inner", innP (Str.ofString "inner") (qIn 5) (inParams 5 0) (inBody 5 0) (inScope 5 0) (clos4 L)), (Str.ofString "n", int n)]) (Ev.name rfl) ?_ (Evs.cons (Evs.cons Evs.nil (Ev.len T rfl (Evs.cons Evs.nil (Ev.name rfl)) hlen)) Ev.cint) (d2i_inner T ds n ⟨?_, ?_⟩ 8 0 ds.length r B hr hl (hA'.le (by decide)))
      · intro p hp
        simp only [List.mem_cons, List.not_mem_nil, or_false] at hp
        rcases hp with rfl | rfl | rfl <;> exact ⟨rfl, .inl rfl, rfl⟩
      · intro x c hc
        exact (clos4_ok L).1 x c hc
      · exact (clos4_ok L).2
    · rw [if_pos (by simpa using h)] at hr
      cases hr
      exact Ev.cint
end Mine
end
/-! # part F9 -/
section
open PySem PySem.W PySem.Calls PyProof.Rows PySem.SeqAt
set_option Elab.async false
set_option maxRecDepth 100000
set_option linter.unusedVariables false
namespace Mine
theorem body4 : bodyOf 4 = [inSt 4 0, .FunctionDef (Str.ofString "inner") (inParams 4 1) (inBody 4 1) [] none [] (inScope 4 1) none (Str.ofString "inner") ⟨32, 4, 41, 28⟩, inSt 4 2, inSt 4 3] := rfl
noncomputable def upI (x sh : Int) : Int := x.fdiv (2 ^ sh.toNat)
noncomputable def loI (x sh : Int) : Int := Builtin.bitXor x (upI x sh * 2 ^ sh.toNat)
noncomputable def i2dOk (n x : Int) (L mid : Nat) : Bool := decide (Builtin.Int.intBits ((mid : Int) - L) ≤ 64) && decide (0 ≤ ((mid : Int) - L) * n) && decide ((Builtin.Int.intBits (upI x (((mid : Int) - L) * n)) : Int) + ((mid : Int) - L) * n ≤ 2 ^ 27)
noncomputable def i2dG (n : Int) : Nat → Int → Nat → Nat → List Int → Option (List Int)
  | 0, _, _, _, _ => none
  | k + 1, x, L, R, acc => if L + 1 = R then (if L < acc.length then some (acc.set L x) else none) else
      if i2dOk n x L ((L + R) / 2) then
        match i2dG n k (loI x (((((L + R) / 2 : Nat) : Int) - L) * n)) L ((L + R) / 2) acc with
        | some acc' => i2dG n k (upI x (((((L + R) / 2 : Nat) : Int) - L) * n)) ((L + R) / 2) R acc'
        | none => none
      else none
noncomputable def sizeI (a n : Int) : Int := ((Builtin.Int.intBits a : Int) + n - 1).fdiv n
noncomputable def i2dF (a n : Int) : Option (List Int) :=
  if n ≠ 0 ∧ n < 2 ^ 30 ∧ -(2 ^ 30) < n ∧ (sizeI a n).toNat ≤ 1000 ∧ -(2 ^ 62) ≤ sizeI a n ∧ sizeI a n < 2 ^ 62 then
    (if a != 0 then i2dG n 8 a 0 (sizeI a n).toNat (List.replicate (sizeI a n).toNat 0) else some (List.replicate (sizeI a n).toNat 0))
  else none
theorem i2d_inner {C : Cx} {q : Str} {clos : List (Str × Addr)} (T : Tops C) (n : Int) (hcl : ClosOk clos [Str.ofString "a_digits", Str.ofString "inner", Str.ofString "n"]) :
    ∀ (k : Nat) (x : Int) (L R : Nat) (acc r : List Int) (A : Around), i2dG n k x L R acc = some r → acc.length ≤ 1000 → Rm k A →
      InnMut C A (innP (Str.ofString "inner") q (inParams 4 1) (inBody 4 1) (inScope 4 1) clos) clos
        [(Str.ofString "inner", innP (Str.ofString "inner") q (inParams 4 1) (inBody 4 1) (inScope 4 1) clos), (Str.ofString "n", int n)] (Str.ofString "a_digits") false (acc.map int) [int x, int L, int R] (r.map int) ∧ r.length = acc.length := by
  intro k
  induction k with
  | zero => intro x L R acc r A h; cases h
  | succ k ih =>
    intro x L R acc r A h hl hA
    rw [i2dG] at h
    by_cases hLR : L + 1 = R
    · rw [if_pos hLR] at h
      split at h
      · rename_i hLl
        cases h
        refine ⟨?_, by rw [List.length_set]⟩
        refine InnMut.of (names := [Str.ofString "x", Str.ofString "L", Str.ofString "R"]) hA rfl (by decide) (fun doc pm cv ctv vs hv => ?_) (by decide +kernel) (by decide +kernel) rfl rfl rfl (by
          intro p hp
          simp only [List.mem_cons, List.not_mem_nil, or_false] at hp
          rcases hp with rfl | rfl <;> rfl) rfl hcl fun doc pm cv ctv L' f => ?_
        · match vs, hv with
          | [u, v, w], _ => rfl
        · generalize A.deeper (callEnv (fnX (Str.ofString "inner") q (inParams 4 1) (inBody 4 1) (inScope 4 1) clos .none .none doc pm none cv ctv) L' f) = B
          generalize hI : innP (Str.ofString "inner") q (inParams 4 1) (inBody 4 1) (inScope 4 1) clos = I
          conv => arg 4; whnf
          refine Ex.cons (Ex1.ite (b := true) (R := fun r' st => r' = .ret non ∧ st.lookup (Str.ofString "a_digits") = some (.own false ((acc.set L x).map int))) (STr.fix ?_)
            (fun _ => Ex.step (Ex1.setItem (ps := acc.map int) (k := (L : Int)) (P := int x) (pl := false) rfl (SEv.fix (Ev.name rfl)) (SEv.fix (Ev.name rfl)) (by omega) (by rw [List.length_map]; omega) (by omega)) (Ex.cons Ex1.ret0 (fun _ h => by cases h.1) fun r' st' h _ => ?_)) (fun h => by cases h)) (fun _ h => by cases h.1) fun r' _ h _ => ⟨.inr h.1, h.2⟩
          · have e : ((L : Int) + 1 == R) = true := by simpa using (by omega : (L : Int) + 1 = R)
            rw [← e]
            exact Tr.cmp (Ev.bin (Ev.name rfl) Ev.cint Bin.add) (Ev.name rfl) Cmp.eq
          · obtain ⟨rfl, rfl⟩ := h
            refine ⟨rfl, ?_⟩
            rw [lookup_cons_self, Int.toNat_natCast, List.map_set]
      · cases h
    · rw [if_neg hLR] at h
      generalize hmid : (L + R) / 2 = mid at h
      split at h
      · rename_i hok
        unfold i2dOk at hok
        simp only [Bool.and_eq_true, decide_eq_true_eq] at hok
        obtain ⟨⟨o1, o2⟩, o3⟩ := hok
        cases h1 : i2dG n k (loI x (((mid : Int) - L) * n)) L mid acc with
        | none => rw [h1] at h; cases h
        | some acc' =>
          rw [h1] at h
          dsimp only at h
          have l1 := (ih _ L mid acc acc' _ h1 hl (Rm.deeper (env := default) hA)).2
          have l2 := (ih _ mid R acc' r _ h (by omega) (Rm.deeper (env := default) hA)).2
          refine ⟨?_, by omega⟩
          refine InnMut.of (names := [Str.ofString "x", Str.ofString "L", Str.ofString "R"]) hA rfl (by decide) (fun doc pm cv ctv vs hv => ?_) (by decide +kernel) (by decide +kernel) rfl rfl rfl (by
            intro p hp
            simp only [List.mem_cons, List.not_mem_nil, or_false] at hp
            rcases hp with rfl | rfl <;> rfl) rfl hcl fun doc pm cv ctv L' f => ?_
          · match vs, hv with
            | [u, v, w], _ => rfl
          · have hA' := Rm.deeper (env := callEnv (fnX (Str.ofString "inner") q (inParams 4 1) (inBody 4 1) (inScope 4 1) clos .none .none doc pm none cv ctv) L' f) hA
            generalize A.deeper (callEnv (fnX (Str.ofString "inner") q (inParams 4 1) (inBody 4 1) (inScope 4 1) clos .none .none doc pm none cv ctv) L' f) = B at hA'
            have i1 := (ih _ L mid acc acc' B h1 hl hA').1
            have i2 := (ih _ mid R acc' r B h (by omega) hA').1
            clear ih h h1
            conv => arg 4; whnf
            refine Ex.step (st' := _) (Ex1.mono (Ex1.ite (b := false) (R := Nx _) (STr.fix ?_) (fun h => by cases h) (fun _ => Ex.nil ⟨rfl, rfl⟩)) fun _ _ h => h) ?_
            · have e : ((L : Int) + 1 == R) = false := by
                rw [beq_eq_false_iff_ne]; omega
              rw [← e]
              exact Tr.cmp (Ev.bin (Ev.name rfl) Ev.cint Bin.add) (Ev.name rfl) Cmp.eq
            refine Ex.step (Ex1.assign (P := int (mid : Nat)) (SEv.fix ?_) (.inl rfl)) ?_
            · have := half L R
              rw [hmid] at this
              rw [← this]
              exact Ev.bin (Ev.bin (Ev.name rfl) (Ev.name rfl) Bin.add) Ev.cint (Bin.shr (by decide))
            refine Ex.step (Ex1.assign (P := int (((mid : Int) - L) * n)) (SEv.fix (Ev.bin (Ev.bin (Ev.name rfl) (Ev.name rfl) Bin.sub) (Ev.name rfl) (Bin.mul (IntMulOk.of_left o1)))) (.inl rfl)) ?_
            generalize ((mid : Int) - L) * n = sh at o2 o3 i1 i2
            refine Ex.step (Ex1.assign (P := int (upI x sh)) (SEv.fix (Ev.bin (Ev.name rfl) (Ev.name rfl) (Bin.shr o2))) (.inl rfl)) ?_
            refine Ex.step (Ex1.assign (P := int (loI x sh)) (SEv.fix (Ev.bin (Ev.name rfl) (Ev.bin (Ev.name rfl) (Ev.name rfl) (Bin.shl o2 o3)) Bin.xor)) (.inl rfl)) ?_
            refine Ex.step (Ex1.callMut (y := Str.ofString "a_digits") (pl := false) rfl (.inr rfl) rfl (Ev.name rfl) ?_ (Evs.cons (Evs.cons (Evs.cons Evs.nil (Ev.name rfl)) (Ev.name rfl)) (Ev.name rfl)) i1) ?_
            · intro p hp
              simp only [List.mem_cons, List.not_mem_nil, or_false] at hp
              rcases hp with rfl | rfl <;> exact ⟨rfl, .inr rfl, rfl⟩
            refine Ex.step (Ex1.callMut (y := Str.ofString "a_digits") (pl := false) rfl (.inr rfl) rfl (Ev.name rfl) ?_ (Evs.cons (Evs.cons (Evs.cons Evs.nil (Ev.name rfl)) (Ev.name rfl)) (Ev.name rfl)) i2) ?_
            · intro p hp
              simp only [List.mem_cons, List.not_mem_nil, or_false] at hp
              rcases hp with rfl | rfl <;> exact ⟨rfl, .inr rfl, rfl⟩
            exact Ex.nil ⟨.inl rfl, rfl⟩
      · cases h
noncomputable def clos3 (L : Addr) : List (Str × Addr) := [(Str.ofString "n", L + 1), (Str.ofString "inner", L + 1 + 1 + 1), (Str.ofString "a_digits", L + 1 + 1)]
theorem clos3_ok (L : Addr) : ClosOk (clos3 L) [Str.ofString "a_digits", Str.ofString "inner", Str.ofString "n"] := by
  have h : ClosOk (clos3 L) [Str.ofString "n", Str.ofString "inner", Str.ofString "a_digits"] := ClosOk.of (clos := clos3 L) (by
    show [L + 1, L + 1 + 1 + 1, L + 1 + 1].Nodup
    simp <;> exact fun h => absurd h (by show ¬ (L : Nat) + 1 + 1 = L; omega))
  refine ⟨fun x c hc => ?_, h.2⟩
  have := h.1 x c hc
  exact List.mem_reverse.mp this
end Mine
end
/-! # part F10 -/
section
open PySem PySem.W PySem.Calls PyProof.Rows PySem.SeqAt
set_option Elab.async false
set_option maxRecDepth 100000
set_option linter.unusedVariables false
namespace Mine
theorem flat_rep (k : Nat) : (List.replicate k [int 0]).flatten = (List.replicate k (0 : Int)).map int := by
  induction k with
  | zero => rfl
  | succ k ih => simp only [List.replicate_succ, List.flatten_cons, ih, List.map_cons]; rfl
theorem i2d_ok {C : Cx} {A : Around} {a c P : Addr} (T : Tops C) (hf : FnAtC C 4 a (.ref c)) (hT : Tb C c P (qIn 4) ⟨32, 4, 41, 28⟩) (hA : Rm 10 A) (x n : Int) (r : List Int) (hr : i2dF x n = some r) :
    Cl C A (.ref a) [int x, int n] (nums r) := by
  unfold i2dF at hr
  split at hr
  · rename_i hok
    obtain ⟨h1, h2, h3, h4, h5, h6⟩ := hok
    refine Cl.fnC (names := [Str.ofString "a", Str.ofString "n"]) hA hf rfl (by decide) (fun pm code doc vs hv => ?_) (fun m => rfl) rfl rfl rfl fun pm doc L => ?_
    · match vs, hv with
      | [u, v], _ => rfl
    · have hA' := Rm.deeper (env := callEnvC (fdAt 4 pm (.ref c) doc) L a) hA
      generalize hB : A.deeper (callEnvC (fdAt 4 pm (.ref c) doc) L a) = B at hA'
      have hh := hA'.1
      rw [body4]
      have e0 : ∃ p1 p2 p3 p4 p5 p6 p7 p8 p9 p10 p11 p12 p13, inSt 4 0 = .Assign [.Name (Str.ofString "a_digits") p1] (.BinOp (.List [.Constant (.int 0) 0 p2] p3) .Mult (.BinOp (.BinOp (.BinOp (.Call (.Attribute (.Name (Str.ofString "a") p4) (Str.ofString "bit_length") p5) [] [] p6) .Add (.Name (Str.ofString "n") p7) p8) .Sub (.Constant (.int 1) 0 p9) p10) .FloorDiv (.Name (Str.ofString "n") p11) p12) p13) ⟨30, 4, 30, 52⟩ :=
        ⟨_, _, _, _, _, _, _, _, _, _, _, _, _, rfl⟩
      conv => arg 4; arg 1; whnf
      refine Ex.step (Ex1.assignOwn (ps := (List.replicate (sizeI x n).toNat (0 : Int)).map int) ?_ (.inr ⟨rfl, _, rfl⟩)) ?_
      · rw [← flat_rep]
        refine Nw.bin (P := lst [int 0]) (Q := int (sizeI x n)) (Ev.list (Evs.cons Evs.nil Ev.cint)) ?_ (BinN.mulL (by omega) (by omega) (by simp only [List.length_cons, List.length_nil]; omega))
        exact Ev.bin (Ev.bin (Ev.bin (Ev.bitLength (Ev.name rfl)) (Ev.name rfl) Bin.add) Ev.cint Bin.sub) (Ev.name rfl) (Bin.fdiv h1 (PyProof.noPylong_small (by omega)))
      refine Ex.step (Ex1.defInner hT rfl rfl rfl rfl (.inr ⟨rfl, _, rfl⟩) rfl rfl rfl) ?_
      refine Ex.plain (x := Str.ofString "a_digits") (pl := true) (ps := (List.replicate (sizeI x n).toNat (0 : Int)).map int) rfl ?_
      conv => arg 4; arg 1; whnf
      refine Ex.stepS (K := [(Str.ofString "a_digits", .own false (r.map int))]) (Ex1.ite (b := x != 0) (STr.fix (Tr.value (Ev.name rfl) Tt.int)) (fun h => ?_) (fun h => ?_)) ?_
      · rw [if_pos h] at hr
        obtain ⟨i1, i2⟩ := i2d_inner (q := qIn 4) T n (clos3_ok L) 8 x 0 (sizeI x n).toNat (List.replicate (sizeI x n).toNat 0) r B hr (by rw [List.length_replicate]; exact h4) (hA'.le (by decide))
        have hlen := Cl.lenL (C := C) (A := B) (ps := (List.replicate (sizeI x n).toNat (0 : Int)).map int) (by rw [List.length_map, List.length_replicate]; omega)
        rw [List.length_map, List.length_replicate] at hlen
        refine Ex.step (Ex1.callMutS (y := Str.ofString "a_digits") (pl := false) (clos := clos3 L) rfl (.inl rfl) rfl (Ev.name rfl) ?_ (SEvs.flat (Evs.cons (Evs.cons (Evs.cons Evs.nil (Ev.len T rfl (Evs.cons Evs.nil (Ev.name rfl)) hlen)) Ev.cint) (Ev.name rfl)) ?_) i1) (Ex.nil ⟨rfl, .cons rfl .nil⟩)
        · intro p hp
          simp only [List.mem_cons, List.not_mem_nil, or_false] at hp
          rcases hp with rfl | rfl <;> exact ⟨rfl, .inl rfl, rfl⟩
        · intro p hp
          simp only [List.mem_cons, List.not_mem_nil, or_false] at hp
          rcases hp with rfl | rfl | rfl <;> exact Flat.int
      · rw [if_neg (by rw [h]; decide)] at hr
        cases hr
        exact Ex.nil ⟨rfl, .cons rfl .nil⟩
      · conv => arg 4; arg 1; whnf
        exact Ex.freeze (x := Str.ofString "a_digits") rfl (Ex.ret (SEv.fix (Ev.name rfl)) rfl)
  · cases hr
end Mine
end
/-! # part F11 -/
section
open PySem PySem.W PySem.Calls PyProof.Rows PySem.SeqAt
set_option Elab.async false
set_option maxRecDepth 100000
set_option linter.unusedVariables false
namespace Mine
theorem div2_ok {C : Cx} {A : Around} {a : Addr} (T : Tops C) (hf : FnAt C 2 a) (hA : Rm 1 A)
    (x y n : Int) (h1 : (Builtin.Int.intBits x : Int) - n ≤ 4000) (hy : y ≠ 0) (hp : Builtin.divisionGoesByPylong x y = false) :
    Cl C A (.ref a) [int x, int y, int n] (tup [int (x.fdiv y), int (x.fmod y)]) := by
  refine Cl.fn (names := [Str.ofString "a", Str.ofString "b", Str.ofString "n"]) hA hf rfl (by decide) (fun pm code doc vs hv => ?_) (fun m => rfl) rfl rfl rfl fun pm code doc L => ?_
  · match vs, hv with
    | [u, v, w], _ => rfl
  · conv => arg 4; whnf
    have e : decide ((Builtin.Int.intBits x : Int) - n ≤ 4000) = true := by simpa using h1
    refine' Ex.cons (Ex1.ite (R := fun r _ => r = .ret (tup [int (x.fdiv y), int (x.fmod y)])) (STr.fix ?t) (fun _ => ?_) (fun h => ?n)) (fun _ h => by cases h) fun r _ h _ => h
    case t => exact Tr.cmp (Ev.bin (Ev.bitLength (Ev.name rfl)) (Ev.name rfl) Bin.sub) (Ev.gint rfl T.lim) Cmp.le
    case n => rw [e] at h; cases h
    · refine Ex.ret (SEv.fix ?_) rfl
      exact Ev.divmod T rfl (Evs.cons (Evs.cons Evs.nil (Ev.name rfl)) (Ev.name rfl)) (Cl.divmod hy hp)
noncomputable def stepD (b n : Int) (s : Int × List Int) (d : Int) : Int × List Int := ((s.1 * 2 ^ n.toNat + d).fmod b, s.2 ++ [(s.1 * 2 ^ n.toNat + d).fdiv b])
noncomputable def okD (b n r d : Int) : Bool := decide ((Builtin.Int.intBits r : Int) + n ≤ 2 ^ 27) && decide ((Builtin.Int.intBits (r * 2 ^ n.toNat + d) : Int) - n ≤ 4000) && !Builtin.divisionGoesByPylong (r * 2 ^ n.toNat + d) b
noncomputable def okDs (b n : Int) : List Int → Int × List Int → Bool
  | [], _ => true
  | d :: ds, s => okD b n s.1 d && okDs b n ds (stepD b n s d)
theorem okDs_at {b n : Int} : ∀ {ds : List Int} {s : Int × List Int} {i : Nat} {d : Int}, okDs b n ds s = true → ds[i]? = some d → okD b n ((ds.take i).foldl (stepD b n) s).1 d = true
  | [], _, _, _, _, h => by cases h
  | d :: ds, s, 0, d', h, e => by cases e; exact (Bool.and_eq_true_iff.mp h).1
  | d :: ds, s, i + 1, d', h, e => okDs_at (ds := ds) (s := stepD b n s d) (Bool.and_eq_true_iff.mp h).2 e
theorem stepD_len {b n : Int} : ∀ (ds : List Int) (s : Int × List Int), (ds.foldl (stepD b n) s).2.length = s.2.length + ds.length
  | [], _ => rfl
  | d :: ds, s => by
    rw [List.foldl_cons, stepD_len ds]
    simp only [stepD, List.length_append, List.length_cons, List.length_nil]
    omega
noncomputable def dmF (a b : Int) : Option (Int × Int) :=
  match i2dF a (Builtin.Int.intBits b) with
  | some ds => if b ≠ 0 ∧ okDs b (Builtin.Int.intBits b) ds.reverse (0, []) = true ∧ ds.length ≤ 1000 then
      (match d2iF (ds.reverse.foldl (stepD b (Builtin.Int.intBits b)) (0, [])).2.reverse (Builtin.Int.intBits b) with
        | some q => some (q, (ds.reverse.foldl (stepD b (Builtin.Int.intBits b)) (0, [])).1)
        | none => none) else none
  | none => none
theorem dm_ok {C : Cx} {A : Around} {a a2 a4 a5 c4 P4 c5 P5 : Addr} (T : Tops C) (hf : FnAt C 6 a) (hf2 : FnAt C 2 a2) (hf4 : FnAtC C 4 a4 (.ref c4)) (hT4 : Tb C c4 P4 (qIn 4) ⟨32, 4, 41, 28⟩) (hf5 : FnAtC C 5 a5 (.ref c5)) (hT5 : Tb C c5 P5 (qIn 5) ⟨47, 4, 52, 55⟩)
    (hA : Rm 11 A) (x y q r : Int) (hr : dmF x y = some (q, r)) : Cl C A (.ref a) [int x, int y] (tup [int q, int r]) := by
  unfold dmF at hr
  cases hd : i2dF x (Builtin.Int.intBits y) with
  | none => rw [hd] at hr; cases hr
  | some ds =>
    rw [hd] at hr
    dsimp only at hr
    split at hr
    · rename_i hok
      obtain ⟨hy, hk, hl⟩ := hok
      cases hq : d2iF (ds.reverse.foldl (stepD y (Builtin.Int.intBits y)) (0, [])).2.reverse (Builtin.Int.intBits y) with
      | none => rw [hq] at hr; cases hr
      | some q' =>
        rw [hq] at hr
        cases hr
        refine Cl.fn (names := [Str.ofString "a", Str.ofString "b"]) hA hf rfl (by decide) (fun pm code doc vs hv => ?_) (fun m => rfl) rfl rfl rfl fun pm code doc L => ?_
        · match vs, hv with
          | [u, v], _ => rfl
        · have hA' := Rm.deeper (env := callEnvC (fdAt 6 pm code doc) L a) hA
          generalize hB : A.deeper (callEnvC (fdAt 6 pm code doc) L a) = B at hA'
          have hh := hA'.1
          conv => arg 4; whnf
          refine Ex.step (Ex1.assign (P := int (Builtin.Int.intBits y)) (SEv.fix (Ev.bitLength (Ev.name rfl))) (.inl rfl)) ?_
          generalize hn : (Builtin.Int.intBits y : Int) = n at hd hk hq
          have hn0 : 0 ≤ n := by omega
          refine Ex.step (Ex1.assign (P := nums ds) (SEv.fix (Ev.fn hf4.to rfl rfl (Evs.cons (Evs.cons Evs.nil (Ev.name rfl)) (Ev.name rfl)) (i2d_ok T hf4 hT4 hA' x n ds hd))) (.inl rfl)) ?_
          refine Ex.step (Ex1.assign (P := int 0) (SEv.fix Ev.cint) (.inl rfl)) ?_
          refine Ex.step (Ex1.assignOwn (Nw.display Evs.nil) (.inl rfl)) ?_
          refine' Ex.stepS (Ex1.forS (items := (ds.map int).reverse) (ns := [Str.ofString "b", Str.ofString "n", Str.ofString "r", Str.ofString "q_digits"])
            (fun i => [(Str.ofString "b", .fix (int y)), (Str.ofString "n", .fix (int n)), (Str.ofString "r", .fix (int ((ds.reverse.take i).foldl (stepD y n) (0, [])).1)), (Str.ofString "q_digits", .own true (((ds.reverse.take i).foldl (stepD y n) (0, [])).2.map int))]) ?it (.inl rfl) (fun _ => rfl) (by decide)
            (.cons rfl (.cons rfl (.cons rfl (.cons rfl .nil)))) ?turn) ?rest
          case it => exact It.rev T hh rfl (Ev.name rfl)
          case rest =>
            have e : ds.reverse.take ((ds.map int).reverse).length = ds.reverse := by rw [List.length_reverse, List.length_map, ← List.length_reverse]; exact List.take_length
            rw [e]
            have hlq : (ds.reverse.foldl (stepD y n) (0, [])).2.length = ds.length := by rw [stepD_len]; simp
            generalize (ds.reverse.foldl (stepD y n) (0, [])) = s at hq hlq
            refine Ex.step (Ex1.reverse (ps := s.2.map int) rfl (by rw [List.length_map, hlq, sizeLine_eq]; omega)) ?_
            refine Ex.freeze (x := Str.ofString "q_digits") rfl ?_
            rw [← List.map_reverse]
            refine Ex.step (Ex1.assign (P := int q) (SEv.fix (Ev.fn hf5.to rfl rfl (Evs.cons (Evs.cons Evs.nil (Ev.name rfl)) (Ev.name rfl)) (d2i_ok T hf5 hT5 hA' s.2.reverse n q hq (by rw [List.length_reverse, hlq]; exact hl)))) (.inl rfl)) ?_
            exact Ex.ret (SEv.fix (Ev.tuple (ps := [int q, int s.1]) (hl := by show 2 ≤ sizeLine; decide) (Evs.cons (Evs.cons Evs.nil (Ev.name rfl)) (Ev.name rfl)))) rfl
          case turn =>
            intro i P hP
            rw [← List.map_reverse] at hP
            obtain ⟨d, hdi, rfl⟩ := map_get hP
            have ok := okDs_at hk hdi
            have hlq : ((ds.reverse.take i).foldl (stepD y n) (0, [])).2.length ≤ 1000 := by
              rw [stepD_len, List.length_take, List.length_reverse]; simp; omega
            rw [take_snoc hdi, List.foldl_append]
            generalize (ds.reverse.take i).foldl (stepD y n) (0, []) = s at ok hlq
            unfold okD at ok
            simp only [Bool.and_eq_true, decide_eq_true_eq, Bool.not_eq_true'] at ok
            obtain ⟨⟨k1, k2⟩, k3⟩ := ok
            refine Ex.step (Ex1.unpack2 hh (SEv.fix (Ev.fn hf2 rfl rfl (Evs.cons (Evs.cons (Evs.cons Evs.nil (Ev.name rfl)) (Ev.name rfl)) (Ev.bin (Ev.bin (Ev.name rfl) (Ev.name rfl) (Bin.shl hn0 k1)) (Ev.name rfl) Bin.add)) (div2_ok T hf2 (hA'.le (by decide)) (s.1 * 2 ^ n.toNat + d) y n k2 hy k3))) (.inl rfl) (.inl rfl)) ?_
            refine Ex.step (Ex1.append (ps := s.2.map int) (P := int ((s.1 * 2 ^ n.toNat + d).fdiv y)) rfl (SEv.fix (Ev.name rfl)) (by rw [List.length_map, sizeLine_eq]; omega)) ?_
            refine Ex.nil (.cons rfl (.cons rfl (.cons rfl (.cons ?_ .nil))))
            show some _ = some _
            simp only [List.foldl_cons, List.foldl_nil, stepD, List.map_append]
            rfl
    · cases hr
end Mine
end
/-! # part F12 -/
section
open PySem PySem.W PySem.Calls PyProof.Rows PySem.SeqAt
set_option Elab.async false
set_option maxRecDepth 100000
set_option linter.unusedVariables false
namespace Mine
noncomputable def lensW (ws : List (List Nat)) : List Int := ws.map fun w => (w.length : Int)
noncomputable def stepK (most : Int) (ds : List Int) (w : List Nat) : List Int := ds.set (most - w.length).toNat (ds.getD (most - w.length).toNat 0 - 1)
theorem stepK_len (most : Int) : ∀ (ws : List (List Nat)) (ds : List Int), (ws.foldl (stepK most) ds).length = ds.length
  | [], _ => rfl
  | w :: ws, ds => by rw [List.foldl_cons, stepK_len most ws, stepK, List.length_set]
noncomputable def digitsF (ws : List (List Nat)) : List Int := ws.foldl (stepK (maxI (lensW ws))) (List.replicate (maxI (lensW ws)).toNat 0 ++ [1])
noncomputable def okK (ws : List (List Nat)) (size width : Int) : Bool :=
  !ws.isEmpty && decide (0 ≤ maxI (lensW ws)) && decide (maxI (lensW ws) ≤ 900) && decide (ws.length ≤ 1000) && ws.all (fun w => decide ((w.length : Int) ≤ maxI (lensW ws)))
    && decide (Builtin.Int.intBits width ≤ 64) && decide (0 ≤ width * (maxI (lensW ws) + size)) && decide ((Builtin.Int.intBits 2 : Int) * (width * (maxI (lensW ws) + size)) ≤ 2 ^ 27)
noncomputable def countsF (ws : List (List Nat)) (size width : Int) : Option (List Int) :=
  if okK ws size width then
    match d2iF (digitsF ws) width with
    | some d => (match dmF (2 ^ (width * (maxI (lensW ws) + size)).toNat) d with
      | some (q, r) => (match i2dF q width with
        | some l => if l.length ≤ 1000 then some l.reverse else none
        | none => none)
      | none => none)
    | none => none
  else none
theorem counts_ok {C : Cx} {A : Around} {a a2 a4 a5 a6 c4 P4 c5 P5 : Addr} (T : Tops C) (hf : FnAt C 13 a) (hf6 : FnAt C 6 a6) (hf2 : FnAt C 2 a2) (hf4 : FnAtC C 4 a4 (.ref c4)) (hT4 : Tb C c4 P4 (qIn 4) ⟨32, 4, 41, 28⟩) (hf5 : FnAtC C 5 a5 (.ref c5)) (hT5 : Tb C c5 P5 (qIn 5) ⟨47, 4, 52, 55⟩)
    (hA : Rm 12 A) (ws : List (List Nat)) (size width : Int) (r : List Int) (hr : countsF ws size width = some r) : Cl C A (.ref a) [wds ws, int size, int width] (nums r) := by
  unfold countsF at hr
  split at hr
  · rename_i hok
    unfold okK at hok
    simp only [Bool.and_eq_true, decide_eq_true_eq, Bool.not_eq_true'] at hok
    obtain ⟨⟨⟨⟨⟨⟨⟨k1, k2⟩, k3⟩, k4⟩, k5⟩, k6⟩, k7⟩, k8⟩ := hok
    generalize hmost : maxI (lensW ws) = most at k2 k3 k5 k7 k8 hr
    cases hd : d2iF (digitsF ws) width with
    | none => rw [hd] at hr; cases hr
    | some d =>
      rw [hd] at hr
      dsimp only at hr
      cases hq : dmF (2 ^ (width * (most + size)).toNat) d with
      | none => rw [hq] at hr; cases hr
      | some qr =>
        obtain ⟨q, rr⟩ := qr
        rw [hq] at hr
        dsimp only at hr
        cases hi : i2dF q width with
        | none => rw [hi] at hr; cases hr
        | some l =>
          rw [hi] at hr
          dsimp only at hr
          split at hr
          · rename_i hll
            cases hr
            refine Cl.fn (names := [Str.ofString "words", Str.ofString "size", Str.ofString "width"]) hA hf rfl (by decide) (fun pm code doc vs hv => ?_) (fun m => rfl) rfl rfl rfl fun pm code doc L => ?_
            · match vs, hv with
              | [u, v, w], _ => rfl
            · have hA' := Rm.deeper (env := callEnvC (fdAt 13 pm code doc) L a) hA
              generalize hB : A.deeper (callEnvC (fdAt 13 pm code doc) L a) = B at hA'
              have hh := hA'.1
              have hwl : ∀ w ∈ ws, (w.length : Int) ≤ most := fun w hw => by simpa using List.all_eq_true.mp k5 w hw
              conv => arg 4; whnf
              -- most = max([len(word) for word in words])
              refine Ex.step (Ex1.assign (P := int most) (SEv.fix ?_) (.inl rfl)) ?_
              · have hmx := Cl.max (C := C) (A := B) (ns := lensW ws) hh (by
                  intro e
                  have : ws = [] := List.map_eq_nil_iff.mp e
                  rw [this] at k1; cases k1)
                rw [hmost] at hmx
                refine Ev.max T rfl (Evs.cons Evs.nil ?_) hmx
                rw [show (lensW ws).map int = ws.map fun w => int (w.length : Nat) by simp [lensW]]
                refine Ev.mapX (st' := []) ws (fun w => str (sOf w)) (fun w => int (w.length : Nat)) (It.list hh (Ev.name rfl)) rfl rfl (by decide +kernel) (.inl fun _ _ => rfl) Caps.nil (by rw [sizeLine_eq]; omega) fun L w hw => ?_
                have := hwl w hw
                exact Ev.len T rfl (Evs.cons Evs.nil (Ev.name rfl)) (Cl.lenW (by omega))
              -- digits = [0] * most + [1]
              refine Ex.step (Ex1.assignOwn (ps := (List.replicate most.toNat (0 : Int) ++ [1]).map int) ?_ (.inl rfl)) ?_
              · rw [List.map_append, ← flat_rep]
                refine Nw.bin (Ev.bin (Ev.list (Evs.cons Evs.nil Ev.cint)) (Ev.name rfl) (Bin.mulL (by omega) (by omega) (by simp only [List.length_cons, List.length_nil]; omega))) (Ev.list (ps := [int 1]) (Evs.cons Evs.nil Ev.cint)) (BinN.addL ?_)
                rw [flat_rep, List.length_map, List.length_replicate, sizeLine_eq]; simp only [List.length_cons, List.length_nil]; omega
              refine Ex.plain (x := Str.ofString "digits") (pl := true) (ps := (List.replicate most.toNat (0 : Int) ++ [1]).map int) rfl ?_
              generalize hds : List.replicate most.toNat (0 : Int) ++ [1] = ds0
              have hl0 : ds0.length = most.toNat + 1 := by rw [← hds]; simp
              -- for word in words
              refine' Ex.stepS (Ex1.forS (items := ws.map fun w => str (sOf w)) (ns := [Str.ofString "size", Str.ofString "width", Str.ofString "most", Str.ofString "digits"])
                (fun i => [(Str.ofString "size", .fix (int size)), (Str.ofString "width", .fix (int width)), (Str.ofString "most", .fix (int most)), (Str.ofString "digits", .own false (((ws.take i).foldl (stepK most) ds0).map int))]) ?it (.inl rfl) (fun _ => rfl) (by decide)
                (.cons rfl (.cons rfl (.cons rfl (.cons rfl .nil)))) ?turn) ?rest
              case it => exact It.list hh (Ev.name rfl)
              case turn =>
                intro i P hP
                obtain ⟨w, hw, rfl⟩ := map_get hP
                have hwl' := hwl w (List.mem_of_getElem? hw)
                rw [take_snoc hw, List.foldl_append]
                have hl1 : ((ws.take i).foldl (stepK most) ds0).length = most.toNat + 1 := by rw [stepK_len, hl0]
                generalize (ws.take i).foldl (stepK most) ds0 = acc at hl1
                have hget : (acc.map int)[(most - w.length).toNat]? = some (int (acc.getD (most - w.length).toNat 0)) := by
                  rw [List.getElem?_map, List.getD_eq_getElem?_getD, List.getElem?_eq_getElem (by omega)]; rfl
                refine Ex.step (Ex1.setItem (ps := acc.map int) (pl := false) (k := most - w.length) (P := int (acc.getD (most - w.length).toNat 0 - 1)) rfl
                  (SEv.flat (Ev.bin (Ev.sub (P := lst (acc.map int)) (Ev.name rfl) (Ev.bin (Ev.name rfl) (Ev.len T rfl (Evs.cons Evs.nil (Ev.name rfl)) (Cl.lenW (by omega))) Bin.sub) (Sb.get (by omega) (by omega) hget)) Ev.cint Bin.sub) Flat.int)
                  (SEv.fix (Ev.bin (Ev.name rfl) (Ev.len T rfl (Evs.cons Evs.nil (Ev.name rfl)) (Cl.lenW (by omega))) Bin.sub)) (by omega) (by rw [List.length_map]; omega) (by omega)) (Ex.nil (.cons rfl (.cons rfl (.cons rfl (.cons ?_ .nil)))))
                show some _ = some _
                simp only [List.foldl_cons, List.foldl_nil, stepK, List.map_set]
              case rest =>
                have e : ws.take (ws.map fun w => str (sOf w)).length = ws := by rw [List.length_map]; exact List.take_length
                rw [e]
                have hdd : ws.foldl (stepK most) ds0 = digitsF ws := by unfold digitsF; rw [hmost, hds]
                rw [hdd]
                have hdl : (digitsF ws).length ≤ 1000 := by rw [← hdd, stepK_len, hl0]; omega
                refine Ex.freeze (x := Str.ofString "digits") rfl ?_
                refine Ex.step (Ex1.assign (P := int q) (SEv.fix ?_) (.inl rfl)) ?_
                · refine Ev.sub (Ev.fn hf6 rfl rfl (Evs.cons (Evs.cons Evs.nil (Ev.fn hf5.to rfl rfl (Evs.cons (Evs.cons Evs.nil (Ev.name rfl)) (Ev.name rfl)) (d2i_ok T hf5 hT5 (hA'.le (by decide)) (digitsF ws) width d hd hdl))) (Ev.bin Ev.cint (Ev.bin (Ev.name rfl) (Ev.bin (Ev.name rfl) (Ev.name rfl) Bin.add) (Bin.mul (IntMulOk.of_left k6))) (Bin.pow k7 k8))) (dm_ok T hf6 hf2 hf4 hT4 hf5 hT5 hA' _ d q rr hq)) Ev.cint (Sb.tupGet (j := 0) (by decide) (by decide) rfl rfl)
                · refine Ex.ret (SEv.fix ?_) rfl
                  rw [show nums l.reverse = lst (pick (l.map int) none none (some (-1))) by rw [pick_map, pick_rev]]
                  exact Ev.sub (Ev.fn hf4.to rfl rfl (Evs.cons (Evs.cons Evs.nil (Ev.name rfl)) (Ev.name rfl)) (i2d_ok T hf4 hT4 (hA'.le (by decide)) q width l hi)) (Ev.slice EvP.none EvP.none (EvP.some (Ev.neg Ev.cint))) (Sb.slice (by decide) (by rw [List.length_map, sizeLine_eq]; omega))
          · cases hr
  · cases hr
end Mine
end
/-! # part M19 -/
section
open PySem PySem.W PySem.Calls PyProof.Rows PySem.SeqAt
open AutoSeq1 (wpAny_loadPart')
open MeetsSeq MeetsSeq2 MeetsSeq3 SeqRoads2
set_option Elab.async false
set_option maxRecDepth 100000
set_option linter.unusedVariables false
namespace Mine
/-- the order of lists of ints -/
noncomputable def ltL : List Int → List Int → Bool
  | [], [] => false
  | [], _ :: _ => true
  | _ :: _, [] => false
  | x :: xs, y :: ys => if x == y then ltL xs ys else decide (x < y)
noncomputable def IntAt (xs : List Int) (items : Array Value) : Prop := items.size = xs.length ∧ ∀ j (h : j < items.size), ∃ t, items[j] = .int (xs.getD j 0) t
theorem IntAt.of {fz : Fz} {xs : List Int} {vs : Array Value} (h : All2 fz (xs.map int) vs.toList) : IntAt xs vs :=
  ⟨by rw [← Array.length_toList, ← h.length, List.length_map], fun j hj => ints_get h (Array.getElem?_eq_getElem hj)⟩
theorem drop_getD {xs : List Int} {i : Nat} (h : i < xs.length) : xs.drop i = xs.getD i 0 :: xs.drop (i + 1) := by
  rw [List.drop_eq_getElem_cons h, List.getD_eq_getElem?_getD, List.getElem?_eq_getElem h]; rfl
theorem lt_loopAt (l b : Addr) (xs ys : List Int) (items items2 : Array Value) (n n2 : Nat) (dd dd2 : Option Addr) (sl sl2 : Array (Option Value)) (hx : IntAt xs items) (hy : IntAt ys items2) (k : Nat) :
    ∀ i : Nat, items.size - i = k → i ≤ items.size → i ≤ items2.size → Meets (Builtin.«list.__eq__.loop» ⟨[.ref l, .ref b, rawInt i, rawInt 0], []⟩)
      (fun A R s => s.heap.get? l = some { cls := .type "list", dict := dd, data := .seq items n, slots := sl } ∧ s.heap.get? b = some { cls := .type "list", dict := dd2, data := .seq items2 n2, slots := sl2 } ∧
        R (.ok (.ret (.bool (ltL (xs.drop i) (ys.drop i))))) s) := by
  induction k with
  | zero =>
    intro i hk h1 h2 prog w A R s h
    obtain ⟨hp, g, d, tk, os⟩ := s; obtain ⟨hl, hb, h⟩ := h
    wp_walk using wpAny_loadPart' hl, wpAny_loadPart' hb
    have hi1 : items[((i : Nat) : Int).toNat]? = none := by simp; omega
    rw [hi1]
    wp_walk using wpAny_loadPart' hl, wpAny_loadPart' hb
    show R (.ok (.ret (.bool (decide (items.size < items2.size))))) _
    have e1 : xs.drop i = [] := by rw [List.drop_eq_nil_iff, ← hx.1]; omega
    have e2 : ltL (xs.drop i) (ys.drop i) = decide (items.size < items2.size) := by
      rw [e1]
      by_cases hlt : i < items2.size
      · rw [drop_getD (by rw [← hy.1]; exact hlt)]
        show true = _
        exact (decide_eq_true (by omega)).symm
      · rw [show ys.drop i = [] by rw [List.drop_eq_nil_iff, ← hy.1]; omega]
        show false = _
        exact (decide_eq_false (by omega)).symm
    rw [← e2]
    exact h
  | succ k ih =>
    intro i hk h1 h2 prog w A R s h
    obtain ⟨hp, g, d, tk, os⟩ := s; obtain ⟨hl, hb, h⟩ := h
    have hlt : i < items.size := by omega
    have hi1 : items[((i : Nat) : Int).toNat]? = some items[i] := by simp [hlt]
    have e1 := drop_getD (xs := xs) (i := i) (by rw [← hx.1]; exact hlt)
    by_cases hlt2 : i < items2.size
    · have hi2 : items2[((i : Nat) : Int).toNat]? = some items2[i] := by simp [hlt2]
      have e2 := drop_getD (xs := ys) (i := i) (by rw [← hy.1]; exact hlt2)
      have hc : ((i : Int) + 1) = ((i + 1 : Nat) : Int) := by push_cast; rfl
      obtain ⟨t, ht⟩ := hx.2 i hlt
      obtain ⟨u, hu⟩ := hy.2 i hlt2
      wp_walk using wpAny_loadPart' hl, wpAny_loadPart' hb
      rw [hi1, hi2]
      rw [e1, e2] at h
      rw [ltL] at h
      have he : EqAt A.in1 ⟨hp, g, d, tk, os⟩ items[i] items2[i] (xs.getD i 0 == ys.getD i 0) := by rw [ht, hu]; exact EqAt.int_int _ _ _ _
      refine wpAny_bind (he prog w _ _ ?_)
      cases hb' : xs.getD i 0 == ys.getD i 0 with
      | true =>
        rw [hb', if_pos rfl] at h
        wp_walk
        rw [hc]
        exact ⟨plainId_quiet plain_eq_loop _, codeAny_builtin entry_eq_loop (by
          rw [Around.under_plainId plain_eq_loop _]
          exact ih (i + 1) (by omega) hlt hlt2 prog w A R _ ⟨hl, hb, h⟩)⟩
      | false =>
        rw [hb', if_neg (by decide)] at h
        wp_walk using wpAny_loadPart' hl, wpAny_loadPart' hb
        rw [hi1, hi2, ht, hu]
        refine wpAny_bind ?_
        show wpAny _ _ (compareOp .Lt (.int (xs.getD i 0) t) (.int (ys.getD i 0) u)) _ _ _
        refine PyProof.Rows.lt_int ?_
        exact wpAny_pure h
    · have hi2 : items2[((i : Nat) : Int).toNat]? = none := by simp; omega
      wp_walk using wpAny_loadPart' hl, wpAny_loadPart' hb
      rw [hi1, hi2]
      wp_walk using wpAny_loadPart' hl, wpAny_loadPart' hb
      show R (.ok (.ret (.bool (decide (items.size < items2.size))))) _
      have e3 : ltL (xs.drop i) (ys.drop i) = decide (items.size < items2.size) := by
        rw [e1, show ys.drop i = [] by rw [List.drop_eq_nil_iff, ← hy.1]; omega]
        show false = _
        exact (decide_eq_false (by omega)).symm
      rw [← e3]
      exact h
theorem list_ltAt (l b : Addr) (xs ys : List Int) (items items2 : Array Value) (n n2 : Nat) (dd dd2 : Option Addr) (sl sl2 : Array (Option Value)) (hx : IntAt xs items) (hy : IntAt ys items2) :
    Meets (Builtin.«list.__lt__» ⟨[.ref l, .ref b], []⟩)
      (fun A R s => s.heap.get? l = some { cls := .type "list", dict := dd, data := .seq items n, slots := sl } ∧ s.heap.get? b = some { cls := .type "list", dict := dd2, data := .seq items2 n2, slots := sl2 } ∧
        R (.ok (.ret (.bool (ltL xs ys)))) s) := by
  intro prog w A R s h
  obtain ⟨hp, g, d, tk, os⟩ := s; obtain ⟨hl, hb, h⟩ := h
  have f3 := AutoSeq1.sub_list_list
  wp_walk using wpAny_loadPart' hl, wpAny_loadPart' hb
  exact ⟨plainId_quiet plain_eq_loop _, codeAny_builtin entry_eq_loop (by
    rw [Around.under_plainId plain_eq_loop _]
    exact lt_loopAt l b xs ys items items2 n n2 dd dd2 sl sl2 hx hy _ 0 rfl (Nat.zero_le _) (Nat.zero_le _) prog w A R _ ⟨hl, hb, h⟩)⟩
section
variable {C : Cx} {A : Around} {fz : Fz} {s : Shared}
/-- a key that is a list of ints is asked -/
theorem key_lt {xs ys : List Int} {v w : Value} {Q : Bool → Shared → Prop} {E} (hu : A.units < cLine) (W : Wf C fz s) (hx : (lst (xs.map int)).p fz v) (hy : (lst (ys.map int)).p fz w) (h : Q (ltL xs ys) s) :
    wpAny (M C) A (keyLt' oneType' v w) Q E s := by
  obtain ⟨a, ⟨cls, dd, data, sl⟩, vs, n, rfl, e2, e3, e4, e5⟩ := hx
  obtain ⟨b, ⟨cls2, dd2, data2, sl2⟩, ws, n', rfl, f2, f3, f4, f5⟩ := hy
  simp only at e3 e4 f3 f4
  subst e3 e4 f3 f4
  have h1 := W.le _ _ e2
  have h2 := W.le _ _ f2
  rw [keyLt'_oneType, oneLt'_eq]
  simp only [if_true]
  refine wpAny_bind (wpAny_cRoomFor hu ?_)
  refine wpAny_bind (wpAny_callSpecialIfBound?_slot (T := "list") ⟨_, h1, rfl⟩ PySem.F.slot_list_lt (call_meets PySem.F.slot_list_lt (T := "list") ⟨_, h1, rfl⟩ PySem.F.entry_list_lt (PySem.F.args_list_lt_2 _ _)
    (list_ltAt a b xs ys vs ws n n' dd dd2 sl sl2 (IntAt.of e5) (IntAt.of f5)) ⟨h1, h2, ?_⟩))
  exact wpAny_truthy_bool h
end
end Mine
end
/-! # part M20 -/
section
open PySem PySem.W PySem.Calls PyProof.Rows PySem.SeqAt
set_option Elab.async false
set_option maxRecDepth 100000
set_option linter.unusedVariables false
namespace Mine
/-! ## sorted of a list of lists of ints that ascends -/
section
variable {cmp : Nat → Nat → (Bool → Shared → Prop) → Shared → Prop} {s : Shared}
theorem range_getD {n i : Nat} (h : i < n) : (List.toArray (List.range n)).getD i 0 = i := by simp [Array.getD, h]
theorem asc_up {n : Nat} (hc : ∀ k, 1 ≤ k → k < n → ∀ K : Bool → Shared → Prop, K false s → cmp k (k - 1) K s) : ∀ (f k : Nat) (Q : Nat → Shared → Prop), 1 ≤ k → k + f ≤ n → Q (k + f) s → (kas_asc (List.toArray (List.range n)) f k).kasWp cmp Q s
  | 0, k, Q, _, _, h => h
  | f + 1, k, Q, h1, h2, h => by
    show cmp _ _ _ s
    rw [range_getD (by omega), range_getD (by omega)]
    refine hc k h1 (by omega) _ ?_
    show (kas_asc (List.toArray (List.range n)) f (k + 1)).kasWp cmp Q s
    exact asc_up hc f (k + 1) Q (by omega) (by omega) (by rw [show k + 1 + f = k + (f + 1) by omega]; exact h)
theorem sort_up {n : Nat} (hn : 2 ≤ n) (hc : ∀ k, 1 ≤ k → k < n → ∀ K : Bool → Shared → Prop, K false s → cmp k (k - 1) K s) {Q : Array Nat → Shared → Prop} (h : Q (List.toArray (List.range n)) s) : (kas_sort n).kasWp cmp Q s := by
  unfold kas_sort kas_count
  rw [KasT.kasWp_bind, KasT.kasWp_bind]
  refine asc_up hc _ _ _ (Nat.le_refl _) (by omega) ?_
  rw [show 1 + (n - 1) = n by omega, if_pos (by simp)]
  show (if n < n then _ else KasT.ret (List.toArray (List.range n))).kasWp cmp Q s
  rw [if_neg (Nat.lt_irrefl n)]
  exact h
end
section
variable {C : Cx} {A : Around} {fz : Fz} {s : Shared}
theorem range_pick (vs : List Value) : (List.toArray (List.range vs.length)).toList.map (fun i => vs.getD i Value.none) = vs := by
  refine List.ext_getElem (by simp) fun i h1 h2 => ?_
  simp [h2]
theorem list_sort_up {a : Addr} {vs : List Value} {xss : List (List Int)} {n : Nat} {P : PySem.Fin → Shared → Prop} {E} (hu : A.units < cLine) (W : Wf C fz s) (ho : s.heap.get? a = some (seqObj "list" vs.toArray n)) (hf : fz a = none)
    (hv : All2 fz (intss xss) vs) (h64 : xss.length < 64) (hup : ∀ k, 1 ≤ k → k < xss.length → ltL (xss.getD k []) (xss.getD (k - 1) []) = false)
    (h : ∀ h' n', (∀ b o, b ≠ a → s.heap.get? b = some o → h'.get? b = some o) → h'.get? a = some (seqObj "list" vs.toArray n') → P (.done (.ret .none)) { s with heap := h' }) :
    wpAny (M C) A (Builtin.«list.sort» ⟨[.ref a], []⟩) P E s := by
  have ha : a < s.heap.objs.size := Heap.lt_size ho
  have hlen : vs.length = xss.length := by rw [← hv.length]; simp [intss]
  obtain ⟨t1, t2⟩ := W.seq_ne ho rfl
  have s1 := Heap.SameBut.update s.heap a (Obj.mapSeq fun _ => (#[] : Array Value))
  obtain ⟨e1, ho1⟩ : ∃ e1, (s.heap.update a (Obj.mapSeq fun _ => (#[] : Array Value))).get? a = some (seqObj "list" #[] e1) := ⟨_, get?_update_seq ho fun _ => #[]⟩
  have W1 := W.set (tk := s.toks) s1 hf t1 t2
  have kp : ∀ b o, (s.heap.update a (Obj.mapSeq fun _ => (#[] : Array Value))).get? b = some o → (((s.heap.update a (Obj.mapSeq fun _ => (#[] : Array Value))).push (seqObj "tuple" vs.toArray 0)).push (seqObj "list" #[] 0)).get? b = some o := fun b o e => Heap.get?_push_of_some _ (Heap.get?_push_of_some _ e)
  have W2 := (Grow.keep (tk := s.toks) W1 kp).wf
  have ho2 := kp _ _ ho1
  rw [list_sort_plain]
  refine wpAny_bind (listItems_at ho rfl ?_)
  refine wpAny_bind (listUpdate_at ho rfl ?_ (by rw [List.size_toArray, sizeLine_eq]; omega) (Nat.zero_le _))
  refine wpAny_bind (seqEpoch_at ho1 rfl ?_)
  refine wpAny_bind (wpAny_newTuple ?_ (by show vs.length ≤ _; rw [sizeLine_eq]; omega))
  refine wpAny_bind (wpAny_newList ?_ (Nat.zero_le _))
  refine wpAny_holding ?_
  show wpAny (M C) A _ P E { s with heap := ((s.heap.update a (Obj.mapSeq fun _ => (#[] : Array Value))).push (seqObj "tuple" vs.toArray 0)).push (seqObj "list" #[] 0) }
  generalize hH : ((s.heap.update a (Obj.mapSeq fun _ => (#[] : Array Value))).push (seqObj "tuple" vs.toArray 0)).push (seqObj "list" #[] 0) = H at W2 ho2 kp
  have old : ∀ b o, b ≠ a → s.heap.get? b = some o → H.get? b = some o := fun b o hb e => kp b o ((s1.2 b hb).trans e)
  -- the end: the items are laid back
  have fin : ∀ out : Array Value, out = vs.toArray → P (.done (.ret .none)) { s with heap := H.update a (Obj.mapSeq fun _ => out) } := fun out e => by
    subst e
    obtain ⟨c2, hc2⟩ : ∃ c2, (H.update a (Obj.mapSeq fun _ => vs.toArray)).get? a = some (seqObj "list" vs.toArray c2) := ⟨_, get?_update_seq ho2 fun _ => vs.toArray⟩
    exact h _ c2 (fun b o hb e => ((Heap.SameBut.update H a _).2 b hb).trans (old b o hb e)) hc2
  dsimp only
  by_cases h2 : vs.toArray.size < 2
  · rw [if_pos h2, if_pos h2]
    refine wpAny_bind (wpAny_pure ?_)
    rw [StateT.run_pure]
    refine wpAny_bind (wpAny_pure ?_)
    dsimp only
    have hout : (arrOf (SortSt.mk' general' (vs.toArray.zip vs.toArray) #[] 7 none)).map (·.2) = vs.toArray := by
      show ((vs.toArray.zip vs.toArray).map (·.2)) = _
      apply Array.toList_inj.mp
      simp [List.map_snd_zip]
    refine wpAny_bind (seqEpoch_at ho2 rfl ?_)
    refine wpAny_bind (listUpdate_at ho2 rfl ?_ (Nat.zero_le _) (hsz2 := by rw [hout, List.size_toArray, sizeLine_eq]; omega))
    simp only [bne_self_eq_false, Bool.false_eq_true, if_false]
    exact wpAny_pure (fin _ hout)
  · rw [if_neg h2, if_neg h2]
    have h2' : 2 ≤ vs.length := by rw [List.size_toArray] at h2; omega
    have htype : ∀ v ∈ vs, Looks (M C) H (typeOf v) (Value.type "list") := fun v hv' => by
      obtain ⟨i, hi, rfl⟩ := List.getElem_of_mem hv'
      have := intss_get (vs := vs.toArray) (by simpa using hv) (i := i) (v := vs[i]) (by simp [hi])
      obtain ⟨b, o, us, m, e, e2, e3, e4, _⟩ := this
      rw [e]
      exact e3 ▸ (show Looks (M C) H (typeOf (.ref b)) o.cls from (Looks.ld (W2.le _ _ e2)).andThen .now)
    refine wpAny_bind (kas_kind h2' htype (by decide) (by decide) ?_)
    have est : SortSt.mk' oneType' (vs.toArray.zip vs.toArray) #[] 7 none = kas_st oneType' (pairsOf vs) (List.toArray (List.range vs.length)) := by
      have e := kas_range (pairsOf vs)
      rw [pairsOf_size] at e
      show SortSt.mk' oneType' (pairsOf vs) #[] 7 none = SortSt.mk' oneType' ((List.toArray (List.range vs.length)).map (kas_item (pairsOf vs))) #[] 7 none
      rw [e]
    have run := kas_runs (E := E) (prog := PySem.Challenge.pw_pe0133_01) (w := C.w) (A := A) (κ := oneType') (it := pairsOf vs) (Q := fun _ st' s' => s' = { s with heap := H } ∧ arrOf st' = pairsOf vs ∧ failedOf st' = none) (G := fun p s' => s' = { s with heap := H } ∧ p = List.toArray (List.range vs.length)) (s := { s with heap := H })
      h2' (by omega) (fun p' st' s' a1 a2 a3 a4 => ⟨a4.1, by
        rw [a2, a4.2]
        have e := kas_range (pairsOf vs)
        rwa [pairsOf_size] at e, a3⟩) (sort_up h2' (fun k k1 kn K hK => ?_) ⟨rfl, rfl⟩)
    · rw [← est] at run
      refine wpAny_bind (wpAny_mono run ?_ fun _ _ e => e)
      rintro ⟨⟨⟩, st'⟩ s' ⟨rfl, har, hfl⟩
      dsimp only
      have hout : (arrOf st').map (·.2) = vs.toArray := by
        rw [har]
        apply Array.toList_inj.mp
        simp [pairsOf, List.map_snd_zip]
      refine wpAny_bind (seqEpoch_at ho2 rfl ?_)
      refine wpAny_bind (listUpdate_at ho2 rfl ?_ (Nat.zero_le _) (by rw [hout, List.size_toArray, sizeLine_eq]; omega))
      rw [hfl]
      simp only [bne_self_eq_false, Bool.false_eq_true, if_false]
      exact wpAny_pure (fin _ hout)
    · unfold kas_cmp
      rw [kas_item_eq, kas_item_eq]
      have g1 := intss_get (vs := vs.toArray) (by simpa using hv) (i := k) (v := vs.getD k Value.none) (by simp [kn])
      have g2 := intss_get (vs := vs.toArray) (by simpa using hv) (i := k - 1) (v := vs.getD (k - 1) Value.none) (by simp [show k - 1 < vs.length by omega])
      refine key_lt hu W2 g1 g2 ?_
      rw [hup k k1 (by omega)]
      exact hK
theorem Cl.sortedUp {xss : List (List Int)} (hu : A.units + 2 < cLine) (h64 : xss.length < 64) (hup : ∀ k, 1 ≤ k → k < xss.length → ltL (xss.getD k []) (xss.getD (k - 1) []) = false) :
    Cl C A (.builtin "sorted") [lst (intss xss)] (lst (intss xss)) := fun fz s vs W h2 => by
  obtain ⟨v, rfl, h1⟩ := h2.one
  obtain ⟨l, us, rfl, hl, ha, _⟩ := seq_list W h1
  have hlen : us.toList.length = xss.length := by rw [← ha.length]; simp [intss]
  generalize hus : us.toList = vs at ha hlen
  have hl' : s.heap.IsList l vs.toArray := by rw [← hus, Array.toArray_toList]; exact hl
  refine Calls.call_function_entry kind_sorted plain_sorted entry_sorted (args_sorted1 _) ?_
  unfold Builtin.«sorted»
  refine wpAny_bind (m := checkCount "sorted" 1 1 _) (wpAny_pure ?_)
  refine wpAny_bind (collect_list hl' ?_ (by rw [sizeLine_eq]; omega))
  refine wpAny_bind (wpAny_newList ?_ (by rw [sizeLine_eq]; omega))
  have hsz : ((s.heap.push (seqObj "list" #[] 0)).update s.heap.objs.size (Obj.mapSeq (· ++ vs.toArray))).objs.size = s.heap.objs.size + 1 := by
    rw [Heap.size_update, size_push']
  have hoL : (((s.heap.push (seqObj "list" #[] 0)).update s.heap.objs.size (Obj.mapSeq (· ++ vs.toArray))).push (seqObj "list" vs.toArray 0)).get? (s.heap.objs.size + 1) = some (seqObj "list" vs.toArray 0) := by
    rw [← hsz]; exact Heap.get?_push_size _ rfl
  have keep : ∀ b o, s.heap.get? b = some o → (((s.heap.push (seqObj "list" #[] 0)).update s.heap.objs.size (Obj.mapSeq (· ++ vs.toArray))).push (seqObj "list" vs.toArray 0)).get? b = some o := fun b o q => by
    have hlt : b < s.heap.objs.size := Heap.lt_size q
    rw [Heap.get?_push_ne _ _ _ (by rw [hsz]; exact Nat.ne_of_lt (Nat.lt_succ_of_lt hlt)), Heap.get?_update_ne _ _ _ _ (Nat.ne_of_lt hlt), Heap.get?_push_ne _ _ _ (Nat.ne_of_lt hlt)]
    exact q
  show wpAny _ _ _ _ _ { s with heap := ((s.heap.push (seqObj "list" #[] 0)).update s.heap.objs.size (Obj.mapSeq (· ++ vs.toArray))).push (seqObj "list" vs.toArray 0) }
  rw [hsz]
  generalize ((s.heap.push (seqObj "list" #[] 0)).update s.heap.objs.size (Obj.mapSeq (· ++ vs.toArray))).push (seqObj "list" vs.toArray 0) = H at hoL keep
  have hnew : s.heap.get? (s.heap.objs.size + 1) = none := Heap.get?_none_of_le (Nat.le_succ _)
  have G1 := Grow.keep (tk := s.toks) W keep
  have hf : fz (s.heap.objs.size + 1) = none := by
    cases q : fz (s.heap.objs.size + 1) with
    | none => rfl
    | some o => have := W.le _ _ q; rw [hnew] at this; cases this
  refine wpAny_bind (wpAny_holding (wpAny_call_entry slot_list_sort ⟨_, hoL, rfl⟩ entry_list_sort (list_sort_up (a := s.heap.objs.size + 1) (A := A.in1.in1) (by show A.units + 1 + 1 < cLine; omega) G1.wf hoL hf ha h64 hup (fun h' n' hk hg => ⟨_, rfl, wpAny_pure ⟨_, rfl, ?_⟩⟩)) (args_list_sort _)))
  have kp : ∀ b o, s.heap.get? b = some o → h'.get? b = some o := fun b o e => hk b o (by rintro rfl; rw [hnew] at e; cases e) (keep b o e)
  have G := Grow.fresh (tk := s.toks) W kp hnew hg
  exact ⟨_, G, _, _, vs.toArray, n', rfl, fadd_self, rfl, rfl, by simpa using ha.mono (G.le W)⟩
end
end Mine
end
/-! # part M21 -/
section
open PySem PySem.W PySem.Calls PyProof.Rows PySem.SeqAt
set_option Elab.async false
set_option maxRecDepth 100000
set_option linter.unusedVariables false
namespace Mine
/-! ## a comprehension with two clauses -/
noncomputable abbrev two (elt : Expr) (x y : Str) (px py : Pos) (iter iter2 : Expr) (scope : Scope) (pos : Pos) : Expr := .ListComp elt [⟨.Name x px, iter, [], 0⟩, ⟨.Name y py, iter2, [], 0⟩] scope pos
theorem turn_two (elt : Expr) (x y : Str) (px py : Pos) (iter iter2 : Expr) (scope : Scope) (pos : Pos) (it acc : Value) (env : Env) :
    compTurn (two elt x y px py iter iter2 scope pos) 0 it acc env = (do
      standAt iter.pos
      match ← pyNext it with
      | none => pure (.done .next)
      | some v =>
        letOwnedTupleGo (.Name x px) it v
        assign (.Name x px) env v
        let mut ok := true
        for c in ([] : List Expr) do
          if ok then ok ← isTrue c env (eval c env)
        if ok then
          let xv ← eval iter2 env
          standAt iter2.pos
          let xv ← foldedSetIterable iter2 env xv
          let _ ← runOwn (.compStart (two elt x y px py iter iter2 scope pos) 1 (← holding [xv] (pyIter xv)) acc env) env
        again (.compLoop (two elt x y px py iter iter2 scope pos) 0 it acc env)) := by rfl
theorem turn_in (elt : Expr) (x y : Str) (px py : Pos) (iter iter2 : Expr) (scope : Scope) (pos : Pos) (it acc : Value) (env : Env) :
    compTurn (two elt x y px py iter iter2 scope pos) 1 it acc env = (do
      standAt iter2.pos
      match ← pyNext it with
      | none => pure (.done .next)
      | some v =>
        letOwnedTupleGo (.Name y py) it v
        assign (.Name y py) env v
        let mut ok := true
        for c in ([] : List Expr) do
          if ok then ok ← isTrue c env (eval c env)
        if ok then
          (do let _ ← call (.builtin "list.append") [acc, ← eval elt env])
        again (.compLoop (two elt x y px py iter iter2 scope pos) 1 it acc env)) := by rfl
section
variable {C : Cx} {A : Around} {env : Env} {st : List (Str × Pd)} {s : Shared} {R : Result → Shared → Prop}
theorem start_in {elt : Expr} {x y : Str} {px py : Pos} {iter iter2 : Expr} {scope : Scope} {pos : Pos} {it acc : Value}
    (h0 : codeAny (M C) A (.compLoop (two elt x y px py iter iter2 scope pos) 1 it acc env) R s)
    (h : wpAny (M C) A (pyIter it) (fun it' s' => codeAny (M C) A (.compLoop (two elt x y px py iter iter2 scope pos) 1 it' acc env) R s') (notedBy (M C) A env fun x s' => R (.error x) s') s) :
    codeAny (M C) A (.compStart (two elt x y px py iter iter2 scope pos) 1 it acc env) R s := by
  refine codeAny_of_tree ?_
  show wpAny _ _ ((compStart (two elt x y px py iter iter2 scope pos) 1 it acc env).onRaise (fun x => do noteFrame x env; standAt theWindowsPlace)) _ _ s
  refine wpAny_notedAt ?_
  unfold compStart
  show wpAny _ _ (ask >>= _) _ _ s
  refine wpAny_bind (wpAny_askSetting (wpAny_ite ?_))
  split
  · first
      | exact wpAny_bind (wpAny_pure (wpAny_pure (And.intro rfl h0)))
      | exact wpAny_pure (And.intro rfl h0)
  · first
      | exact wpAny_bind (wpAny_rule (wpAny_bind (wpAny_standAt (wpAny_bind (wpAny_mono h (fun it' s' h' => wpAny_pure (And.intro rfl h')) fun _ _ x => x)))))
      | (refine wpAny_bind (wpAny_rule ?_); show wpAny _ _ (standAt iter2.pos >>= _) _ _ s; exact wpAny_bind (wpAny_standAt (wpAny_bind (wpAny_mono h (fun it' s' h' => wpAny_pure (And.intro rfl h')) fun _ _ x => x))))
theorem loop_two {elt : Expr} {x y : Str} {px py : Pos} {iter iter2 : Expr} {scope : Scope} {pos : Pos} {it acc : Value} {cenv : Env} (I : Nat → Shared → Prop)
    (hs : ∀ v, foldedSetIterable iter2 cenv v = pure v)
    (turn : ∀ n s, I n s → wpAny (M C) A (pyNext it) (fun r s₁ => match r with
      | none => R (.ok .next) s₁
      | some v => wpAny (M C) A (assign (.Name x px) cenv v) (fun _ s₂ => wpAny (M C) A (eval iter2 cenv) (fun xv s₃ => wpAny (M C) A (pyIter xv) (fun it2 s₄ =>
          codeAny (M C) A (.compStart (two elt x y px py iter iter2 scope pos) 1 it2 acc cenv) (fun r s₅ => r = .ok .next ∧ ∃ m, m < n ∧ I m s₅) s₄) NoE s₃) NoE s₂) NoE s₁) NoE s)
    (n : Nat) (h : I n s) : codeAny (M C) A (.compLoop (two elt x y px py iter iter2 scope pos) 0 it acc cenv) R s := by
  refine codeAny_loop rfl I (fun n s hI => ?_) n h
  show wpAny _ A ((compTurn (two elt x y px py iter iter2 scope pos) 0 it acc cenv).onRaise (fun x => do noteFrame x cenv; theTreesLotGoes x)) _ _ s
  refine wpAny_noted ?_
  rw [turn_two]
  refine wpAny_bind (wpAny_standAt (wpAny_bind (wpAny_mono (turn n s hI) (fun r s₁ h₁ => ?_) fun _ _ h' => h'.elim)))
  cases r with
  | none => exact wpAny_pure h₁
  | some v =>
    refine wpAny_bind (wpAny_of_eq (show letOwnedTupleGo (.Name x px) it v = pure () by rfl) ?_)
    refine wpAny_bind (wpAny_mono h₁ (fun _ s₂ h₂ => wpAny_bind (wpAny_mono (wpAny_tests_nil (Q := fun ok s₃ => ok = true ∧ s₃ = s₂) ⟨rfl, rfl⟩) (fun ok s₃ h₃ => ?_) fun _ _ h' => h')) fun _ _ h' => h'.elim)
    obtain ⟨rfl, rfl⟩ := h₃
    refine wpAny_bind (wpAny_mono h₂ (fun xv s₄ h₄ => ?_) fun _ _ h' => h'.elim)
    refine wpAny_bind (wpAny_standAt (wpAny_bind (wpAny_of_eq (hs xv) ?_)))
    refine wpAny_bind (wpAny_holding (wpAny_mono h₄ (fun it2 s₅ h₅ => ?_) fun _ _ h' => h'.elim))
    refine wpAny_bind (wpAny_runOwn (codeAny_mono h₅ fun r s₆ ⟨e, h₆⟩ => ?_))
    subst e
    exact wpAny_pure ⟨rfl, h₆⟩
end
end Mine
end
/-! # part M22 -/
section
open PySem PySem.W PySem.Calls PyProof.Rows PySem.SeqAt
set_option Elab.async false
set_option maxRecDepth 100000
set_option linter.unusedVariables false
namespace Mine
section
variable {C : Cx} {A : Around} {env : Env} {st : List (Str × Pd)}
/-- what the two loops give, up to the outer one's i -/
noncomputable def outs (items2 : Nat → List Pd) (Q : Nat → Nat → Pd) (i : Nat) : List Pd := (List.range i).flatMap fun k => (List.range (items2 k).length).map (Q k)
theorem outs_succ (items2 : Nat → List Pd) (Q : Nat → Nat → Pd) (i : Nat) : outs items2 Q (i + 1) = outs items2 Q i ++ (List.range (items2 i).length).map (Q i) := by
  unfold outs
  rw [List.range_succ, List.flatMap_append]
  simp
theorem Cs.other {cenv : Env} {D : Addr} {x y : Str} {f : Fz} {qs : List Pd} {s : Shared} (X : Cs C cenv D x f qs s) (hy : cenv.kindOf y = some .local) : Cs C cenv D y f qs s := ⟨X.acc, X.accf, X.ns, X.nsf, .inl hy⟩
theorem loop_outer {elt iter iter2 : Expr} {x y : Str} {px py : Pos} {scope : Scope} {pos : Pos} {cl : List (Str × Addr)} {L D : Addr} {fz f₂ : Fz} {s s₂ : Shared} {I : Addr} {fp wr : List Addr} {items : List Pd} {St : Nat → Heap → Prop}
    {st' : List (Str × Pd)} {items2 : Nat → List Pd} {Q : Nat → Nat → Pd} {m : Nat} {R : Result → Shared → Prop}
    (hs2 : ∀ v, foldedSetIterable iter2 (cEnv scope cl L env) v = pure v)
    (hk : scope.kind = .function) (hcap : Caps env scope cl st st') (hxl : (cEnv scope cl L env).kindOf x = some .local) (hyl : (cEnv scope cl L env).kindOf y = some .local) (hxy : x ≠ y)
    (hsz : ∀ i, i ≤ items.length → (outs items2 Q i).length ≤ m) (hsz2 : ∀ i, i < items.length → (items2 i).length + m ≤ sizeLine)
    (W : Wf C fz s) (F : Fe env st fz s.heap) (G : Grow C fz s f₂ s₂) (X : Cs C (cEnv scope cl L env) D x f₂ [] s₂)
    (nD : s.heap.get? D = none) (nL : s.heap.get? L = none)
    (Wk : Walks PySem.Challenge.pw_pe0133_01 C.w A I fp wr items.length (fun i v => ∃ P, items[i]? = some P ∧ P.p f₂ v) St) (hst : St 0 s₂.heap)
    (hfp : ∀ b ∈ fp, b ∈ wr ∨ ∃ o, f₂ b = some o) (hwr : ∀ b ∈ wr, f₂ b = none ∧ s.heap.get? b = none ∧ b ≠ D ∧ b ≠ L) (hlive : ∀ i h, St i h → ∀ b ∈ wr, ∃ o, h.get? b = some o)
    (hi2 : ∀ i P, items[i]? = some P → It C A (cEnv scope cl L env) ((x, P) :: st') iter2 (items2 i))
    (he : ∀ i P j P', items[i]? = some P → (items2 i)[j]? = some P' → Ev C A (cEnv scope cl L env) ((y, P') :: ([(x, P)] ++ st')) elt (Q i j))
    (hR : ∀ f s', Grow C fz s f s' → Cs C (cEnv scope cl L env) D x f (outs items2 Q items.length) s' → R (.ok .next) s') :
    codeAny (M C) A (.compLoop (two elt x y px py iter iter2 scope pos) 0 (.ref I) (.ref D) (cEnv scope cl L env)) R s₂ := by
  refine loop_two (fun k s' => ∃ i f, k = items.length + 1 - i ∧ i ≤ items.length ∧ Grow C fz s f s' ∧ FzLe f₂ f ∧ St i s'.heap ∧ (∀ b ∈ wr, f b = none) ∧
    Cs C (cEnv scope cl L env) D x f (outs items2 Q i) s') hs2 ?_ (items.length + 1) ⟨0, f₂, rfl, Nat.zero_le _, G, .refl _, hst, fun b hb => (hwr b hb).1, X⟩
  rintro k s' ⟨i, f, rfl, hile, G', hle, hst', hwf, X⟩
  have wD : D ∉ wr := fun hb => (hwr _ hb).2.2.1 rfl
  have wL : L ∉ wr := fun hb => (hwr _ hb).2.2.2 rfl
  have wt1 : C.t1 ∉ wr := fun hb => by obtain ⟨ps, e1, _⟩ := W.tab1; rw [(hwr _ hb).2.1] at e1; cases e1
  have wt2 : C.t2 ∉ wr := fun hb => by obtain ⟨ps, e1, _⟩ := W.tab2; rw [(hwr _ hb).2.1] at e1; cases e1
  have fpne : ∀ b ∈ fp, b ≠ C.t1 ∧ b ≠ C.t2 := fun b hb => by
    refine ⟨fun q => ?_, fun q => ?_⟩
    · rcases hfp b hb with hw | ⟨o', ho'⟩
      · exact wt1 (q ▸ hw)
      · rw [q, G.wf.n1] at ho'; cases ho'
    · rcases hfp b hb with hw | ⟨o', ho'⟩
      · exact wt2 (q ▸ hw)
      · rw [q, G.wf.n2] at ho'; cases ho'
  have nocell : ∀ {z : Str}, (cEnv scope cl L env).kindOf z = some .local → (cEnv scope cl L env).kindOf z = some .cell → False := fun h1 h2 => by rw [h1] at h2; cases h2
  by_cases hlt : i < items.length
  · refine Wk.item i _ _ _ hlt hst' fun v h₁ tk₁ hP hst₁ hkp => ?_
    obtain ⟨P, hPi, hPv⟩ := hP
    have G₁ : Grow C fz s f { s' with heap := h₁, toks := tk₁ } := G'.poke W hkp (fun b hb => (hwr b hb).2.1) hwf
    have X₁ : Cs C (cEnv scope cl L env) D x f (outs items2 Q i) { s' with heap := h₁, toks := tk₁ } := by
      obtain ⟨ys, hpl, ha⟩ := X.acc
      obtain ⟨m, hm⟩ := X.ns
      exact ⟨⟨ys, hpl.at fun o e => hkp _ o wD e, ha⟩, X.accf, ⟨m, hm.at' fun o e => hkp _ o wL e⟩, X.nsf, .inl hxl⟩
    refine wpAny_assign_Name (X₁.store hk fun a h₂ tk₂ ha hfa hal hsb hslot hoth X₂ => ?_)
    have haL : a = L := by
      rcases ha with rfl | ⟨c, hkc, hc, rfl⟩
      · rfl
      · exact (nocell hxl hkc).elim
    subst haL
    have G₂ : Grow C fz s f { s' with heap := h₂, toks := tk₂ } := Grow.poke (s' := { s' with heap := h₁, toks := tk₁ }) (wr := [a]) W G₁ (fun b o hb e => (hsb.2 b (fun q => hb (q ▸ .head _))).trans e) (fun b hb => by cases hb with | head => exact nL | tail _ h => cases h) (fun b hb => by cases hb with | head => exact hfa | tail _ h => cases h)
    have hst₂ : St (i + 1) h₂ := Wk.frame _ _ _ hst₁ fun b hb o e => (hsb.2 b (by
      rintro rfl
      rcases hfp b hb with hw | ⟨o', ho'⟩
      · exact wL hw
      · have := hle _ _ ho'; rw [hfa] at this; cases this)).trans e
    have Fe₂ : Fe (cEnv scope cl a env) ((x, P) :: st') f h₂ := hcap.fe (F.grow W G₂) hk hslot (P.mono hle hPv)
    refine wpAny_mono (hi2 i P hPi f { s' with heap := h₂, toks := tk₂ } G₂.wf Fe₂) (fun xv s₃ h₃ => wpAny_mono h₃ (fun it2 s₄ ⟨f₄, I2, fp2, wr2, St2, e, G₄, Wk2, hst2, hfp2, hwr2, hlive2⟩ => ?_) fun _ _ e => e) fun _ _ e => e
    subst e
    have X₄ := X₂.grow G₂.wf G₄
    have G₂₄ := G₂.trans W G₄
    have J₄ : Locs (cEnv scope cl a env) [(x, P)] f₄ s₄.heap := fun p hp => by
      cases hp with
      | head => exact ⟨hxl, v, hslot.grow G₂.wf G₄, P.mono (hle.trans (G₄.le G₂.wf)) hPv⟩
      | tail _ h => cases h
    have hst₄ : St (i + 1) s₄.heap := Wk.frame _ _ _ hst₂ fun b hb o e => G₄.kp b o (fpne b hb).1 (fpne b hb).2 e
    have wf₄ : ∀ b ∈ wr, f₄ b = none := fun b hb => by
      obtain ⟨o, e⟩ := hlive _ _ hst₂ b hb
      exact (G₄.eq b o e).trans (hwf b hb)
    have inner : codeAny (M C) A (.compLoop (two elt x y px py iter iter2 scope pos) 1 (.ref I2) (.ref D) (cEnv scope cl a env)) (fun r s₅ => r = .ok .next ∧ ∃ m, m < items.length + 1 - i ∧ ∃ i f, m = items.length + 1 - i ∧ i ≤ items.length ∧ Grow C fz s f s₅ ∧ FzLe f₂ f ∧ St i s₅.heap ∧ (∀ b ∈ wr, f b = none) ∧
        Cs C (cEnv scope cl a env) D x f (outs items2 Q i) s₅) s₄ := by
      refine loop_core (x := y) (px := py) (ifs := []) (ip := iter2.pos) (keep := fun _ => true) (Q := Q i) (qs₀ := outs items2 Q i) (loc := [(x, P)]) (turn_in _ _ _ _ _ _ _ _ _ _ _ _) rfl rfl hk hcap
        (by have := hsz i hile; have := hsz2 i hlt; omega) (fun p hp => by cases hp with | head => exact hxy | tail _ h => cases h) W F G₂₄ (X₄.other hyl) J₄ nD nL (fun c h1 _ => (nocell hyl h1).elim) Wk2 hst2 hfp2
        (fun b hb => ⟨(hwr2 b hb).1, ?_, ?_, ?_, fun c h1 _ => (nocell hyl h1).elim⟩) hlive2 (fun j P' _ => Tifs.nil) (fun j P' hj _ => he i P j P' hPi hj) fun f₅ s₅ G₅ hle₅ X₅ J₅ hO => ?_
      · exact fresh_before G₂ (hwr2 b hb).2
      · rintro rfl
        obtain ⟨ys, ⟨n, hg⟩, _⟩ := X₂.acc
        have := (hwr2 _ hb).2
        rw [show ({ s' with heap := h₂, toks := tk₂ } : Shared).heap = h₂ from rfl] at this
        rw [show ({ s' with heap := h₂, toks := tk₂ } : Shared).heap = h₂ from rfl, this] at hg
        cases hg
      · rintro rfl
        obtain ⟨m, o, _, _, e, _⟩ := X₂.ns
        have := (hwr2 _ hb).2
        rw [show ({ s' with heap := h₂, toks := tk₂ } : Shared).heap = h₂ from rfl] at this
        rw [show ({ s' with heap := h₂, toks := tk₂ } : Shared).heap = h₂ from rfl, show (cEnv scope cl b env).locals = b from rfl, this] at e
        cases e
      · have keepw : ∀ b ∈ wr, f₅ b = none ∧ s₅.heap.get? b = s₄.heap.get? b := fun b hb => by
          obtain ⟨o, e⟩ := hlive _ _ hst₄ b hb
          refine hO b (wf₄ b hb) ⟨o, e⟩ (fun hb2 => ?_) (fun q => wD (q ▸ hb)) (fun q => wL (q ▸ hb)) (fun c h1 _ => (nocell hyl h1).elim) (fun q => wt1 (q ▸ hb)) (fun q => wt2 (q ▸ hb))
          obtain ⟨o', e'⟩ := hlive _ _ hst₂ b hb
          have := (hwr2 b hb2).2
          rw [show ({ s' with heap := h₂, toks := tk₂ } : Shared).heap = h₂ from rfl, e'] at this
          cases this
        have le₅ : FzLe f₂ f₅ := (hle.trans (G₄.le G₂.wf)).trans hle₅
        have hst₅ : St (i + 1) s₅.heap := Wk.frame _ _ _ hst₄ fun b hb o e => by
          rcases hfp b hb with hw | ⟨o', ho'⟩
          · rw [(keepw b hw).2]; exact e
          · have e1 := G₅.wf.le b o' (le₅ _ _ ho')
            have e2 := G₂₄.wf.le b o' ((hle.trans (G₄.le G₂.wf)) _ _ ho')
            rw [e] at e2; cases e2; exact e1
        refine ⟨rfl, items.length + 1 - (i + 1), by omega, i + 1, f₅, rfl, hlt, G₅, le₅, hst₅, fun b hb => (keepw b hb).1, ?_⟩
        rw [outs_succ]
        rw [filter_true] at X₅
        exact X₅.other hxl
    exact start_in inner (Wk2.self 0 _ _ _ hst2 inner)
  · have hin : i = items.length := by omega
    subst hin
    refine Wk.done _ _ _ hst' fun h₁ tk₁ hkp => ?_
    refine hR f _ (G'.poke W hkp (fun b hb => (hwr b hb).2.1) hwf) ?_
    obtain ⟨ys, hpl, ha⟩ := X.acc
    obtain ⟨m, hm⟩ := X.ns
    exact ⟨⟨ys, hpl.at fun o e => hkp _ o wD e, ha⟩, X.accf, ⟨m, hm.at' fun o e => hkp _ o wL e⟩, X.nsf, .inl hxl⟩

/-- a comprehension with two clauses -/
theorem Ev.comp2 {elt iter iter2 : Expr} {x y : Str} {px py : Pos} {scope : Scope} {pos : Pos} {cl : List (Str × Addr)} {items : List Pd} {st' : List (Str × Pd)} (items2 : Nat → List Pd) (Q : Nat → Nat → Pd) (m : Nat)
    (hi : It C A env st iter items) (hclos : closureFor scope env = pure cl) (hk : scope.kind = .function) (hnames : ∀ x ∈ scope.names, x.2 = .local → scope.names.lookup x.1 = some .local)
    (hxl : ∀ L, (cEnv scope cl L env).kindOf x = some .local) (hyl : ∀ L, (cEnv scope cl L env).kindOf y = some .local) (hxy : x ≠ y) (hcap : Caps env scope cl st st')
    (hsz : ∀ i, i ≤ items.length → (outs items2 Q i).length ≤ m) (hsz2 : ∀ i, i < items.length → (items2 i).length + m ≤ sizeLine)
    (hi2 : ∀ L i P, items[i]? = some P → It C A (cEnv scope cl L env) ((x, P) :: st') iter2 (items2 i))
    (he : ∀ L i P j P', items[i]? = some P → (items2 i)[j]? = some P' → Ev C A (cEnv scope cl L env) ((y, P') :: ([(x, P)] ++ st')) elt (Q i j))
    (hs : ∀ x, foldedSetIterable iter env x = pure x := by intro _; rfl) (hs2 : ∀ L v, foldedSetIterable iter2 (cEnv scope cl L env) v = pure v := by intro _ _; rfl) :
    Ev C A env st (two elt x y px py iter iter2 scope pos) (lst (outs items2 Q items.length)) := fun fz s W F => by
  rw [eval_ListComp]
  refine wpAny_comprehension_free (use := none) rfl hs hclos hk hnames (wpAny_mono (hi fz s W F) (fun xv s₁ h₁ => wpAny_mono h₁ (fun it s₂ ⟨f₂, I, fp, wr, St, e, G, Wk, hst, hfp, hwr, hlive⟩ => ?_) fun _ _ e => e) fun _ _ e => e)
  subst e
  refine comp_begin (x := x) (RR := fun acc L => compPost (M C) A NoE none (Rs C fz s (lst (outs items2 Q items.length))) acc L) (.inl fun L cl' => ?_) W G fun D L s₄ G4 k24 hD hL hDL X0 hC => ?_
  · have := hxl L
    exact this
  · have newb : ∀ a, s₂.heap.get? a = none → s.heap.get? a = none := fun a e => fresh_before G e
    have hst4 : St 0 s₄.heap := Wk.frame _ _ _ hst fun b _ o e => k24 b o e
    have wlive : ∀ b ∈ wr, ∃ o, s₂.heap.get? b = some o := hlive _ _ hst
    have loop : codeAny (M C) A (.compLoop (two elt x y px py iter iter2 scope pos) 0 (.ref I) (.ref D) (cEnv scope cl L env)) (compPost (M C) A NoE none (Rs C fz s (lst (outs items2 Q items.length))) (.ref D) L) s₄ := by
      refine loop_outer (hs2 L) hk hcap (hxl L) (hyl L) hxy hsz hsz2 W F G4 X0 (newb _ hD) (newb _ hL) Wk hst4 hfp (fun b hb => ?_) hlive (hi2 L) (he L) fun f s' G' X => ?_
      · obtain ⟨o, e⟩ := wlive b hb
        exact ⟨(hwr b hb).1, (hwr b hb).2, fun q => (by rw [q, hD] at e; cases e), fun q => (by rw [q, hL] at e; cases e)⟩
      · obtain ⟨ys, hpl, hys⟩ := X.acc
        have Dn : Done C fz s D L (outs items2 Q items.length) s' := ⟨X.ns, newb _ hL, newb _ hD, f, ys, G', hpl, hys, X.accf, X.nsf⟩
        obtain ⟨m, hm⟩ := Dn.ns
        refine ⟨m, hm, fun h' hsb => ?_⟩
        obtain ⟨f', G', hp, _⟩ := Dn.froze W hsb
        exact ⟨f', G', hp⟩
    exact codeAny_compStart_list loop (Wk.self 0 _ _ _ hst4 loop)
end
end Mine
end
/-! # part P2 -/
section
open PySem PySem.W PySem.Calls PyProof.Rows PySem.SeqAt
set_option Elab.async false
set_option maxRecDepth 100000
set_option linter.unusedVariables false
namespace Mine
/-! ## what the law reckons, behind its counts -/
noncomputable def numF (xs : List Int) (k : Int) : Int := (pick xs (some k) (some 20) (some 5)).sum + [1, 2, 4, 4, 0].getD k.toNat 0
noncomputable def numsF (xs : List Int) : List Int := (rng 0 5).map (numF xs)
noncomputable def hits (ws : List (List Int)) (k : Int) : List (List Int) := ws.filter fun w => w.contains k
noncomputable def dueF (walks : List (List Int)) (size : Nat) : List Int := (rng 0 (size + 1)).map fun k => ((hits walks k).length : Int)
noncomputable def gotF (counts : List Int) (size : Nat) : List Int := (rng 0 counts.length).map fun k => counts.getD k.toNat 0 * 2 ^ ((size : Int) - k).toNat
noncomputable def nF (counts : List Int) (size : Nat) : Nat := (counts.getD size 0).toNat
noncomputable def msgsF (ws : List (List Nat)) (counts : List Int) (size : Nat) : List (List Int) := (rng 0 (nF counts size)).map fun number => (msgF (tablesF ws counts) ws number).getD []
noncomputable def prsF (ws : List (List Nat)) : List (Nat × List Nat) := (List.range ws.length).map fun k => (97 + k, ws.getD k [])
noncomputable def texF (m : List Int) : List Nat := m.map fun k => 97 + k.toNat
noncomputable def lineF (ws : List (List Nat)) (m : List Int) : List Nat := (replG (prsF ws) (texF m)).getD []
noncomputable def figsF (line : List Nat) : List Int := line.reverse.map fun c => if [c] == [49] then 1 else 0
noncomputable def valF (line : List Nat) : Int := (d2iF (figsF line) 1).getD 0
noncomputable def gotW (walks : List (List Int)) (size : Nat) : List Int := (rng 0 (2 ^ size)).filter fun number => (walks.getD number.toNat []).contains (size : Int)
noncomputable def upB : List (List Int) → Bool
  | x :: y :: r => !ltL y x && upB (y :: r)
  | _ => true
/-- all that is asked of the counts, the walks, the messages and the lines -/
noncomputable def restB (ws : List (List Nat)) (size : Nat) (counts : List Int) : Bool :=
  decide (size ≤ 5) && decide (ws.length ≤ 5) && ws.all (fun w => decide (w.length ≤ 5)) && decide (counts.length = size + 1) && counts.all (fun c => decide (Builtin.Int.intBits c ≤ 64)) && decide (0 ≤ counts.getD size 0) && decide (counts.getD size 0 < 64)
  && (gotF counts size == dueF (walksF ws size) size)
  && (rng 0 (nF counts size)).all (fun number => (msgF (tablesF ws counts) ws number).isSome)
  && (msgsF ws counts size).all (fun m => decide (m.length ≤ 5) && m.all (fun k => decide (0 ≤ k) && decide (k < ws.length)) && (replG (prsF ws) (texF m)).isSome && decide ((lineF ws m).length = size) && (lineF ws m).all (fun c => decide (c < 128)) && (d2iF (figsF (lineF ws m)) 1).isSome && (readF ws (lineF ws m) == some m))
  && upB (msgsF ws counts size)
  && ((msgsF ws counts size).map (fun m => valF (lineF ws m)) == gotW (walksF ws size) size)
/-- the code words by the remainders -/
noncomputable def stepP (p : Nat) (ws : List (List Nat)) : List (List Nat) :=
  if p < ws.length then ws.take p ++ [ws.getD p [] ++ [48], ws.getD p [] ++ [49]] ++ ws.drop (p + 1) else ws
noncomputable def codeP (a b c d : Nat) : List (List Nat) := let ws := stepP c (stepP b (stepP a [[48], [49]])); ws.take d ++ ws.drop (d + 1)
noncomputable def allP : List (List (List Nat)) := ((List.range 2).flatMap fun a => (List.range 4).flatMap fun b => (List.range 5).flatMap fun c => (List.range 6).map fun d => codeP a b c d).eraseDups
end Mine
end
/-! # part F13 -/
section
open PySem PySem.W PySem.Calls PyProof.Rows PySem.SeqAt
set_option Elab.async false
set_option maxRecDepth 100000
set_option linter.unusedVariables false
namespace Mine
theorem Ex1.assignMapX {C : Cx} {A : Around} {env : Env} {st : Store} {α : Type} {elt iter : Expr} {x y : Str} {px py spos : Pos} {scope : Scope} {pos : Pos} {cl : List (Str × Addr)} {st' : List (Str × Pd)} (xs : List α) (f g : α → Pd)
    (hi : It C A env (see seeF st) iter (xs.map f)) (hky : StOk env y) (hsw : swapsWith (.ListComp elt [⟨.Name x px, iter, [], 0⟩] scope pos) (some (.Name y py)) spos.line env = pure true)
    (hclos : closureFor scope env = pure cl) (hk : scope.kind = .function) (hnames : ∀ x ∈ scope.names, x.2 = .local → scope.names.lookup x.1 = some .local) (hx : XOk scope env x) (hcap : Caps env scope cl (see seeF st) st') (hsz : xs.length ≤ sizeLine)
    (he : ∀ L y, y ∈ xs → Ev C A (cEnv scope cl L env) ((x, f y) :: st') elt (g y))
    (hs : ∀ x, foldedSetIterable iter env x = pure x := by intro _; rfl) :
    Ex1 C A env (.Assign [.Name y py] (.ListComp elt [⟨.Name x px, iter, [], 0⟩] scope pos) spos) st (Nx ((y, .fix (lst (xs.map g))) :: st)) := by
  have := Ex1.assignCompX (C := C) (A := A) (elt := elt) (px := px) (ifs := []) (pos := pos) (py := py) (spos := spos) xs f g (fun _ => true) hi hky hsw hclos hk hnames hx hcap hsz (fun L y h => Tifs.nil) (fun L y h _ => he L y h) hs
  rw [filter_true] at this
  exact this
theorem upB_at : ∀ {l : List (List Int)} {k : Nat}, upB l = true → 1 ≤ k → k < l.length → ltL (l.getD k []) (l.getD (k - 1) []) = false
  | [], k, _, _, h => by simp at h
  | [_], k, _, h1, h => by simp at h; omega
  | x :: y :: r, 0, _, h1, _ => by omega
  | x :: y :: r, 1, h, _, _ => by
    unfold upB at h
    simp only [Bool.and_eq_true, Bool.not_eq_true'] at h
    exact h.1
  | x :: y :: r, k + 2, h, _, hl => by
    unfold upB at h
    simp only [Bool.and_eq_true, Bool.not_eq_true'] at h
    have := upB_at (l := y :: r) (k := k + 1) h.2 (by omega) (by simp at hl ⊢; omega)
    simpa using this
theorem Tr.eq' {C : Cx} {A : Around} {env : Env} {st : List (Str × Pd)} {e : Expr} {b b' : Bool} (h : Tr C A env st e b) (q : b = b') : Tr C A env st e b' := q ▸ h
theorem Ev.eq' {C : Cx} {A : Around} {env : Env} {st : List (Str × Pd)} {e : Expr} {P P' : Pd} (h : Ev C A env st e P) (q : P = P') : Ev C A env st e P' := q ▸ h
theorem It.eq' {C : Cx} {A : Around} {env : Env} {st : List (Str × Pd)} {e : Expr} {P P' : List Pd} (h : It C A env st e P) (q : P = P') : It C A env st e P' := q ▸ h
/-- a letter of abcde -/
theorem abcde_at {i : Nat} (h : i < 5) : (seqIndex? (i : Int) (Str.ofString "abcde").length).bind ((Str.ofString "abcde").cps[·]?) = some (97 + i) := by
  have : ∀ j : Fin 5, (seqIndex? (j.val : Int) (Str.ofString "abcde").length).bind ((Str.ofString "abcde").cps[·]?) = some (97 + j.val) := by decide +kernel
  exact this ⟨i, h⟩
theorem tex_flat (m : List Int) : texF m = (m.map fun k => [97 + k.toNat]).flatten := by
  unfold texF
  induction m with
  | nil => rfl
  | cons k r ih => simp only [List.map_cons, List.flatten_cons, ih]; rfl
noncomputable def it2F (ws : List (List Nat)) (i : Nat) : List Pd := [str (sOf [97 + i]), str (sOf (ws.getD i []))]
noncomputable def q2F (ws : List (List Nat)) (i j : Nat) : Pd := ((it2F ws i)[j]?).getD anyP
theorem outs_len (ws : List (List Nat)) : ∀ i, (outs (it2F ws) (q2F ws) i).length = 2 * i
  | 0 => rfl
  | i + 1 => by rw [outs_succ, List.length_append, outs_len ws i]; simp [it2F]; omega
theorem outs_prs (ws : List (List Nat)) : outs (it2F ws) (q2F ws) ws.length = pairP (prsF ws) := by
  unfold outs pairP prsF
  rw [List.flatMap_map]
  rfl
set_option maxHeartbeats 8000000 in
theorem law_ex {C : Cx} {A : Around} {a a2 a4 a5 a6 a8 a10 a12 a13 a14 a15 a16 a17 c4 P4 c5 P5 : Addr} (T : Tops C) (hf2 : FnAt C 2 a2) (hf4 : FnAtC C 4 a4 (.ref c4)) (hT4 : Tb C c4 P4 (qIn 4) ⟨32, 4, 41, 28⟩) (hf5 : FnAtC C 5 a5 (.ref c5)) (hT5 : Tb C c5 P5 (qIn 5) ⟨47, 4, 52, 55⟩)
    (hf6 : FnAt C 6 a6) (hf8 : BisAt C a8) (hf10 : FnAt C 10 a10) (hf12 : FnAt C 12 a12) (hf13 : FnAt C 13 a13) (hf14 : FnAt C 14 a14) (hf15 : FnAt C 15 a15) (hf16 : FnAt C 16 a16) (hf17 : FnAt C 17 a17)
    (hA : Rm 13 A) (xs : List Int) (hxs : xs.length ≤ 1000) (size : Nat) (width : Int) (counts : List Int) (hsize : 4 + ((numsF xs).getD 4 0).fmod 2 = (size : Int)) (hwidth : 8 + (((numsF xs).getD 4 0).fdiv 2).fmod 9 = width)
    (hc : countsF (codeF (numsF xs)) size width = some counts) (hr : restB (codeF (numsF xs)) size counts = true) (pm code doc : Value) (L : Addr) :
    Ex C (A.deeper (callEnvC (fdAt 18 pm code doc) L a)) (callEnvC (fdAt 18 pm code doc) L a) (bodyOf 18) ([Str.ofString "script"].zip ([nums xs].map Ent.fix)) (fun r _ => r = .ret (boo true)) := by
  have hnl : (numsF xs).length = 5 := by simp [numsF, rng_length]
  · have hA' := Rm.deeper (env := callEnvC (fdAt 18 pm code doc) L a) hA
    generalize hB : A.deeper (callEnvC (fdAt 18 pm code doc) L a) = B at hA'
    have hh := hA'.1
    conv => arg 4; whnf
    -- nums = [..]
    refine Ex.step (Ex1.assignMapX (st' := [(Str.ofString "script", nums xs)]) (rng 0 5) int (fun k => int (numF xs k)) (It.rangeTo (b := 5) T hh rfl Ev.cint (by decide) (by decide)) (.inl rfl) rfl rfl rfl (by decide +kernel) (.inl fun _ _ => rfl)
      (.cons rfl (fun L => ⟨_, rfl, rfl, (by first | exact .inl rfl | exact .inr rfl), (by first | exact .inl rfl | exact .inr rfl)⟩) .nil) (by rw [rng_length, sizeLine_eq]; decide) fun L k hk => ?_) ?_
    · obtain ⟨hk0, hk1⟩ := rng_mem hk
      refine Ev.bin (P := int ((pick xs (some k) (some 20) (some 5)).sum)) (Q := int ([1, 2, 4, 4, 0].getD k.toNat 0)) (Ev.sum T rfl (Evs.cons Evs.nil ?_) (Cl.sum hh)) (Ev.sub (Ev.list (ps := [1, 2, 4, 4, 0].map int) (hl := by rw [sizeLine_eq]; simp) (Evs.cons (Evs.cons (Evs.cons (Evs.cons (Evs.cons Evs.nil Ev.cint) Ev.cint) Ev.cint) Ev.cint) Ev.cint)) (Ev.name rfl) (Sb.get hk0 (by omega) ?_)) Bin.add
      · rw [← pick_map]
        exact Ev.sub (P := nums xs) (Ev.name rfl) (Ev.slice (EvP.some (Ev.name rfl)) (EvP.some Ev.cint) (EvP.some Ev.cint)) (Sb.slice (by decide) (by rw [List.length_map, sizeLine_eq]; omega))
      · rw [List.getElem?_map, List.getD_eq_getElem?_getD, List.getElem?_eq_getElem (show k.toNat < 5 by omega)]; rfl
    rw [show (rng 0 5).map (fun k => int (numF xs k)) = (numsF xs).map int by unfold numsF; rw [List.map_map]; rfl]
    generalize numsF xs = ns at hsize hwidth hc hr hnl
    -- words = _law_code(nums)
    refine Ex.step (Ex1.assign (P := wds (codeF ns)) (SEv.fix (Ev.fn hf12 rfl rfl (Evs.cons Evs.nil (Ev.name rfl)) (code_ok T hf12 (hA'.le (by decide)) ns (by omega)))) (.inr ⟨rfl, _, rfl⟩)) ?_
    generalize codeF ns = ws at hc hr
    have hn4 : (ns.map int)[(4 : Int).toNat]? = some (int (ns.getD 4 0)) := by
      rw [List.getElem?_map, List.getD_eq_getElem?_getD, show (4 : Int).toNat = 4 by rfl, List.getElem?_eq_getElem (by omega)]; rfl
    -- size = 4 + nums[4] % 2
    refine Ex.step (Ex1.assign (P := int size) (SEv.fix ?_) (.inr ⟨rfl, _, rfl⟩)) ?_
    · rw [← hsize]
      exact Ev.bin Ev.cint (Ev.bin (Ev.sub (Ev.name rfl) Ev.cint (Sb.get (by decide) (by decide) hn4)) Ev.cint (Bin.mod (by decide))) Bin.add
    -- counts = _law_counts(words, size, 8 + nums[4] // 2 % 9)
    refine Ex.step (Ex1.assign (P := nums counts) (SEv.fix (Ev.fn hf13 rfl rfl (Evs.cons (Evs.cons (Evs.cons Evs.nil ?_) (Ev.name rfl)) (Ev.name rfl)) (counts_ok T hf13 hf6 hf2 hf4 hT4 hf5 hT5 hA' ws size width counts hc))) (.inr ⟨rfl, _, rfl⟩)) ?_
    · rw [← hwidth]
      exact Ev.bin Ev.cint (Ev.bin (Ev.bin (Ev.sub (Ev.name rfl) Ev.cint (Sb.get (by decide) (by decide) hn4)) Ev.cint (Bin.fdiv (by decide) (PyProof.noPylong_small (by decide)))) Ev.cint (Bin.mod (by decide))) Bin.add
    unfold restB at hr
    simp only [Bool.and_eq_true, decide_eq_true_eq, List.all_eq_true, beq_iff_eq] at hr
    obtain ⟨⟨⟨⟨⟨⟨⟨⟨⟨⟨⟨r1, r2⟩, r3⟩, r4⟩, r5⟩, r6⟩, r7⟩, r8⟩, r9⟩, r10⟩, r11⟩, r12⟩ := hr
    have hu := hA'.2.2
    have hcl : cLine = 9900 := rfl
    have h2s : (2 : Nat) ^ size ≤ 32 := by
      calc (2 : Nat) ^ size ≤ 2 ^ 5 := Nat.pow_le_pow_right (by decide) r1
        _ = 32 := by decide
    -- walks = _law_walks(words, size)
    refine Ex.step (Ex1.assign (P := lst (intss (walksF ws size))) (SEv.fix (Ev.fn hf14 rfl rfl (Evs.cons (Evs.cons Evs.nil (Ev.name rfl)) (Ev.name rfl)) (walks_ok T hf14 (hA'.le (by decide)) ws size (by omega) (fun w hw => by have := r3 w hw; omega) (by omega)))) (.inr ⟨rfl, _, rfl⟩)) ?_
    have hwl : (walksF ws size).length = 2 ^ size := by unfold walksF; rw [List.length_map, rng_length]
    generalize walksF ws size = W at r8 r12 hwl
    -- due = [..]
    refine Ex.step (Ex1.assignMapX (st' := [(Str.ofString "walks", lst (intss W))]) (rng 0 (size + 1)) int (fun k => int ((hits W k).length : Nat)) (It.eq' (It.rangeTo (b := (size : Int) + 1) T hh rfl (Ev.bin (Ev.name rfl) Ev.cint Bin.add) (by omega) (by omega)) (by rw [show ((size : Int) + 1).toNat = size + 1 by omega])) (.inl rfl) rfl rfl rfl (by decide +kernel) (.inr fun L cl => ⟨rfl, _, Nat.lt_succ_self _, rfl, .head _⟩)
      (.cons rfl (fun L => ⟨_, rfl, rfl, (by first | exact .inl rfl | exact .inr rfl), (by first | exact .inl rfl | exact .inr rfl)⟩) .nil) (by rw [rng_length, sizeLine_eq]; omega) fun L k hk => ?_) ?_
    · have hfl := List.length_filter_le (fun w : List Int => w.contains k) W
      have hlen := Cl.lenL (C := C) (A := B) (ps := (hits W k).map fun w => nums w) (by rw [List.length_map]; unfold hits; omega)
      rw [List.length_map] at hlen
      refine Ev.len T rfl (Evs.cons Evs.nil (Ev.compX (st' := [(Str.ofString "k", int k)]) W (fun w => nums w) (fun w => nums w) (fun w => w.contains k) (It.list hh (Ev.name rfl)) rfl rfl (by decide +kernel) (.inl fun _ _ => rfl)
        (.cons rfl (fun L => ⟨_, rfl, rfl, (by first | exact .inl rfl | exact .inr rfl), (by first | exact .inl rfl | exact .inr rfl)⟩) .nil) (by rw [sizeLine_eq]; omega) (fun L w hw => Tifs.one (Tr.cmp (Ev.name rfl) (Ev.name rfl) Cmp.inInts)) (fun L w hw _ => Ev.name rfl))) hlen
    rw [show (rng 0 (size + 1)).map (fun k => int ((hits W k).length : Nat)) = (dueF W size).map int by unfold dueF; rw [List.map_map]; rfl]
    -- if [..] != due
    refine Ex.cons (Ex1.ite (b := false) (R := Nx _) (STr.fix (Tr.eq' (Tr.cmp (P := nums (gotF counts size)) (Q := nums (dueF W size)) (Ev.eq' (Ev.mapX (st' := [(Str.ofString "counts", nums counts), (Str.ofString "size", int size)]) (rng 0 counts.length) int (fun k => int (counts.getD k.toNat 0 * 2 ^ ((size : Int) - k).toNat)) (It.eq' (It.rangeTo (b := ((counts.map int).length : Nat)) T hh rfl (Ev.len T rfl (Evs.cons Evs.nil (Ev.name rfl)) (Cl.lenL (by rw [List.length_map]; omega))) (by omega) (by rw [List.length_map]; omega)) (by rw [List.length_map, Int.toNat_natCast])) rfl rfl (by decide +kernel) (.inl fun _ _ => rfl)
      (.cons rfl (fun L => ⟨_, rfl, rfl, (by first | exact .inl rfl | exact .inr rfl), (by first | exact .inl rfl | exact .inr rfl)⟩) (.cons rfl (fun L => ⟨_, rfl, rfl, (by first | exact .inl rfl | exact .inr rfl), (by first | exact .inl rfl | exact .inr rfl)⟩) .nil)) (by rw [rng_length, sizeLine_eq]; omega) fun L k hk => ?_) ?_) (Ev.name rfl) (Cmp.neInts hA'.units)) ?_)) (fun h => by cases h) (fun _ => Ex.nil ⟨rfl, rfl⟩)) (fun st' e => e.2 ▸ ?_) fun r _ e hr => absurd e.1 hr
    · obtain ⟨hk0, hk1⟩ := rng_mem hk
      have hget : (counts.map int)[k.toNat]? = some (int (counts.getD k.toNat 0)) := by
        rw [List.getElem?_map, List.getD_eq_getElem?_getD, List.getElem?_eq_getElem (by omega)]; rfl
      have hbit : Builtin.Int.intBits (counts.getD k.toNat 0) ≤ 64 := by
        rw [List.getD_eq_getElem?_getD, List.getElem?_eq_getElem (show k.toNat < counts.length by omega)]; exact r5 _ (List.getElem_mem _)
      exact Ev.bin (Ev.sub (Ev.name rfl) (Ev.name rfl) (Sb.get hk0 (by omega) hget)) (Ev.bin Ev.cint (Ev.bin (Ev.name rfl) (Ev.name rfl) Bin.sub) (Bin.pow (by omega) (pow_fits (by omega)))) (Bin.mul (IntMulOk.of_left hbit))
    · unfold gotF nums; rw [List.map_map]; rfl
    · rw [r8]; simp
    -- tables = _law_tables(words, counts)
    refine Ex.step (Ex1.assign (P := lst (intss (tablesF ws counts))) (SEv.fix (Ev.fn hf15 rfl rfl (Evs.cons (Evs.cons Evs.nil (Ev.name rfl)) (Ev.name rfl)) (tables_ok T hf15 (hA'.le (by decide)) ws counts (by omega) (fun w hw => by have := r3 w hw; omega) (by omega)))) (.inr ⟨rfl, _, rfl⟩)) ?_
    have htl : (tablesF ws counts).length ≤ 1000 := by unfold tablesF; rw [List.length_map, rng_length]; omega
    have hnn : ((counts.getD size 0).toNat : Int) = counts.getD size 0 := Int.toNat_of_nonneg r6
    have hcs : (counts.map int)[((size : Nat) : Int).toNat]? = some (int (counts.getD size 0)) := by
      rw [Int.toNat_natCast, List.getElem?_map, List.getD_eq_getElem?_getD, List.getElem?_eq_getElem (by omega)]; rfl
    -- messages = [..]
    refine Ex.step (Ex1.assignMapX (st' := [(Str.ofString "tables", lst (intss (tablesF ws counts))), (Str.ofString "words", wds ws)]) (rng 0 (nF counts size)) int (fun number => nums ((msgF (tablesF ws counts) ws number).getD [])) (It.rangeTo (b := counts.getD size 0) T hh rfl (Ev.sub (Ev.name rfl) (Ev.name rfl) (Sb.get (by omega) (by omega) hcs)) (by omega) (by omega)) (.inl rfl) rfl rfl rfl (by decide +kernel) (.inl fun _ _ => rfl)
      (.cons rfl (fun L => ⟨_, rfl, rfl, (by first | exact .inl rfl | exact .inr rfl), (by first | exact .inl rfl | exact .inr rfl)⟩) (.cons rfl (fun L => ⟨_, rfl, rfl, (by first | exact .inl rfl | exact .inr rfl), (by first | exact .inl rfl | exact .inr rfl)⟩) .nil)) (by rw [rng_length, sizeLine_eq]; unfold nF; omega) fun L number hk => ?_) ?_
    · have hm := r9 number hk
      obtain ⟨m, hm⟩ := Option.isSome_iff_exists.mp hm
      rw [hm]
      exact Ev.fn hf16 rfl rfl (Evs.cons (Evs.cons (Evs.cons Evs.nil (Ev.name rfl)) (Ev.name rfl)) (Ev.name rfl)) (message_ok T hf16 hf8 (hA'.le (by decide)) (tablesF ws counts) ws number m hm htl (fun w hw => by have := r3 w hw; omega))
    rw [show (rng 0 (nF counts size)).map (fun number => nums ((msgF (tablesF ws counts) ws number).getD [])) = intss (msgsF ws counts size) by unfold msgsF intss; rw [List.map_map]; rfl]
    have hml : (msgsF ws counts size).length < 64 := by unfold msgsF; rw [List.length_map, rng_length]; unfold nF; omega
    generalize msgsF ws counts size = msgs at r10 r11 r12 hml
    -- pairs = [..]
    refine Ex.step (Ex1.assign (P := lst (pairP (prsF ws))) (SEv.fix (Ev.eq' (Ev.comp2 (st' := [(Str.ofString "words", wds ws)]) (items := (rng 0 ws.length).map int) (it2F ws) (q2F ws) 10 (It.eq' (It.rangeTo (b := ((ws.map fun w => str (sOf w)).length : Nat)) T hh rfl (Ev.len T rfl (Evs.cons Evs.nil (Ev.name rfl)) (Cl.lenL (by rw [List.length_map]; omega))) (by omega) (by rw [List.length_map]; omega)) (by rw [List.length_map, Int.toNat_natCast])) rfl rfl (by decide +kernel) (fun _ => rfl) (fun _ => rfl) (by decide)
      (.cons rfl (fun L => ⟨_, rfl, rfl, (by first | exact .inl rfl | exact .inr rfl), (by first | exact .inl rfl | exact .inr rfl)⟩) .nil) (fun i hi => ?_) (fun i hi => ?_) (fun L i P hP => ?_) (fun L i P j P' hP hP' => ?_)) ?_)) (.inr ⟨rfl, _, rfl⟩)) ?_
    · rw [List.length_map, rng_length] at hi
      rw [outs_len]; omega
    · rw [sizeLine_eq]; simp [it2F]
    · obtain ⟨k, hk, rfl⟩ := map_get hP
      obtain ⟨rfl, hi⟩ := rng_at hk
      have gw : (ws.map fun w => str (sOf w))[(0 + (i : Int)).toNat]? = some (str (sOf (ws.getD i []))) := by
        rw [show (0 + (i : Int)).toNat = i by omega, List.getElem?_map, List.getD_eq_getElem?_getD, List.getElem?_eq_getElem (by omega)]; rfl
      refine It.list hh (Ev.list (ps := it2F ws i) (hl := by rw [sizeLine_eq]; simp [it2F]) (Evs.cons (Evs.cons Evs.nil (Ev.sub (Ev.name rfl) (Ev.name rfl) (Sb.get (by omega) (by omega) gw))) (Ev.sub Ev.cstr (Ev.name rfl) (Sb.strGet (c := 97 + i) ?_ ?_))))
      · simp only [Bool.or_eq_false_iff, decide_eq_false_iff_not]; omega
      · rw [show (0 + (i : Int)) = i by omega]; exact abcde_at (by omega)
    · have e : q2F ws i j = P' := by unfold q2F; rw [hP']; rfl
      rw [e]
      exact Ev.name rfl
    · rw [List.length_map, rng_length, outs_prs]
    obtain ⟨fd10, hfd10⟩ := hf10.isFn
    -- lines = [..]
    refine Ex.step (Ex1.assignMapX (st' := [(Str.ofString "pairs", lst (pairP (prsF ws)))]) msgs (fun m => nums m) (fun m => str (sOf (lineF ws m))) (It.list hh (Ev.name rfl)) (.inl rfl) rfl rfl rfl (by decide +kernel) (.inl fun _ _ => rfl)
      (.cons rfl (fun L => ⟨_, rfl, rfl, (by first | exact .inl rfl | exact .inr rfl), (by first | exact .inl rfl | exact .inr rfl)⟩) .nil) (by rw [sizeLine_eq]; omega) fun L m hm => ?_) ?_
    · obtain ⟨⟨⟨⟨⟨⟨q1, q2⟩, q3⟩, q4⟩, q5⟩, q6⟩, q7⟩ := r10 m hm
      obtain ⟨l, hl⟩ := Option.isSome_iff_exists.mp q3
      have e : lineF ws m = l := by unfold lineF; rw [hl]; rfl
      rw [e]
      have hpl : (pairP (prsF ws)).length = 2 * ws.length := by rw [pairP_len]; unfold prsF; rw [List.length_map, List.length_range]
      refine Ev.callStar (P := str (sOf (texF m))) (ps := pairP (prsF ws)) (Ev.globals rfl (show C.mg (Str.ofString "replace") = _ from hf10.mg)) hfd10 ?_ (Ev.name rfl) (by rw [hpl, sizeLine_eq]; omega) (repl_ok T hf10 (hA'.le (by decide)) (prsF ws) (texF m) l hl (by unfold prsF; rw [List.length_map, List.length_range]; omega))
      rw [tex_flat, ← join_nil]
      refine Ev.join (Ev.cstrW rfl) ?_ ?_
      · rw [List.map_map, List.map_map]
        refine Ev.mapX (st' := []) m int (fun k => str (sOf [97 + k.toNat])) (It.list hh (Ev.name rfl)) rfl rfl (by decide +kernel) (.inl fun _ _ => rfl) .nil (by rw [sizeLine_eq]; omega) fun L k hk => ?_
        obtain ⟨hk0, hk1⟩ := q2 k hk
        refine Ev.sub Ev.cstr (Ev.name rfl) (Sb.strGet (c := 97 + k.toNat) ?_ ?_)
        · simp only [Bool.or_eq_false_iff, decide_eq_false_iff_not]; omega
        · have := abcde_at (i := k.toNat) (by omega)
          rwa [Int.toNat_of_nonneg hk0] at this
      · have h : ∀ r : List Int, (List.map (fun x : Str => x.length) (List.map sOf (List.map (fun k : Int => [97 + k.toNat]) r))).sum = r.length := by
          intro r
          induction r with
          | nil => rfl
          | cons k r ih => simp only [List.map_cons, List.sum_cons, ih, List.length_cons]; simp [sOf_length]; omega
        rw [h]
        have e0 : (sOf []).length = 0 := rfl
        rw [e0]
        omega
    rw [show msgs.map (fun m => str (sOf (lineF ws m))) = (msgs.map (lineF ws)).map (fun l => str (sOf l)) by rw [List.map_map]; rfl]
    have rl : ∀ l ∈ msgs.map (lineF ws), (l.length = size ∧ l.all (fun c => decide (c < 128)) = true) ∧ (d2iF (figsF l) 1).isSome = true ∧ (readF ws l).isSome = true := fun l hl => by
      obtain ⟨m, hm, rfl⟩ := List.mem_map.mp hl
      obtain ⟨⟨⟨⟨⟨⟨q1, q2⟩, q3⟩, q4⟩, q5⟩, q6⟩, q7⟩ := r10 m hm
      exact ⟨⟨q4, List.all_eq_true.mpr fun c hc => by simpa using q5 c hc⟩, q6, by rw [q7]; rfl⟩
    have rr : (msgs.map (lineF ws)).map (fun l => (readF ws l).getD []) = msgs := by
      rw [List.map_map]
      conv => rhs; rw [← List.map_id msgs]
      refine List.map_congr_left fun m hm => ?_
      obtain ⟨⟨⟨⟨⟨⟨q1, q2⟩, q3⟩, q4⟩, q5⟩, q6⟩, q7⟩ := r10 m hm
      show (readF ws (lineF ws m)).getD [] = m
      rw [q7]; rfl
    have hll : (msgs.map (lineF ws)).length < 64 := by rw [List.length_map]; exact hml
    have r12' : (msgs.map (lineF ws)).map valF = gotW W size := by rw [← r12, List.map_map]; rfl
    generalize msgs.map (lineF ws) = lines at rl rr hll r12'
    -- if messages != sorted(messages) or [..] != []
    refine Ex.cons (Ex1.ite (b := false) (R := Nx _) (STr.fix (Tr.or (a := false) (b := false) (Tr.eq' (Tr.cmp (P := lst (intss msgs)) (Q := lst (intss msgs)) (Ev.name rfl) (Ev.sorted T rfl (Evs.cons Evs.nil (Ev.name rfl)) (Cl.sortedUp (by omega) hml (fun k k1 kn => upB_at r11 k1 kn))) (Cmp.neIntss (by omega))) (by simp)) (fun _ => Tr.eq' (Tr.cmp (Ev.compX (st' := [(Str.ofString "size", int size)]) lines (fun l => str (sOf l)) (fun l => str (sOf l)) (fun l => (l.length : Int) != (size : Int)) (It.list hh (Ev.name rfl)) rfl rfl (by decide +kernel) (.inl fun _ _ => rfl)
      (.cons rfl (fun L => ⟨_, rfl, rfl, (by first | exact .inl rfl | exact .inr rfl), (by first | exact .inl rfl | exact .inr rfl)⟩) .nil) (by rw [sizeLine_eq]; omega) (fun L l hl => Tifs.one (Tr.cmp (Ev.len T rfl (Evs.cons Evs.nil (Ev.name rfl)) (Cl.lenW (by have := (rl l hl).1.1; omega))) (Ev.name rfl) Cmp.ne)) (fun L l hl _ => Ev.name rfl)) (Ev.list Evs.nil) (Cmp.neNil hA'.units)) ?_) (fun h => by cases h))) (fun h => by cases h) (fun _ => Ex.nil ⟨rfl, rfl⟩)) (fun st' e => e.2 ▸ ?_) fun r _ e hr => absurd e.1 hr
    · have : lines.filter (fun l => (l.length : Int) != (size : Int)) = [] := by
        rw [List.filter_eq_nil_iff]
        intro l hl
        have := (rl l hl).1.1
        simp [this]
      rw [this]; rfl
    -- numbers = [..]
    refine Ex.step (Ex1.assignMapX (st' := []) lines (fun l => str (sOf l)) (fun l => int (valF l)) (It.list hh (Ev.name rfl)) (.inl rfl) rfl rfl rfl (by decide +kernel) (.inl fun _ _ => rfl) .nil (by rw [sizeLine_eq]; omega) fun L l hl => ?_) ?_
    · obtain ⟨⟨q1, q2⟩, q3, q4⟩ := rl l hl
      obtain ⟨v, hv⟩ := Option.isSome_iff_exists.mp q3
      have e : valF l = v := by unfold valF; rw [hv]; rfl
      rw [e]
      refine Ev.fn hf5.to rfl rfl (Evs.cons (Evs.cons Evs.nil Ev.cint) ?_) (d2i_ok T hf5 hT5 (hA'.le (by decide)) (figsF l) 1 v hv (by unfold figsF; rw [List.length_map, List.length_reverse]; omega))
      rw [show nums (figsF l) = lst (l.reverse.map fun c => int (if [c] == [49] then 1 else 0)) by unfold nums figsF; rw [List.map_map]; rfl]
      refine Ev.mapX (st' := []) l.reverse (fun c => str (sOf [c])) (fun c => int (if [c] == [49] then 1 else 0)) (It.eq' (It.str (x := sOf l.reverse) hh ?_ ?_) ?_) rfl rfl (by decide +kernel) (.inl fun _ _ => rfl) .nil (by rw [List.length_reverse, sizeLine_eq]; omega) fun L c hc => ?_
      · rw [← strSlice_rev]
        exact Ev.sub (Ev.name rfl) (Ev.slice EvP.none EvP.none (EvP.some (Ev.neg Ev.cint))) (Sb.strSlice rfl (by rw [strSlice_rev, sOf_length, List.length_reverse, sizeLine_eq]; omega))
      · show Array.all (l.reverse.toArray) _ = true
        simp only [List.all_toArray, List.all_reverse]
        exact q2
      · simp [signs, sOf]
      · refine Ev.ife (b := [c] == [49]) (Tr.eq' (Tr.cmp (Ev.name rfl) (Ev.cstrW (l := [49]) rfl) Cmp.eqS) (sOf_beq _ _)) (fun h => ?_) (fun h => ?_)
        · rw [if_pos h]; exact Ev.cint
        · rw [if_neg (by rw [h]; decide)]; exact Ev.cint
    rw [show lines.map (fun l => int (valF l)) = (lines.map valF).map int by rw [List.map_map]; rfl]
    -- if numbers != [..]
    refine Ex.cons (Ex1.ite (b := false) (R := Nx _) (STr.fix (Tr.eq' (Tr.cmp (P := nums (lines.map valF)) (Q := nums (gotW W size)) (Ev.name rfl) (Ev.compX (st' := [(Str.ofString "size", int size), (Str.ofString "walks", lst (intss W))]) (rng 0 (2 ^ size)) int int (fun number => (W.getD number.toNat []).contains (size : Int)) (It.eq' (It.rangeTo (b := (2 : Int) ^ ((size : Nat) : Int).toNat) T hh rfl (Ev.bin Ev.cint (Ev.name rfl) (Bin.pow (by omega) (pow_fits (by omega)))) ?_ ?_) (by rw [Int.toNat_natCast, two_pow_toNat])) rfl rfl (by decide +kernel) (.inl fun _ _ => rfl)
      (.cons rfl (fun L => ⟨_, rfl, rfl, (by first | exact .inl rfl | exact .inr rfl), (by first | exact .inl rfl | exact .inr rfl)⟩) (.cons rfl (fun L => ⟨_, rfl, rfl, (by first | exact .inl rfl | exact .inr rfl), (by first | exact .inl rfl | exact .inr rfl)⟩) .nil)) (by rw [rng_length, sizeLine_eq]; omega) (fun L number hk => Tifs.one (Tr.cmp (Ev.name rfl) (Ev.sub (Ev.name rfl) (Ev.name rfl) (Sb.get ?_ ?_ ?_)) Cmp.inInts)) (fun L l hl _ => Ev.name rfl)) (Cmp.neInts hA'.units)) ?_)) (fun h => by cases h) (fun _ => Ex.nil ⟨rfl, rfl⟩)) (fun st' e => e.2 ▸ ?_) fun r _ e hr => absurd e.1 hr
    · rw [Int.toNat_natCast, two_pow size]; exact Int.le_trans (by decide) (Int.natCast_nonneg _)
    · rw [Int.toNat_natCast, two_pow size]; exact Int.lt_of_le_of_lt (Int.ofNat_le.mpr h2s) (by decide)
    · exact (rng_mem hk).1
    · have := (rng_mem hk).2; omega
    · have h1 := (rng_mem hk).1
      have h2 := (rng_mem hk).2
      unfold intss
      rw [List.getElem?_map, List.getD_eq_getElem?_getD, List.getElem?_eq_getElem (show number.toNat < W.length by rw [hwl]; omega)]; rfl
    · rw [r12']; simp
    -- return [..] == messages
    refine Ex.ret (SEv.fix (Ev.eq' (Ev.cmp (P := lst (intss msgs)) (Q := lst (intss msgs)) (Ev.eq' (Ev.mapX (st' := [(Str.ofString "words", wds ws)]) lines (fun l => str (sOf l)) (fun l => nums ((readF ws l).getD [])) (It.list hh (Ev.name rfl)) rfl rfl (by decide +kernel) (.inl fun _ _ => rfl)
      (.cons rfl (fun L => ⟨_, rfl, rfl, (by first | exact .inl rfl | exact .inr rfl), (by first | exact .inl rfl | exact .inr rfl)⟩) .nil) (by rw [sizeLine_eq]; omega) fun L l hl => ?_) ?_) (Ev.name rfl) (Cmp.eqIntss (by omega))) (by simp))) rfl
    · obtain ⟨⟨q1, q2⟩, q3, q4⟩ := rl l hl
      obtain ⟨m, hm⟩ := Option.isSome_iff_exists.mp q4
      rw [hm]
      exact Ev.fn hf17 rfl rfl (Evs.cons (Evs.cons Evs.nil (Ev.name rfl)) (Ev.name rfl)) (read_ok T hf17 hf8 (hA'.le (by decide)) ws l m hm (by omega))
    · conv => rhs; rw [← rr]
      unfold intss
      rw [List.map_map]; rfl
end Mine
end
/-! # part P3 -/
section
open PySem PySem.W PySem.Calls PyProof.Rows PySem.SeqAt
set_option Elab.async false
set_option maxRecDepth 100000
set_option linter.unusedVariables false
namespace Mine
/-! ## the plain law: what is reckoned answers as the law says (data printed by genP3.py) -/
noncomputable abbrev Row3 := List (List Nat) × List Int × List Int
noncomputable def okB (ws : List (List Nat)) : Bool := !ws.isEmpty && decide (0 ≤ maxI (lensW ws)) && decide (maxI (lensW ws) ≤ 10) && decide (ws.length ≤ 10) && ws.all (fun w => decide ((w.length : Int) ≤ maxI (lensW ws)))
noncomputable def restR (r : Row3) : Bool := okB r.1 && restB r.1 4 r.2.1 && restB r.1 5 r.2.2
noncomputable def cd0 : List Row3 := [([[48,48,48,49],[48,48,49],[48,49],[49]],[1,1,2,4,8],[1,1,2,4,8,15]),([[48,48,48,48],[48,48,49],[48,49],[49]],[1,1,2,4,8],[1,1,2,4,8,15]),([[48,48,48,48],[48,48,48,49],[48,49],[49]],[1,1,2,3,7],[1,1,2,3,7,12]),([[48,48,48,48],[48,48,48,49],[48,48,49],[49]],[1,1,1,2,5],[1,1,1,2,5,8]),([[48,48,48,48],[48,48,48,49],[48,48,49],[48,49]],[1,0,1,1,3],[1,0,1,1,3,2]),([[48,48,48,48],[48,48,48,49],[48,48,49],[48,49],[49]],[1,1,2,4,9],[1,1,2,4,9,17])]
theorem cd0_ok : cd0.all restR = true := by decide +kernel
noncomputable def cd1 : List Row3 := [([[48,48,49,48],[48,48,49,49],[48,49],[49]],[1,1,2,3,7],[1,1,2,3,7,12]),([[48,48,48],[48,48,49,49],[48,49],[49]],[1,1,2,4,8],[1,1,2,4,8,15]),([[48,48,48],[48,48,49,48],[48,49],[49]],[1,1,2,4,8],[1,1,2,4,8,15]),([[48,48,48],[48,48,49,48],[48,48,49,49],[49]],[1,1,1,2,5],[1,1,1,2,5,8]),([[48,48,48],[48,48,49,48],[48,48,49,49],[48,49]],[1,0,1,1,3],[1,0,1,1,3,2]),([[48,48,48],[48,48,49,48],[48,48,49,49],[48,49],[49]],[1,1,2,4,9],[1,1,2,4,9,17])]
theorem cd1_ok : cd1.all restR = true := by decide +kernel
noncomputable def cd2 : List Row3 := [([[48,48,49],[48,49,48],[48,49,49],[49]],[1,1,1,4,7],[1,1,1,4,7,10]),([[48,48,48],[48,49,48],[48,49,49],[49]],[1,1,1,4,7],[1,1,1,4,7,10]),([[48,48,48],[48,48,49],[48,49,49],[49]],[1,1,1,4,7],[1,1,1,4,7,10]),([[48,48,48],[48,48,49],[48,49,48],[49]],[1,1,1,4,7],[1,1,1,4,7,10]),([[48,48,48],[48,48,49],[48,49,48],[48,49,49]],[1,0,0,4,0],[1,0,0,4,0,0]),([[48,48,48],[48,48,49],[48,49,48],[48,49,49],[49]],[1,1,1,5,9],[1,1,1,5,9,13])]
theorem cd2_ok : cd2.all restR = true := by decide +kernel
noncomputable def cd3 : List Row3 := [([[48,48,49],[48,49],[49,48],[49,49]],[1,0,3,1,9],[1,0,3,1,9,6]),([[48,48,48],[48,49],[49,48],[49,49]],[1,0,3,1,9],[1,0,3,1,9,6]),([[48,48,48],[48,48,49],[49,48],[49,49]],[1,0,2,2,4],[1,0,2,2,4,8]),([[48,48,48],[48,48,49],[48,49],[49,49]],[1,0,2,2,4],[1,0,2,2,4,8]),([[48,48,48],[48,48,49],[48,49],[49,48]],[1,0,2,2,4],[1,0,2,2,4,8]),([[48,48,48],[48,48,49],[48,49],[49,48],[49,49]],[1,0,3,2,9],[1,0,3,2,9,12])]
theorem cd3_ok : cd3.all restR = true := by decide +kernel
noncomputable def cd4 : List Row3 := [([[48,48,49],[48,49],[49]],[1,1,2,4,7],[1,1,2,4,7,13]),([[48,48,48],[48,49],[49]],[1,1,2,4,7],[1,1,2,4,7,13]),([[48,48,48],[48,48,49],[49]],[1,1,1,3,5],[1,1,1,3,5,7]),([[48,48,48],[48,48,49],[48,49]],[1,0,1,2,1],[1,0,1,2,1,4]),([[48,48,48],[48,48,49],[48,49],[49]],[1,1,2,5,9],[1,1,2,5,9,18]),([[48,49,48,48],[48,49,48,49],[48,49,49],[49]],[1,1,1,2,5],[1,1,1,2,5,8])]
theorem cd4_ok : cd4.all restR = true := by decide +kernel
noncomputable def cd5 : List Row3 := [([[48,48],[48,49,48,49],[48,49,49],[49]],[1,1,2,4,8],[1,1,2,4,8,15]),([[48,48],[48,49,48,48],[48,49,49],[49]],[1,1,2,4,8],[1,1,2,4,8,15]),([[48,48],[48,49,48,48],[48,49,48,49],[49]],[1,1,2,3,7],[1,1,2,3,7,12]),([[48,48],[48,49,48,48],[48,49,48,49],[48,49,49]],[1,0,1,1,3],[1,0,1,1,3,2]),([[48,48],[48,49,48,48],[48,49,48,49],[48,49,49],[49]],[1,1,2,4,9],[1,1,2,4,9,17]),([[48,49,48],[48,49,49,48],[48,49,49,49],[49]],[1,1,1,2,5],[1,1,1,2,5,8])]
theorem cd5_ok : cd5.all restR = true := by decide +kernel
noncomputable def cd6 : List Row3 := [([[48,48],[48,49,49,48],[48,49,49,49],[49]],[1,1,2,3,7],[1,1,2,3,7,12]),([[48,48],[48,49,48],[48,49,49,49],[49]],[1,1,2,4,8],[1,1,2,4,8,15]),([[48,48],[48,49,48],[48,49,49,48],[49]],[1,1,2,4,8],[1,1,2,4,8,15]),([[48,48],[48,49,48],[48,49,49,48],[48,49,49,49]],[1,0,1,1,3],[1,0,1,1,3,2]),([[48,48],[48,49,48],[48,49,49,48],[48,49,49,49],[49]],[1,1,2,4,9],[1,1,2,4,9,17]),([[48,49,48],[48,49,49],[49,48],[49,49]],[1,0,2,2,4],[1,0,2,2,4,8])]
theorem cd6_ok : cd6.all restR = true := by decide +kernel
noncomputable def cd7 : List Row3 := [([[48,48],[48,49,49],[49,48],[49,49]],[1,0,3,1,9],[1,0,3,1,9,6]),([[48,48],[48,49,48],[49,48],[49,49]],[1,0,3,1,9],[1,0,3,1,9,6]),([[48,48],[48,49,48],[48,49,49],[49,49]],[1,0,2,2,4],[1,0,2,2,4,8]),([[48,48],[48,49,48],[48,49,49],[49,48]],[1,0,2,2,4],[1,0,2,2,4,8]),([[48,48],[48,49,48],[48,49,49],[49,48],[49,49]],[1,0,3,2,9],[1,0,3,2,9,12]),([[48,49,48],[48,49,49],[49]],[1,1,1,3,5],[1,1,1,3,5,7])]
theorem cd7_ok : cd7.all restR = true := by decide +kernel
noncomputable def cd8 : List Row3 := [([[48,48],[48,49,49],[49]],[1,1,2,4,7],[1,1,2,4,7,13]),([[48,48],[48,49,48],[49]],[1,1,2,4,7],[1,1,2,4,7,13]),([[48,48],[48,49,48],[48,49,49]],[1,0,1,2,1],[1,0,1,2,1,4]),([[48,48],[48,49,48],[48,49,49],[49]],[1,1,2,5,9],[1,1,2,5,9,18]),([[48,49],[49,48,48],[49,48,49],[49,49]],[1,0,2,2,4],[1,0,2,2,4,8]),([[48,48],[49,48,48],[49,48,49],[49,49]],[1,0,2,2,4],[1,0,2,2,4,8])]
theorem cd8_ok : cd8.all restR = true := by decide +kernel
noncomputable def cd9 : List Row3 := [([[48,48],[48,49],[49,48,49],[49,49]],[1,0,3,1,9],[1,0,3,1,9,6]),([[48,48],[48,49],[49,48,48],[49,49]],[1,0,3,1,9],[1,0,3,1,9,6]),([[48,48],[48,49],[49,48,48],[49,48,49]],[1,0,2,2,4],[1,0,2,2,4,8]),([[48,48],[48,49],[49,48,48],[49,48,49],[49,49]],[1,0,3,2,9],[1,0,3,2,9,12]),([[48,49],[49,48],[49,49,48],[49,49,49]],[1,0,2,2,4],[1,0,2,2,4,8]),([[48,48],[49,48],[49,49,48],[49,49,49]],[1,0,2,2,4],[1,0,2,2,4,8])]
theorem cd9_ok : cd9.all restR = true := by decide +kernel
noncomputable def cd10 : List Row3 := [([[48,48],[48,49],[49,49,48],[49,49,49]],[1,0,2,2,4],[1,0,2,2,4,8]),([[48,48],[48,49],[49,48],[49,49,49]],[1,0,3,1,9],[1,0,3,1,9,6]),([[48,48],[48,49],[49,48],[49,49,48]],[1,0,3,1,9],[1,0,3,1,9,6]),([[48,48],[48,49],[49,48],[49,49,48],[49,49,49]],[1,0,3,2,9],[1,0,3,2,9,12]),([[48,49],[49,48],[49,49]],[1,0,3,0,9],[1,0,3,0,9,0]),([[48,48],[49,48],[49,49]],[1,0,3,0,9],[1,0,3,0,9,0])]
theorem cd10_ok : cd10.all restR = true := by decide +kernel
noncomputable def cd11 : List Row3 := [([[48,48],[48,49],[49,49]],[1,0,3,0,9],[1,0,3,0,9,0]),([[48,48],[48,49],[49,48]],[1,0,3,0,9],[1,0,3,0,9,0]),([[48,48],[48,49],[49,48],[49,49]],[1,0,4,0,16],[1,0,4,0,16,0]),([[48,49],[49]],[1,1,2,3,5],[1,1,2,3,5,8]),([[48,48],[49]],[1,1,2,3,5],[1,1,2,3,5,8]),([[48,48],[48,49]],[1,0,2,0,4],[1,0,2,0,4,0])]
theorem cd11_ok : cd11.all restR = true := by decide +kernel
noncomputable def cd12 : List Row3 := [([[48,48],[48,49],[49]],[1,1,3,5,11],[1,1,3,5,11,21]),([[49,48,48,48],[49,48,48,49],[49,48,49],[49,49]],[1,0,1,1,3],[1,0,1,1,3,2]),([[48],[49,48,48,49],[49,48,49],[49,49]],[1,1,2,4,8],[1,1,2,4,8,15]),([[48],[49,48,48,48],[49,48,49],[49,49]],[1,1,2,4,8],[1,1,2,4,8,15]),([[48],[49,48,48,48],[49,48,48,49],[49,49]],[1,1,2,3,7],[1,1,2,3,7,12]),([[48],[49,48,48,48],[49,48,48,49],[49,48,49]],[1,1,1,2,5],[1,1,1,2,5,8])]
theorem cd12_ok : cd12.all restR = true := by decide +kernel
noncomputable def cd13 : List Row3 := [([[48],[49,48,48,48],[49,48,48,49],[49,48,49],[49,49]],[1,1,2,4,9],[1,1,2,4,9,17]),([[49,48,48],[49,48,49,48],[49,48,49,49],[49,49]],[1,0,1,1,3],[1,0,1,1,3,2]),([[48],[49,48,49,48],[49,48,49,49],[49,49]],[1,1,2,3,7],[1,1,2,3,7,12]),([[48],[49,48,48],[49,48,49,49],[49,49]],[1,1,2,4,8],[1,1,2,4,8,15]),([[48],[49,48,48],[49,48,49,48],[49,49]],[1,1,2,4,8],[1,1,2,4,8,15]),([[48],[49,48,48],[49,48,49,48],[49,48,49,49]],[1,1,1,2,5],[1,1,1,2,5,8])]
theorem cd13_ok : cd13.all restR = true := by decide +kernel
noncomputable def cd14 : List Row3 := [([[48],[49,48,48],[49,48,49,48],[49,48,49,49],[49,49]],[1,1,2,4,9],[1,1,2,4,9,17]),([[49,48,48],[49,48,49],[49,49,48],[49,49,49]],[1,0,0,4,0],[1,0,0,4,0,0]),([[48],[49,48,49],[49,49,48],[49,49,49]],[1,1,1,4,7],[1,1,1,4,7,10]),([[48],[49,48,48],[49,49,48],[49,49,49]],[1,1,1,4,7],[1,1,1,4,7,10]),([[48],[49,48,48],[49,48,49],[49,49,49]],[1,1,1,4,7],[1,1,1,4,7,10]),([[48],[49,48,48],[49,48,49],[49,49,48]],[1,1,1,4,7],[1,1,1,4,7,10])]
theorem cd14_ok : cd14.all restR = true := by decide +kernel
noncomputable def cd15 : List Row3 := [([[48],[49,48,48],[49,48,49],[49,49,48],[49,49,49]],[1,1,1,5,9],[1,1,1,5,9,13]),([[49,48,48],[49,48,49],[49,49]],[1,0,1,2,1],[1,0,1,2,1,4]),([[48],[49,48,49],[49,49]],[1,1,2,4,7],[1,1,2,4,7,13]),([[48],[49,48,48],[49,49]],[1,1,2,4,7],[1,1,2,4,7,13]),([[48],[49,48,48],[49,48,49]],[1,1,1,3,5],[1,1,1,3,5,7]),([[48],[49,48,48],[49,48,49],[49,49]],[1,1,2,5,9],[1,1,2,5,9,18])]
theorem cd15_ok : cd15.all restR = true := by decide +kernel
noncomputable def cd16 : List Row3 := [([[49,48],[49,49,48,48],[49,49,48,49],[49,49,49]],[1,0,1,1,3],[1,0,1,1,3,2]),([[48],[49,49,48,48],[49,49,48,49],[49,49,49]],[1,1,1,2,5],[1,1,1,2,5,8]),([[48],[49,48],[49,49,48,49],[49,49,49]],[1,1,2,4,8],[1,1,2,4,8,15]),([[48],[49,48],[49,49,48,48],[49,49,49]],[1,1,2,4,8],[1,1,2,4,8,15]),([[48],[49,48],[49,49,48,48],[49,49,48,49]],[1,1,2,3,7],[1,1,2,3,7,12]),([[48],[49,48],[49,49,48,48],[49,49,48,49],[49,49,49]],[1,1,2,4,9],[1,1,2,4,9,17])]
theorem cd16_ok : cd16.all restR = true := by decide +kernel
noncomputable def cd17 : List Row3 := [([[49,48],[49,49,48],[49,49,49,48],[49,49,49,49]],[1,0,1,1,3],[1,0,1,1,3,2]),([[48],[49,49,48],[49,49,49,48],[49,49,49,49]],[1,1,1,2,5],[1,1,1,2,5,8]),([[48],[49,48],[49,49,49,48],[49,49,49,49]],[1,1,2,3,7],[1,1,2,3,7,12]),([[48],[49,48],[49,49,48],[49,49,49,49]],[1,1,2,4,8],[1,1,2,4,8,15]),([[48],[49,48],[49,49,48],[49,49,49,48]],[1,1,2,4,8],[1,1,2,4,8,15]),([[48],[49,48],[49,49,48],[49,49,49,48],[49,49,49,49]],[1,1,2,4,9],[1,1,2,4,9,17])]
theorem cd17_ok : cd17.all restR = true := by decide +kernel
noncomputable def cd18 : List Row3 := [([[49,48],[49,49,48],[49,49,49]],[1,0,1,2,1],[1,0,1,2,1,4]),([[48],[49,49,48],[49,49,49]],[1,1,1,3,5],[1,1,1,3,5,7]),([[48],[49,48],[49,49,49]],[1,1,2,4,7],[1,1,2,4,7,13]),([[48],[49,48],[49,49,48]],[1,1,2,4,7],[1,1,2,4,7,13]),([[48],[49,48],[49,49,48],[49,49,49]],[1,1,2,5,9],[1,1,2,5,9,18]),([[49,48],[49,49]],[1,0,2,0,4],[1,0,2,0,4,0])]
theorem cd18_ok : cd18.all restR = true := by decide +kernel
noncomputable def cd19 : List Row3 := [([[48],[49,49]],[1,1,2,3,5],[1,1,2,3,5,8]),([[48],[49,48]],[1,1,2,3,5],[1,1,2,3,5,8]),([[48],[49,48],[49,49]],[1,1,3,5,11],[1,1,3,5,11,21])]
theorem cd19_ok : cd19.all restR = true := by decide +kernel
noncomputable def codes : List Row3 := cd0 ++ cd1 ++ cd2 ++ cd3 ++ cd4 ++ cd5 ++ cd6 ++ cd7 ++ cd8 ++ cd9 ++ cd10 ++ cd11 ++ cd12 ++ cd13 ++ cd14 ++ cd15 ++ cd16 ++ cd17 ++ cd18 ++ cd19
theorem codes_ok : codes.all restR = true := by
  unfold codes
  simp only [List.all_append, cd0_ok, cd1_ok, cd2_ok, cd3_ok, cd4_ok, cd5_ok, cd6_ok, cd7_ok, cd8_ok, cd9_ok, cd10_ok, cd11_ok, cd12_ok, cd13_ok, cd14_ok, cd15_ok, cd16_ok, cd17_ok, cd18_ok, cd19_ok, Bool.and_self]
noncomputable def countsD (ds : List Int) (size width : Int) : Option (List Int) :=
  match d2iF ds width with
  | some d => (match dmF (2 ^ (width * (((ds.length : Int) - 1) + size)).toNat) d with
    | some (q, r) => (match i2dF q width with
      | some l => if l.length ≤ 1000 then some l.reverse else none
      | none => none)
    | none => none)
  | none => none
noncomputable abbrev Row4 := List Int × List Int × List Int
noncomputable def countR (r : Row4) : Bool := (rng 8 9).all fun w => (countsD r.1 4 w == some r.2.1) && (countsD r.1 5 w == some r.2.2)
noncomputable def ds0 : Row4 := ([-1,-1,-1,-1,1],[1,1,2,4,8],[1,1,2,4,8,15])
theorem ds0_ok : countR ds0 = true := by decide +kernel
noncomputable def ds1 : Row4 := ([-2,0,-1,-1,1],[1,1,2,3,7],[1,1,2,3,7,12])
theorem ds1_ok : countR ds1 = true := by decide +kernel
noncomputable def ds2 : Row4 := ([-2,-1,0,-1,1],[1,1,1,2,5],[1,1,1,2,5,8])
theorem ds2_ok : countR ds2 = true := by decide +kernel
noncomputable def ds3 : Row4 := ([-2,-1,-1,0,1],[1,0,1,1,3],[1,0,1,1,3,2])
theorem ds3_ok : countR ds3 = true := by decide +kernel
noncomputable def ds4 : Row4 := ([-2,-1,-1,-1,1],[1,1,2,4,9],[1,1,2,4,9,17])
theorem ds4_ok : countR ds4 = true := by decide +kernel
noncomputable def ds5 : Row4 := ([-3,0,-1,1],[1,1,1,4,7],[1,1,1,4,7,10])
theorem ds5_ok : countR ds5 = true := by decide +kernel
noncomputable def ds6 : Row4 := ([-4,0,0,1],[1,0,0,4,0],[1,0,0,4,0,0])
theorem ds6_ok : countR ds6 = true := by decide +kernel
noncomputable def ds7 : Row4 := ([-4,0,-1,1],[1,1,1,5,9],[1,1,1,5,9,13])
theorem ds7_ok : countR ds7 = true := by decide +kernel
noncomputable def ds8 : Row4 := ([-1,-3,0,1],[1,0,3,1,9],[1,0,3,1,9,6])
theorem ds8_ok : countR ds8 = true := by decide +kernel
noncomputable def ds9 : Row4 := ([-2,-2,0,1],[1,0,2,2,4],[1,0,2,2,4,8])
theorem ds9_ok : countR ds9 = true := by decide +kernel
noncomputable def ds10 : Row4 := ([-2,-3,0,1],[1,0,3,2,9],[1,0,3,2,9,12])
theorem ds10_ok : countR ds10 = true := by decide +kernel
noncomputable def ds11 : Row4 := ([-1,-1,-1,1],[1,1,2,4,7],[1,1,2,4,7,13])
theorem ds11_ok : countR ds11 = true := by decide +kernel
noncomputable def ds12 : Row4 := ([-2,0,-1,1],[1,1,1,3,5],[1,1,1,3,5,7])
theorem ds12_ok : countR ds12 = true := by decide +kernel
noncomputable def ds13 : Row4 := ([-2,-1,0,1],[1,0,1,2,1],[1,0,1,2,1,4])
theorem ds13_ok : countR ds13 = true := by decide +kernel
noncomputable def ds14 : Row4 := ([-2,-1,-1,1],[1,1,2,5,9],[1,1,2,5,9,18])
theorem ds14_ok : countR ds14 = true := by decide +kernel
noncomputable def ds15 : Row4 := ([-3,0,1],[1,0,3,0,9],[1,0,3,0,9,0])
theorem ds15_ok : countR ds15 = true := by decide +kernel
noncomputable def ds16 : Row4 := ([-4,0,1],[1,0,4,0,16],[1,0,4,0,16,0])
theorem ds16_ok : countR ds16 = true := by decide +kernel
noncomputable def ds17 : Row4 := ([-1,-1,1],[1,1,2,3,5],[1,1,2,3,5,8])
theorem ds17_ok : countR ds17 = true := by decide +kernel
noncomputable def ds18 : Row4 := ([-2,0,1],[1,0,2,0,4],[1,0,2,0,4,0])
theorem ds18_ok : countR ds18 = true := by decide +kernel
noncomputable def ds19 : Row4 := ([-2,-1,1],[1,1,3,5,11],[1,1,3,5,11,21])
theorem ds19_ok : countR ds19 = true := by decide +kernel
noncomputable def dss : List Row4 := [ds0,ds1,ds2,ds3,ds4,ds5,ds6,ds7,ds8,ds9,ds10,ds11,ds12,ds13,ds14,ds15,ds16,ds17,ds18,ds19]
theorem dss_ok : dss.all countR = true := by
  unfold dss
  simp only [List.all_cons, List.all_nil, ds0_ok, ds1_ok, ds2_ok, ds3_ok, ds4_ok, ds5_ok, ds6_ok, ds7_ok, ds8_ok, ds9_ok, ds10_ok, ds11_ok, ds12_ok, ds13_ok, ds14_ok, ds15_ok, ds16_ok, ds17_ok, ds18_ok, ds19_ok, Bool.and_self]
theorem codes_ds : (codes.all fun r => dss.contains (digitsF r.1, r.2.1, r.2.2)) = true := by decide +kernel
theorem codes_all : ((List.range 2).all fun a => (List.range 4).all fun b => (List.range 5).all fun c => (List.range 6).all fun d => codes.any fun r => r.1 == codeP a b c d) = true := by decide +kernel
end Mine
end
/-! # part P4 -/
section
open PySem PySem.W PySem.Calls PyProof.Rows PySem.SeqAt
set_option Elab.async false
set_option maxRecDepth 100000
set_option linter.unusedVariables false
namespace Mine
theorem stepC_P (ns : List Int) (ws : List (List Nat)) (k : Int) : stepC ns ws k = stepP (placeC ns k ws.length).toNat ws := rfl
theorem stepP_len {p : Nat} {ws : List (List Nat)} : (stepP p ws).length ≤ ws.length + 1 := by
  unfold stepP
  split
  · simp only [List.length_append, List.length_take, List.length_drop, List.length_cons, List.length_nil]; omega
  · omega
theorem placeC_lt (ns : List Int) {k : Int} {n m : Nat} (h : n ≤ m) (hk : (k == 0) = false) : (placeC ns k n).toNat < m + 1 := by
  have := placeC_pos ns k n
  have e : modC k n = (n : Int) + 1 := by unfold modC; rw [if_neg (by rw [hk]; decide)]
  rw [e] at this
  omega
theorem placeC_lt0 (ns : List Int) (n : Nat) : (placeC ns 0 n).toNat < 2 := by
  have := placeC_pos ns 0 n
  have e : modC 0 n = 2 := rfl
  rw [e] at this
  omega
theorem code_P (ns : List Int) : ∃ a b c d : Nat, a < 2 ∧ b < 4 ∧ c < 5 ∧ d < 6 ∧ codeF ns = codeP a b c d := by
  have e3 : rng 0 3 = [0, 1, 2] := by decide
  let w1 := stepP (placeC ns 0 2).toNat [[48], [49]]
  let w2 := stepP (placeC ns 1 w1.length).toNat w1
  let w3 := stepP (placeC ns 2 w2.length).toNat w2
  have et : treeF ns = w3 := by unfold treeF; rw [e3]; rfl
  have l1 : w1.length ≤ 3 := stepP_len
  have l2 : w2.length ≤ 4 := Nat.le_trans stepP_len (by omega)
  have l3 : w3.length ≤ 5 := Nat.le_trans stepP_len (by omega)
  refine ⟨(placeC ns 0 2).toNat, (placeC ns 1 w1.length).toNat, (placeC ns 2 w2.length).toNat, ((ns.getD 3 0).fmod ((w3.length : Int) + 1)).toNat, placeC_lt0 ns 2, placeC_lt ns l1 rfl, placeC_lt ns l2 rfl, ?_, ?_⟩
  · have h0 : (0 : Int) < (w3.length : Int) + 1 := by omega
    have h1 := Int.fmod_nonneg_of_pos (ns.getD 3 0) h0
    have h2 := Int.fmod_lt_of_pos (ns.getD 3 0) h0
    omega
  · unfold codeF
    rw [et]
    rfl
theorem code_mem (ns : List Int) : ∃ r ∈ codes, codeF ns = r.1 := by
  obtain ⟨a, b, c, d, ha, hb, hc, hd, e⟩ := code_P ns
  have h := codes_all
  have h1 := List.all_eq_true.mp h a (List.mem_range.mpr ha)
  have h2 := List.all_eq_true.mp h1 b (List.mem_range.mpr hb)
  have h3 := List.all_eq_true.mp h2 c (List.mem_range.mpr hc)
  have h4 := List.all_eq_true.mp h3 d (List.mem_range.mpr hd)
  obtain ⟨r, hr, q⟩ := List.any_eq_true.mp h4
  exact ⟨r, hr, e.trans (beq_iff_eq.mp q).symm⟩
theorem digits_len (ws : List (List Nat)) : (digitsF ws).length = (maxI (lensW ws)).toNat + 1 := by
  unfold digitsF; rw [stepK_len]; simp
theorem okK_of {ws : List (List Nat)} {size width : Int} (h : okB ws = true) (hs0 : 0 ≤ size) (hs : size ≤ 10) (hw0 : 8 ≤ width) (hw : width ≤ 16) : okK ws size width = true := by
  unfold okB at h
  simp only [Bool.and_eq_true, decide_eq_true_eq] at h
  obtain ⟨⟨⟨⟨h1, h2⟩, h3⟩, h4⟩, h5⟩ := h
  unfold okK
  have hb : Builtin.Int.intBits width ≤ 64 := by
    have : ∀ i : Fin 17, Builtin.Int.intBits ((i.val : Nat) : Int) ≤ 64 := by decide +kernel
    have := this ⟨width.toNat, by omega⟩
    rwa [show ((width.toNat : Nat) : Int) = width by omega] at this
  generalize maxI (lensW ws) = m at h2 h3 h5
  have hm : 0 ≤ width * (m + size) := Int.mul_nonneg (by omega) (by omega)
  have hm2 : width * (m + size) ≤ 16 * 20 := Int.mul_le_mul hw (by omega) (by omega) (by decide)
  simp only [Bool.and_eq_true, decide_eq_true_eq]
  refine ⟨⟨⟨⟨⟨⟨⟨h1, h2⟩, by omega⟩, by omega⟩, h5⟩, hb⟩, hm⟩, ?_⟩
  rw [bits2]
  omega
theorem counts_D {ws : List (List Nat)} {size width : Int} (h : okB ws = true) (hs0 : 0 ≤ size) (hs : size ≤ 10) (hw0 : 8 ≤ width) (hw : width ≤ 16) : countsF ws size width = countsD (digitsF ws) size width := by
  unfold countsF countsD
  rw [if_pos (okK_of h hs0 hs hw0 hw), digits_len]
  unfold okB at h
  simp only [Bool.and_eq_true, decide_eq_true_eq] at h
  obtain ⟨⟨⟨⟨h1, h2⟩, h3⟩, h4⟩, h5⟩ := h
  rw [show ((((maxI (lensW ws)).toNat + 1 : Nat) : Int) - 1) = maxI (lensW ws) by omega]
  all_goals rfl
/-- whatever the script's sums are -/
theorem plain_law (ns : List Int) : ∃ (size : Nat) (counts : List Int), 4 + (ns.getD 4 0).fmod 2 = (size : Int) ∧ countsF (codeF ns) size (8 + ((ns.getD 4 0).fdiv 2).fmod 9) = some counts ∧ restB (codeF ns) size counts = true := by
  obtain ⟨r, hr, e⟩ := code_mem ns
  have h1 := List.all_eq_true.mp codes_ok r hr
  have h2 := List.contains_iff_mem.mp (List.all_eq_true.mp codes_ds r hr)
  have h3 := List.all_eq_true.mp dss_ok _ h2
  unfold restR at h1
  simp only [Bool.and_eq_true] at h1
  obtain ⟨⟨o1, o2⟩, o3⟩ := h1
  unfold countR at h3
  have w0 := Int.fmod_nonneg_of_pos ((ns.getD 4 0).fdiv 2) (show (0 : Int) < 9 by decide)
  have w1 := Int.fmod_lt_of_pos ((ns.getD 4 0).fdiv 2) (show (0 : Int) < 9 by decide)
  have s0 := Int.fmod_nonneg_of_pos (ns.getD 4 0) (show (0 : Int) < 2 by decide)
  have s1 := Int.fmod_lt_of_pos (ns.getD 4 0) (show (0 : Int) < 2 by decide)
  generalize ((ns.getD 4 0).fdiv 2).fmod 9 = w at w0 w1
  generalize (ns.getD 4 0).fmod 2 = s at s0 s1
  have hw : 8 + w ∈ rng 8 9 := by
    unfold rng
    exact List.mem_map.mpr ⟨w.toNat, List.mem_range.mpr (by omega), by omega⟩
  have h4 := List.all_eq_true.mp h3 _ hw
  simp only [Bool.and_eq_true, beq_iff_eq] at h4
  obtain ⟨c4, c5⟩ := h4
  rw [e]
  by_cases hs : s = 0
  · refine ⟨4, r.2.1, by omega, ?_, o2⟩
    rw [counts_D o1 (by decide) (by decide) (by omega) (by omega)]
    exact c4
  · refine ⟨5, r.2.2, by omega, ?_, o3⟩
    rw [counts_D o1 (by decide) (by decide) (by omega) (by omega)]
    exact c5
end Mine
end
/-! # part A1 -/
section
open PySem PySem.W PySem.Calls PyProof.Rows PySem.SeqAt
set_option Elab.async false
set_option maxRecDepth 100000
set_option linter.unusedVariables false
namespace Mine
/-! ## the law's own call, and the world that the top leaves -/
theorem Cd.fn {C : Cx} {A : Around} {k : Nat} {a : Addr} {n : Nat} {names : List Str} {ps : List Pd} {P : Pd} (hA : Rm (k + 1) A) (hf : FnAt C n a)
    (hlen : names.length = ps.length) (hnd : names.Nodup) (hbind : ∀ pm code doc vs, vs.length = names.length → bindArgs (fdAt n pm code doc) ⟨vs, []⟩ = pure (names.zip vs))
    (hkind : ∀ m, (names.all fun x => (scopeOf n).names.lookup x == some .local || ((scopeOf n).names.lookup x == some .cell && ((cellsFrom m (scopeOf n).names []).lookup x).isSome)) = true)
    (hco : (scopeOf n).isCoroutine = false) (hgen : (scopeOf n).isGenerator = false) (hk : (scopeOf n).kind = .function)
    (h : ∀ pm code doc L, Ex C (A.deeper (callEnvC (fdAt n pm code doc) L a)) (callEnvC (fdAt n pm code doc) L a) (bodyOf n) (names.zip (ps.map Ent.fix)) (fun r _ => r = .ret P))
    {fz : Fz} {s : Shared} {vs : List Value} (W : Wf C fz s) (h2 : All2 fz ps vs) : codeAny (M C) A (.call (.ref a) ⟨vs, []⟩) (fun r s' => ∃ v, r = .ok (.ret v) ∧ Rs C fz s P v s') s := by
  obtain ⟨o, pm, code, doc, ho, hd, hcd⟩ := hf.obj
  have hvl : vs.length = names.length := by rw [← h2.length, hlen]
  refine codeAny_call_cells (fd := fdAt n pm code doc) hA.room (W.keeps _ _ ho) hd W.nolimit (hcd.keeps W.keeps) rfl (hbind pm code doc vs hvl) rfl ?_ (fun s₁ X => ?_) hco hgen hk
  · intro x hx
    exact kinds_of hkind _ x.1 (List.of_mem_zip hx).1
  · generalize hfd : fdAt n pm code doc = fd at X
    have hsc : fd.scope = scopeOf n := by rw [← hfd]; rfl
    have hgl : fd.globals = mainGlobals := by rw [← hfd]; rfl
    have hbl : fd.builtins = builtinsNs := by rw [← hfd]; rfl
    have hfr := heap_fresh s.heap
    have hkeep := X.toInCall.keep
    obtain ⟨h₁, tk, rfl⟩ := X.toInCall.same
    have G := Grow.keep (tk := tk) W hkeep
    have above : ∀ n c, (n, c) ∈ (callEnvC fd s.heap.objs.size a).cells → s.heap.get? c = none := fun n c hm => by
      cases e : s.heap.get? c with
      | none => rfl
      | some o => exact absurd (Nat.lt_trans (X.above n c hm) (Heap.lt_size e)) (Nat.lt_irrefl _)
    have hzn : ((names.zip vs).map (·.1)).Nodup := by rw [List.map_fst_zip (by omega)]; exact hnd
    have F : FmA C (callEnvC fd s.heap.objs.size a) (names.zip (ps.map Ent.fix)) (fun _ => 0) (exAll C s.heap) fz { s with heap := h₁, toks := tk } := by
      refine ⟨⟨by show fd.scope.kind = _; rw [hsc]; exact hk, hgl, hbl⟩, fun x P hx => ?_, fun x pl qs hx => absurd hx lookup_zip_own, fun x y pl ps ql qs _ hx => absurd hx lookup_zip_own, ?_, fun x c _ hc => ?_, ⟨_, X.toInCall.ns⟩, fun x c hc => ⟨_, X.cell x c hc⟩,
        fun x y c hx hy => name_of_addr X.apart (mem_of_lookup hx) (mem_of_lookup hy), fun a o e => hkeep a o (exAll_get e), exAll_new hfr, fun x c _ hc => exAll_new (above x c (mem_of_lookup hc))⟩
      · obtain ⟨i, h1, h3⟩ := lookup_zip_get hx
        obtain ⟨v, hv, hp⟩ := h2.get h3
        have hmem : (x, v) ∈ names.zip vs := List.mem_of_getElem? (i := i) (List.getElem?_zip_eq_some (z := (x, v)) |>.mpr ⟨h1, hv⟩)
        refine ⟨v, ?_, hp⟩
        rcases kinds_of hkind (s.heap.objs.size + 1) x (List.mem_of_getElem? h1) with hl | ⟨hl, hc⟩
        · have hl' : (callEnvC fd s.heap.objs.size a).kindOf x = some .local := by show fd.scope.names.lookup x = _; rw [hsc]; exact hl
          exact .inl ⟨hl', _, X.toInCall.ns, bindL_in hl' hzn hmem⟩
        · have hl' : (callEnvC fd s.heap.objs.size a).kindOf x = some .cell := by show fd.scope.names.lookup x = _; rw [hsc]; exact hl
          obtain ⟨c, hc⟩ := Option.isSome_iff_exists.mp hc
          have hc' : (callEnvC fd s.heap.objs.size a).cells.lookup x = some c := by
            rw [← hc, ← hsc]
            have : fd.closure = [] := by rw [← hfd]; rfl
            show (cellsFrom (s.heap.objs.size + 1) fd.scope.names []).lookup x = _
            rfl
          have := X.cell x c hc'
          rw [bindC_in (by rw [hl']; decide) hzn hmem] at this
          exact .inr ⟨.inl hl', c, hc', this⟩
      · cases e : fz s.heap.objs.size with
        | none => exact e
        | some o => have := W.le _ _ e; rw [hfr] at this; cases this
      · cases e : fz c with
        | none => rfl
        | some o => have := W.le _ _ e; rw [above x c (mem_of_lookup hc)] at this; cases this
    have hx := h pm code doc s.heap.objs.size
    rw [hfd] at hx
    refine wpAny_mono (hx _ fz _ exAll_ok G.wf ⟨_, F⟩) (fun fl s₂ ⟨r, st₂, f₂, a1, a2, a3, ⟨ad₂, F₂⟩, a5⟩ => ?_) fun _ _ e => e.elim
    subst a1
    cases fl with
    | ret v => exact ⟨v, rfl, f₂, grow_of_ex W a3 F₂.exle a5, a2⟩
    | _ => exact a2.elim
end Mine
end
/-! # part A2 -/
section
open PySem PySem.W PySem.Calls PyProof.Rows PySem.SeqAt
set_option Elab.async false
set_option maxRecDepth 100000
set_option linter.unusedVariables false
namespace Mine
/-! ## what the written part of the heap must show -/
noncomputable def pmK (K : Frag) (a : Addr) : Value := match K.lookup a with
  | some ⟨_, _, .func fd, _⟩ => fd.pyModule
  | _ => .none
noncomputable def codeNm (K : Frag) (c : Addr) (q : Str) : Bool := match K.lookup c with
  | some ⟨_, _, .fields vs, _⟩ => (match (vs[1]? : Option Value) with | some (.str x _) => x == q | _ => false)
  | _ => false
theorem codeNm_rec {K : Frag} {h : Heap} {c : Addr} {q : Str} (X : K.In h) (e : codeNm K c q = true) : h.CodeRec (.ref c) q := by
  unfold codeNm at e
  split at e
  · rename_i vs _ hk
    split at e
    · rename_i x t hv
      rw [eq_of_beq e] at hv
      exact ⟨c, _, vs, t, rfl, X _ _ hk, rfl, hv⟩
    · cases e
  · cases e
structure FnK (K : Frag) (n : Nat) (a c : Addr) : Prop where
  ns : nsIn K mainGlobals (nameOf n) = some (some (.ref a))
  obj : K.lookup a = some { cls := .type "function", data := .func (fdAt n (pmK K a) (.ref c) .none) }
  code : codeNm K c (nameOf n) = true
theorem FnK.at {C : Cx} {K : Frag} {n : Nat} {a c : Addr} (h : FnK K n a c) (X : K.In C.h0) : FnAtC C n a (.ref c) :=
  ⟨mg_of X C.g h.ns, _, pmK K a, .none, X _ _ h.obj, rfl, codeNm_rec X h.code⟩
noncomputable def limIn (K : Frag) : Bool := match nsIn K mainGlobals (Str.ofString "_DIV_LIMIT") with
  | some (some (.int i _)) => i == 4000
  | _ => false
noncomputable def tokOf : Value → Tok
  | .int _ t => t
  | _ => 0
noncomputable def seqOf (d : Data) : Array Value := match d with | .seq vs _ => vs | _ => #[]
noncomputable def epOf (d : Data) : Nat := match d with | .seq _ n => n | _ => 0
noncomputable def datK (K : Frag) (a : Addr) : Data := match K.lookup a with | some o => o.data | none => .plain
theorem ns_some_of {K : Frag} {h : Heap} {N : Addr} {mm : Str → Option Value} {n : Str} {v : Value} (X : K.In h) (G : h.Ns N mm) (e : nsIn K N n = some (some v)) : mm n = some v := by
  obtain ⟨o, es, ep, ho, hd, _, hf⟩ := G
  unfold nsIn at e
  split at e
  · rename_i c d es' n' sl q
    have := X _ _ q
    rw [ho] at this
    cases this
    cases hd
    split at e
    · rename_i en he
      cases e
      rw [← hf]
      unfold nsFind findBy
      rw [← Array.find?_toList, he]
      rfl
    · split at e <;> cases e
  · cases e
structure Chk (K : Frag) : Prop where
  no : noTabs K = true
  free : (bnames.all fun x => match nsIn K mainGlobals x with | some none => true | _ => false) = true
  lim : limIn K = true
  f2 : FnK K 2 21 20
  f4 : FnK K 4 35 34
  f5 : FnK K 5 42 41
  f6 : FnK K 6 49 48
  f10 : FnK K 10 65 64
  f12 : FnK K 12 72 71
  f13 : FnK K 13 77 76
  f14 : FnK K 14 82 81
  f15 : FnK K 15 89 88
  f16 : FnK K 16 96 95
  f17 : FnK K 17 103 102
  f18 : FnK K 18 108 107
  b1 : nsIn K mainGlobals (nameOf 8) = some (some (.ref 58))
  b2 : K.lookup 58 = some { cls := .type "function", data := .func (fdBis (pmK K 58) (.ref 57) .none 50 51) }
  b3 : codeNm K 57 (nameOf 8) = true
  b4 : K.lookup 50 = some { cls := .type "tuple", data := .seq #[.int 0 (tokOf ((seqOf (datK K 50)).getD 0 .none)), .none] (epOf (datK K 50)) }
  b5 : nsOkIn K 51 = true
  b6 : nsIn K 51 (Str.ofString "key") = some (some .none)
theorem Chk.on {K : Frag} {h : Heap} (_X : K.In h) (c : Chk K) : Chk K := c
theorem Chk.bis {C : Cx} {K : Frag} (h : Chk K) (X : K.In C.h0) : BisAt C 58 := by
  have hn := Heap.Ns.of_isNs (isNs_of_in X h.b5)
  exact ⟨mg_of X C.g h.b1, _, pmK K 58, .ref 57, .none, 50, 51, _, _, _, _, X _ _ h.b2, rfl, codeNm_rec X h.b3, X _ _ h.b4, rfl, hn, ns_some_of X hn h.b6⟩
theorem Chk.tops {C : Cx} {K : Frag} (h : Chk K) (X : K.In C.h0) : Tops C := by
  refine ⟨fun x hx => ns_none_of X C.g ?_, ?_⟩
  · have e := List.all_eq_true.mp h.free x hx
    split at e
    · rename_i q; exact q
    · cases e
  have e := h.lim
  unfold limIn at e
  split at e
  · rename_i i t hk
    have e' : i = 4000 := eq_of_beq e
    subst e'
    exact ⟨t, mg_of X C.g hk⟩
  · cases e
theorem caller_room : Rm 14 callerA := ⟨rfl, by show 1 + claimMargin + 14 < 1000; decide, by show 4 + 4 * 14 + 60 < 9900; decide⟩
theorem ints_all2 {fz : Fz} : ∀ {vs : List Value} {ns : List Int}, IntsAre vs ns → All2 fz (ns.map int) vs
  | _, _, .nil => trivial
  | _, _, .cons n t h => ⟨⟨t, rfl⟩, ints_all2 h⟩
noncomputable abbrev tabs9 : List (Addr × Addr) := [(34, 30), (41, 37)]
theorem finish {K : Frag} {w : World} {s₁ : Shared} {mg mb : Str → Option Value} {fa l : Addr} {vs : List Value} {xs : List Int} {p : Program} {loose : List Str} {mean : ExcName → Option Value} (chk : Chk K) (KX : K.In s₁.heap)
    (T : Top p loose mean mg mb s₁.heap) (hT : TabsAt tabs9 s₁.heap) (hmg : mg (Str.ofString "law") = some (.ref fa)) (hg : s₁.gens = #[]) (hL : s₁.heap.IsList l vs.toArray) (hI : IntsAre vs xs) (hlen : xs.length ≤ 1000) :
    codeAny (model PySem.Challenge.pw_pe0133_01 w) callerA (.call (.ref fa) ⟨[.ref l], []⟩) (fun r s' => r = .ok (.ret (.bool true)) ∧ (∀ b o, (ghostOf s₁.heap tabs9).get? b = some o → s'.heap.get? b = some o) ∧ s'.os = s₁.os ∧ s'.gens = #[] ∧ GrownAll tabs9 s'.heap) s₁ := by
  have X : K.In (ghostOf s₁.heap tabs9) := ghost_K hT KX chk.no
  let C : Cx :=
    { w := w, h0 := ghostOf s₁.heap tabs9, mg := mg, mb := mb, gens := s₁.gens, os := s₁.os, t1 := 30, t2 := 37, q1 := qIn 4, q2 := qIn 5, pos1 := ⟨32, 4, 41, 28⟩, pos2 := ⟨47, 4, 52, 55⟩, c1 := 34, c2 := 41
      g := ghost_ns hT T.g, b := ghost_ns hT T.b, nolimit := (let ⟨mc, a, r⟩ := T.nolimit; ⟨mc, ghost_ns hT a, r⟩), blt := T.builtins
      hd1 := (ghost_code hT).1, hd2 := (ghost_code hT).2.1
      bmain := (let ⟨bm, ob, a1, a2, a3, a4, r⟩ := T.bmain; ⟨bm, ob, a1, a2, ghost_get hT a3 (fun q => by rw [q] at a4; cases a4), a4, r⟩) }
  have XC : K.In C.h0 := X
  have W : Wf C (fun a => (ghostOf s₁.heap tabs9).get? a) s₁ :=
    ⟨fun a o e => e, fun a o e => of_hideAll _ e, hideAll_none _ (by show (30 : Nat) ∈ [30, 37]; decide), hideAll_none _ (by show (37 : Nat) ∈ [30, 37]; decide), by show (30 : Nat) ≠ 37; decide, ⟨#[], (hT (34, 30) (.head _)).2, .inl rfl⟩, ⟨#[], (hT (41, 37) (.tail _ (.head _))).2, .inl rfl⟩, rfl, rfl⟩
  have hfa : fa = 108 := by
    have := mg_of XC C.g chk.f18.ns
    have e : mg (Str.ofString "law") = some (.ref 108) := this
    rw [hmg] at e
    cases e; rfl
  subst hfa
  obtain ⟨size, counts, p1, p2, p3⟩ := plain_law (numsF xs)
  have hT4 : Tb C 34 30 (qIn 4) ⟨32, 4, 41, 28⟩ := .inl ⟨rfl, rfl, rfl, rfl⟩
  have hT5 : Tb C 41 37 (qIn 5) ⟨47, 4, 52, 55⟩ := .inr ⟨rfl, rfl, rfl, rfl⟩
  have hargs : All2 (fun a => (ghostOf s₁.heap tabs9).get? a) [nums xs] [.ref l] := by
    obtain ⟨o, ho, hc, n, hd⟩ := ghost_list hT hL
    exact ⟨⟨l, o, vs.toArray, n, rfl, ho, hc, hd, by simpa using ints_all2 hI⟩, trivial⟩
  have run := Cd.fn (C := C) (A := callerA) (k := 13) (names := [Str.ofString "script"]) (P := boo true) caller_room (chk.f18.at XC).to rfl (by decide) (fun pm code doc vs hv => by
      match vs, hv with
      | [u], _ => rfl) (fun m => rfl) rfl rfl rfl
    (fun pm code doc L => law_ex (A := callerA) (chk.tops XC) (chk.f2.at XC).to (chk.f4.at XC) hT4 (chk.f5.at XC) hT5 (chk.f6.at XC).to (chk.bis XC) (chk.f10.at XC).to (chk.f12.at XC).to (chk.f13.at XC).to (chk.f14.at XC).to (chk.f15.at XC).to (chk.f16.at XC).to (chk.f17.at XC).to
      (caller_room.le (by decide)) xs hlen size _ counts p1 rfl p2 p3 pm code doc L) W hargs
  refine codeAny_mono run fun r s' ⟨v, hr, f, G, hv⟩ => ?_
  cases hv
  obtain ⟨ps1, t1, _⟩ := G.wf.tab1
  obtain ⟨ps2, t2, _⟩ := G.wf.tab2
  refine ⟨hr, fun b o e => G.wf.le b o (G.wf.base b o e), G.wf.os, G.wf.gens.trans hg, ⟨ps1, t1⟩, ⟨ps2, t2⟩, trivial⟩
end Mine
end
open PySem PySem.W PyProof.Rows
set_option Elab.async false
set_option maxRecDepth 100000 in
set_option maxHeartbeats 8000000 in
theorem PySem.Challenge.cw_pe0133_01_holds : PySem.Challenge.rw_pe0133_01.Holds := by
  w_on
  o_law
  k_head
  case hw => w_witness2
  w_strict (
    k_fill
    intro w s₀ s₁ mg mb G Y fa o pm cd doc dV kV ho hd hcd hD hmg hg args vals as hpre hlay hrd hwl hlo
    have KX := km_in_of Y
    km_tabs Y
    have X := (Ground.X G).1
    have V := (Ground.X G).2
    refine Ground.open G ?_
    intro T B D TE TW
    try (refine guard_noD D (by decide +kernel) ?_; clear D)
    km_lay T hmg ho hd cd
    wrow_args hpre hlay hrd hwl hlo
    first | refine callC_kw (enter_call ?_) | refine enter_call ?_
    w_top on
    kn_posts
    rename Heap.IsList _ _ _ => hL9
    rename IntsAre _ _ => hI9
    have chk := Mine.Chk.on KX ⟨by kernel_rfl, by kernel_rfl, by kernel_rfl, ⟨by kernel_rfl, by kernel_rfl, by kernel_rfl⟩, ⟨by kernel_rfl, by kernel_rfl, by kernel_rfl⟩, ⟨by kernel_rfl, by kernel_rfl, by kernel_rfl⟩, ⟨by kernel_rfl, by kernel_rfl, by kernel_rfl⟩,
      ⟨by kernel_rfl, by kernel_rfl, by kernel_rfl⟩, ⟨by kernel_rfl, by kernel_rfl, by kernel_rfl⟩, ⟨by kernel_rfl, by kernel_rfl, by kernel_rfl⟩, ⟨by kernel_rfl, by kernel_rfl, by kernel_rfl⟩, ⟨by kernel_rfl, by kernel_rfl, by kernel_rfl⟩, ⟨by kernel_rfl, by kernel_rfl, by kernel_rfl⟩,
      ⟨by kernel_rfl, by kernel_rfl, by kernel_rfl⟩, ⟨by kernel_rfl, by kernel_rfl, by kernel_rfl⟩, by kernel_rfl, by kernel_rfl, by kernel_rfl, by kernel_rfl, by kernel_rfl, by kernel_rfl⟩
    refine codeAny_mono (Mine.finish chk KX T hT9 hmg hg hL9 hI9 (by omega)) fun r s' h9 => ?_
    obtain ⟨hr9, hk9, ho9, hg9, hgr9⟩ := h9
    exact ⟨⟨.inl ⟨_, _, [], hr9, fun _ => rfl, ReadsW.bool true, by first | rfl | kernel_rfl, fun _ => ⟨List.nodup_nil, nofun⟩⟩, hk9, ho9, hg9⟩, hgr9⟩)
