import PyProof.Rows.All
import Wide.All
import OpenK.AllK
import Wide.FinOn
import PySem.Challenge.RW_pe0198_01
set_option Elab.async false
set_option linter.unusedVariables false
set_option maxRecDepth 100000
open PySem PySem.W PyProof.Rows PySem.Calls
namespace Mine

set_option maxRecDepth 100000 in
set_option maxHeartbeats 8000000 in
open_top hd for PySem.Challenge.rw_pe0198_01

/-- plain data that a value stands for -/
inductive D where
  | int (i : Int) | bool (b : Bool) | str (x : Str) | none
  | raw (v : Value)
  | list (ds : List D) | tup (ds : List D)
  | inst (C : Addr) (ns : List Str) (ds : List D)
  | rng (lo hi : Int)
  | lam (params : Arguments) (body : Expr) (scope : Scope) (qual : Str) (ns : List Str) (ds : List D)
  | lies (a : Addr) (d : D)

noncomputable abbrev Fz := Addr → Option Obj

mutual
inductive Rep (g : Fz) : Value → D → Prop where
  | int (i : Int) (t : Tok) : Rep g (.int i t) (.int i)
  | bool (b : Bool) : Rep g (.bool b) (.bool b)
  | str (x : Str) (t : Tok) : Rep g (.str x t) (.str x)
  | none : Rep g .none .none
  | raw (v : Value) : Rep g v (.raw v)
  | list {a : Addr} {vs : List Value} {n : Nat} {ds : List D} : g a = some { cls := .type "list", data := .seq vs.toArray n } → RepL g vs ds → Rep g (.ref a) (.list ds)
  | tup {a : Addr} {vs : List Value} {n : Nat} {ds : List D} : g a = some { cls := .type "tuple", data := .seq vs.toArray n } → RepL g vs ds → Rep g (.ref a) (.tup ds)
  | inst {a dx C : Addr} {od : Obj} {es : Array DictEntry} {ep : Nat} {vs : List Value} {ns : List Str} {ds : List D} : g a = some (instObj C dx) → g dx = some od → od.data = .dict es ep → StrKeys es →
      ns.map (nsFind es) = vs.map some → (∀ x, x ∉ ns → nsFind es x = none) → RepL g vs ds → Rep g (.ref a) (.inst C ns ds)
  | rng {a : Addr} {lo hi : Int} {t u v : Tok} : g a = some { cls := .type "range", dict := none, data := .fields #[.int lo t, .int hi u, .int 1 v], slots := #[] } → Rep g (.ref a) (.rng lo hi)
  | lam {q c : Addr} {oc : Obj} {fvs : Array Value} {t : Tok} {params : Arguments} {body : Expr} {scope : Scope} {name qual : Str} {ns : List Str} {cs : List Addr} {vs : List Value} {ds : List D} {pm ctv : Value} :
      g q = some (kla_obj name qual params body scope (ns.zip cs) pm c ctv) → g c = some oc → oc.data = .fields fvs → fvs[1]? = some (.str qual t) → ns.length = cs.length → cs.Nodup →
      (∀ (i : Nat) (a : Addr), cs[i]? = some a → ∃ o v, g a = some o ∧ o.data = .cell (some v) ∧ vs[i]? = some v) → RepL g vs ds → Rep g (.ref q) (.lam params body scope qual ns ds)
  | lies {a : Addr} {d : D} : Rep g (.ref a) d → Rep g (.ref a) (.lies a d)
inductive RepL (g : Fz) : List Value → List D → Prop where
  | nil : RepL g [] []
  | cons {v : Value} {d : D} {vs : List Value} {ds : List D} : Rep g v d → RepL g vs ds → RepL g (v :: vs) (d :: ds)
end

mutual
theorem Rep.mono {g g' : Fz} (h : ∀ b o, g b = some o → g' b = some o) : ∀ {v : Value} {d : D}, Rep g v d → Rep g' v d
  | _, _, .int i t => .int i t
  | _, _, .bool b => .bool b
  | _, _, .str x t => .str x t
  | _, _, .none => .none
  | _, _, .raw v => .raw v
  | _, _, .list a d => .list (h _ _ a) (RepL.mono h d)
  | _, _, .tup a d => .tup (h _ _ a) (RepL.mono h d)
  | _, _, .inst a b c d e e' f => .inst (h _ _ a) (h _ _ b) c d e e' (RepL.mono h f)
  | _, _, .rng a => .rng (h _ _ a)
  | _, _, .lies r => .lies (Rep.mono h r)
  | _, _, .lam a b c d e f k r => .lam (h _ _ a) (h _ _ b) c d e f (fun i x hx => let ⟨o, v, e1, e2, e3⟩ := k i x hx; ⟨o, v, h _ _ e1, e2, e3⟩) (RepL.mono h r)
theorem RepL.mono {g g' : Fz} (h : ∀ b o, g b = some o → g' b = some o) : ∀ {vs : List Value} {ds : List D}, RepL g vs ds → RepL g' vs ds
  | _, _, .nil => .nil
  | _, _, .cons a b => .cons (Rep.mono h a) (RepL.mono h b)
end

theorem RepL.length {g : Fz} : ∀ {vs : List Value} {ds : List D}, RepL g vs ds → vs.length = ds.length
  | _, _, .nil => rfl
  | _, _, .cons _ b => congrArg (· + 1) b.length
theorem RepL.get {g : Fz} : ∀ {vs : List Value} {ds : List D}, RepL g vs ds → ∀ {i : Nat} {d : D}, ds[i]? = some d → ∃ v, vs[i]? = some v ∧ Rep g v d
  | _, _, .nil, i, d, e => by simp at e
  | _, _, .cons a b, 0, d, e => by simp at e; subst e; exact ⟨_, rfl, a⟩
  | _, _, .cons a b, i + 1, d, e => by simp at e; simpa using b.get e
theorem RepL.append {g : Fz} : ∀ {vs vs' : List Value} {ds ds' : List D}, RepL g vs ds → RepL g vs' ds' → RepL g (vs ++ vs') (ds ++ ds')
  | _, _, _, _, .nil, y => y
  | _, _, _, _, .cons a b, y => .cons a (b.append y)
theorem RepL.ints {g : Fz} : ∀ {vs : List Value} {ns : List Int}, RepL g vs (ns.map .int) → IntsAre vs ns
  | [], [], _ => .nil
  | v :: vs, n :: ns, .cons a b => by
    have := b.ints
    cases a
    exact .cons n _ this
  | [], n :: ns, h => by cases h
  | v :: vs, [], h => by cases h
theorem RepL.of_ints {g : Fz} : ∀ {vs : List Value} {ns : List Int}, IntsAre vs ns → RepL g vs (ns.map .int)
  | _, _, .nil => .nil
  | _, _, .cons n t b => .cons (.int n t) (RepL.of_ints b)

/-- Rep and RepL taken apart, one shape at a time -/
theorem Rep.cint {g : Fz} {i : Int} {motive : (v : Value) → Rep g v (.int i) → Prop} (int : ∀ t, motive (.int i t) (.int i t)) {v : Value} (r : Rep g v (.int i)) : motive v r := by cases r; exact int _
theorem Rep.cbool {g : Fz} {b : Bool} {motive : (v : Value) → Rep g v (.bool b) → Prop} (bool : motive (.bool b) (.bool b)) {v : Value} (r : Rep g v (.bool b)) : motive v r := by cases r; exact bool
theorem Rep.cstr {g : Fz} {x : Str} {motive : (v : Value) → Rep g v (.str x) → Prop} (str : ∀ t, motive (.str x t) (.str x t)) {v : Value} (r : Rep g v (.str x)) : motive v r := by cases r; exact str _
theorem Rep.cnone {g : Fz} {motive : (v : Value) → Rep g v .none → Prop} (none : motive .none .none) {v : Value} (r : Rep g v .none) : motive v r := by cases r; exact none
theorem Rep.craw {g : Fz} {w : Value} {motive : (v : Value) → Rep g v (.raw w) → Prop} (raw : motive w (.raw w)) {v : Value} (r : Rep g v (.raw w)) : motive v r := by cases r; exact raw
theorem Rep.clist {g : Fz} {ds : List D} {motive : (v : Value) → Rep g v (.list ds) → Prop} (list : ∀ (a : Addr) (vs : List Value) (n : Nat) (e : g a = Option.some { cls := .type "list", data := .seq vs.toArray n }) (r : RepL g vs ds), motive (.ref a) (.list e r)) {v : Value} (r : Rep g v (.list ds)) : motive v r := by cases r; exact list _ _ _ ‹_› ‹_›
theorem Rep.ctup {g : Fz} {ds : List D} {motive : (v : Value) → Rep g v (.tup ds) → Prop} (tup : ∀ (a : Addr) (vs : List Value) (n : Nat) (e : g a = Option.some { cls := .type "tuple", data := .seq vs.toArray n }) (r : RepL g vs ds), motive (.ref a) (.tup e r)) {v : Value} (r : Rep g v (.tup ds)) : motive v r := by cases r; exact tup _ _ _ ‹_› ‹_›
theorem Rep.crng {g : Fz} {lo hi : Int} {motive : (v : Value) → Rep g v (.rng lo hi) → Prop} (rng : ∀ (a : Addr) (t u v : Tok) (e : g a = Option.some { cls := .type "range", dict := Option.none, data := .fields #[.int lo t, .int hi u, .int 1 v], slots := #[] }), motive (.ref a) (.rng e)) {v : Value} (r : Rep g v (.rng lo hi)) : motive v r := by cases r; exact rng _ _ _ _ ‹_›
theorem Rep.cinst {g : Fz} {C : Addr} {ns : List Str} {ds : List D} {motive : (v : Value) → Rep g v (.inst C ns ds) → Prop} (inst : ∀ (a dx : Addr) (od : Obj) (es : Array DictEntry) (ep : Nat) (vs : List Value) (h1 : g a = some (instObj C dx)) (h2 : g dx = some od) (h3 : od.data = .dict es ep) (h4 : StrKeys es)
    (h5 : ns.map (nsFind es) = vs.map some) (h6 : ∀ x, x ∉ ns → nsFind es x = Option.none) (h7 : RepL g vs ds), motive (.ref a) (.inst h1 h2 h3 h4 h5 h6 h7)) {v : Value} (r : Rep g v (.inst C ns ds)) : motive v r := by cases r with | inst h1 h2 h3 h4 h5 h6 h7 => exact inst _ _ _ _ _ _ h1 h2 h3 h4 h5 h6 h7
theorem RepL.cnil {g : Fz} {motive : (vs : List Value) → RepL g vs [] → Prop} (nil : motive [] .nil) {vs : List Value} (r : RepL g vs []) : motive vs r := by cases r; exact nil
theorem RepL.ccons {g : Fz} {d : D} {ds : List D} {motive : (vs : List Value) → RepL g vs (d :: ds) → Prop} (cons : ∀ {v : Value} {vs : List Value} (r : Rep g v d) (rs : RepL g vs ds), motive (v :: vs) (.cons r rs)) {vs : List Value} (r : RepL g vs (d :: ds)) : motive vs r := by cases r with | cons r rs => exact cons r rs

/-- what stands round the call -/
structure Cx where
  prog : Program
  w : World
  mg : Str → Option Value
  mb : Str → Option Value
  B : Heap
  os : OsState

noncomputable abbrev Cx.M (C : Cx) : Model := model C.prog C.w
noncomputable abbrev Cx.K (C : Cx) : Frag := hd.heap_39 C.w.params

structure Cx.OK (C : Cx) : Prop where
  k : C.K.In C.B
  g : C.B.Ns mainGlobals C.mg
  b : C.B.Ns builtinsNs C.mb
  nolimit : C.B.NoLimit
  bi : ∀ x : Str, x ≠ "__name__" → C.mb x = bootBuiltins x
  hd : CodeHd C.B 132 128
  bat : C.B.BuiltinsAt C.mg 128

structure Room (A : Around) (k : Nat) : Prop where
  handled : A.handled = none
  depth : A.depth + k < recursionLimit
  units : A.units + 8 * k < cLine

structure TabOK (g : Fz) (ps : Array Value) : Prop where
  trip : TriplesOk ps.toList
  hit : ∀ pos cv, codeAmong pos ps.toList = some cv → ∃ c o vs t, cv = .ref c ∧ g c = some o ∧ o.data = .fields vs ∧ vs[1]? = some (.str (Str.ofString "_law_room.<locals>.<lambda>") t)

structure Hp (C : Cx) (g : Fz) (s : Shared) : Prop where
  sub : ∀ b o, g b = some o → s.heap.get? b = some o
  base : ∀ b o, C.B.get? b = some o → g b = some o
  t128 : g 128 = none
  tab : ∃ ps, s.heap.get? 128 = some (tabObj ps) ∧ TabOK g ps
  gens : s.gens = #[]
  os : s.os = C.os

structure Grow (C : Cx) (g : Fz) (s : Shared) (g' : Fz) (s' : Shared) : Prop where
  hp : Hp C g' s'
  up : ∀ b o, g b = some o → g' b = some o
  new : ∀ b o, g' b = some o → g b = some o ∨ s.heap.get? b = none
  kept : ∀ b o, s.heap.get? b = some o → b ≠ 128 → s'.heap.get? b = some o

theorem TabOK.mono {g g' : Fz} {ps : Array Value} (x : TabOK g ps) (h : ∀ b o, g b = some o → g' b = some o) : TabOK g' ps :=
  ⟨x.trip, fun pos cv e => let ⟨c, o, vs, t, e1, e2, e3⟩ := x.hit pos cv e; ⟨c, o, vs, t, e1, h _ _ e2, e3⟩⟩

section
variable {C : Cx} {g g' g'' : Fz} {s s' s'' : Shared}
theorem Hp.kb (H : Hp C g s) : ∀ b o, C.B.get? b = some o → s.heap.get? b = some o := fun b o e => H.sub b o (H.base b o e)
theorem Grow.refl (H : Hp C g s) : Grow C g s g s := ⟨H, fun _ _ e => e, fun _ _ e => .inl e, fun _ _ e _ => e⟩
theorem Grow.trans (a : Grow C g s g' s') (b : Grow C g' s' g'' s'') : Grow C g s g'' s'' where
  hp := b.hp
  up := fun x o e => b.up x o (a.up x o e)
  new := fun x o e => by
    rcases b.new x o e with h | h
    · exact a.new x o h
    · refine .inr ?_
      cases q : s.heap.get? x with
      | none => rfl
      | some o' =>
        by_cases hx : x = 128
        · subst hx
          obtain ⟨ps, e', _⟩ := a.hp.tab
          rw [e'] at h; cases h
        · rw [a.kept x o' q hx] at h; cases h
  kept := fun x o e hx => b.kept x o (a.kept x o e hx) hx
theorem Hp.toks (H : Hp C g s) (t : Nat) : Hp C g { s with toks := t } := ⟨H.sub, H.base, H.t128, H.tab, H.gens, H.os⟩
theorem Grow.toks (H : Hp C g s) (t : Nat) : Grow C g s g { s with toks := t } := ⟨H.toks t, fun _ _ e => e, fun _ _ e => .inl e, fun _ _ e _ => e⟩
/-- every object kept, some made that nobody asks for -/
theorem Grow.ext (H : Hp C g s) {h' : Heap} (t : Nat) (k : ∀ b o, s.heap.get? b = some o → h'.get? b = some o) : Grow C g s g { s with heap := h', toks := t } where
  hp := ⟨fun b o e => k b o (H.sub b o e), H.base, H.t128, let ⟨ps, e, x⟩ := H.tab; ⟨ps, k _ _ e, x⟩, H.gens, H.os⟩
  up := fun _ _ e => e
  new := fun _ _ e => .inl e
  kept := fun b o e _ => k b o e
noncomputable def Fz.put (g : Fz) (a : Addr) (o : Obj) : Fz := fun b => if b = a then some o else g b
theorem Fz.put_self (g : Fz) (a : Addr) (o : Obj) : g.put a o a = some o := by simp [Fz.put]
/-- a new object, kept in mind -/
theorem Grow.add (H : Hp C g s) {h' : Heap} {a : Addr} {o : Obj} (t : Nat) (k : ∀ b o, s.heap.get? b = some o → h'.get? b = some o) (ha : s.heap.get? a = none) (ho : h'.get? a = some o) :
    Grow C g s (g.put a o) { s with heap := h', toks := t } where
  hp := by
    have ga : ∀ b o', g b = some o' → b ≠ a := fun b o' e q => by subst q; rw [H.sub _ _ e] at ha; cases ha
    refine ⟨fun b o' e => ?_, fun b o' e => ?_, ?_, ?_, H.gens, H.os⟩
    · by_cases hb : b = a
      · subst hb; rw [Fz.put_self] at e; cases e; exact ho
      · rw [Fz.put, if_neg hb] at e; exact k b o' (H.sub b o' e)
    · rw [Fz.put, if_neg (ga b o' (H.base b o' e))]; exact H.base b o' e
    · obtain ⟨ps, e, x⟩ := H.tab
      rw [Fz.put, if_neg (fun q => by rw [q, ha] at e; cases e)]; exact H.t128
    · obtain ⟨ps, e, x⟩ := H.tab
      exact ⟨ps, k _ _ e, x.mono fun b o' e' => by rw [Fz.put, if_neg (ga b o' e')]; exact e'⟩
  up := fun b o' e => by rw [Fz.put, if_neg (fun q => by subst q; rw [H.sub _ _ e] at ha; cases ha)]; exact e
  new := fun b o' e => by
    by_cases hb : b = a
    · subst hb; exact .inr ha
    · rw [Fz.put, if_neg hb] at e; exact .inl e
  kept := fun b o' e _ => k b o' e
theorem Heap.none_at (h : Heap) : h.get? h.objs.size = none := Heap.get?_none_of_le (Nat.le_refl _)
theorem Grow.push (H : Hp C g s) (o : Obj) (hf : o.isFreed = false := by rfl) : Grow C g s (g.put s.heap.objs.size o) { s with heap := s.heap.push o } :=
  Grow.add (h' := s.heap.push o) H s.toks (fun _ _ e => Heap.get?_push_of_some o e) (Heap.none_at _) (Heap.get?_push_size _ hf)
theorem Grow.get (G : Grow C g s g' s') {b : Addr} {o : Obj} (e : s.heap.get? b = some o) (hb : b ≠ 128) : s'.heap.get? b = some o := G.kept b o e hb
theorem Grow.rep (G : Grow C g s g' s') {v : Value} {d : D} (r : Rep g v d) : Rep g' v d := r.mono G.up
theorem Grow.repL (G : Grow C g s g' s') {v : List Value} {d : List D} (r : RepL g v d) : RepL g' v d := r.mono G.up
end

/-- the frame's variables -/
noncomputable def BoundV (g : Fz) (env : Env) (m : Str → Option Value) (h : Heap) (x : Str) (d : D) : Prop :=
  (env.kindOf x = some .local ∧ ∃ v, m x = some v ∧ Rep g v d) ∨
  ((env.kindOf x = some .cell ∨ env.kindOf x = some .free) ∧ ∃ c v, env.cells.lookup x = some c ∧ h.IsCell c (some v) ∧ Rep g v d)

structure Vars (C : Cx) (env : Env) (σ : List (Str × D)) (g : Fz) (s : Shared) : Prop where
  hp : Hp C g s
  ns : ∃ m, s.heap.Ns env.locals m ∧ ∀ x d, σ.lookup x = some d → BoundV g env m s.heap x d

section
variable {C : Cx} {g g' g'' : Fz} {s s' s'' : Shared} {env : Env} {σ : List (Str × D)}
theorem Hp.ne128 (H : Hp C g s) {a : Addr} {o : Obj} (e : s.heap.get? a = some o) (hd : ∀ vs, o.data ≠ .fields vs) : a ≠ 128 := fun q => by
  obtain ⟨ps, e', _⟩ := H.tab
  rw [q, e'] at e; cases e; exact hd _ rfl
theorem Grow.ns (H : Hp C g s) (G : Grow C g s g' s') {a : Addr} {m : Str → Option Value} (n : s.heap.Ns a m) : s'.heap.Ns a m :=
  let ⟨o, es, ep, e, hd, r⟩ := n; ⟨o, es, ep, G.kept _ _ e (H.ne128 e fun vs q => by rw [hd] at q; cases q), hd, r⟩
theorem Grow.cell (H : Hp C g s) (G : Grow C g s g' s') {c : Addr} {v : Option Value} (x : s.heap.IsCell c v) : s'.heap.IsCell c v :=
  let ⟨o, e, hd⟩ := x; ⟨o, G.kept _ _ e (H.ne128 e fun vs q => by rw [hd] at q; cases q), hd⟩
theorem Vars.grow (V : Vars C env σ g s) (G : Grow C g s g' s') : Vars C env σ g' s' :=
  ⟨G.hp, let ⟨m, n, r⟩ := V.ns; ⟨m, G.ns V.hp n, fun x d e => match r x d e with
    | .inl ⟨k, v, hv, y⟩ => .inl ⟨k, v, hv, G.rep y⟩
    | .inr ⟨k, c, v, hc, hv, y⟩ => .inr ⟨k, c, v, hc, G.cell V.hp hv, G.rep y⟩⟩⟩
end

/-- an expression comes out as d, and nothing else turns -/
noncomputable def Ev (C : Cx) (A : Around) (env : Env) (σ : List (Str × D)) (e : Expr) (d : D) : Prop :=
  ∀ (g : Fz) (s : Shared) (Q : Value → Shared → Prop) (E : Value → Shared → Prop), Vars C env σ g s → (∀ v g' s', Grow C g s g' s' → Rep g' v d → Q v s') → wpAny C.M A (eval e env) Q E s
/-- an operation on values -/
noncomputable def Prim (C : Cx) (A : Around) (t : List Value → Sem Value) (ds : List D) (d : D) : Prop :=
  ∀ (g : Fz) (s : Shared) (vs : List Value) (Q : Value → Shared → Prop) (E : Value → Shared → Prop), Hp C g s → RepL g vs ds → (∀ v g' s', Grow C g s g' s' → Rep g' v d → Q v s') → wpAny C.M A (t vs) Q E s

section
variable {C : Cx} {A : Around} {env : Env} {σ : List (Str × D)}

theorem ev_int {i : Int} {k : Nat} {pos : Pos} : Ev C A env σ (.Constant (.int i) k pos) (.int i) := fun _ s _ _ V h => wpAny_Constant_int (h _ _ _ (Grow.toks V.hp _) (.int i _))
theorem ev_str {x : Str} {k : Nat} {pos : Pos} : Ev C A env σ (.Constant (.str x) k pos) (.str x) := fun _ s _ _ V h => wpAny_Constant_str (h _ _ _ (Grow.toks V.hp _) (.str x _))
theorem ev_bool {b : Bool} {k : Nat} {pos : Pos} : Ev C A env σ (.Constant (.bool b) k pos) (.bool b) := fun _ s _ _ V h => wpAny_Constant_bool (h _ _ _ (Grow.refl V.hp) (.bool b))
theorem ev_none {k : Nat} {pos : Pos} : Ev C A env σ (.Constant .none k pos) .none := fun _ s _ _ V h => wpAny_Constant_none (h _ _ _ (Grow.refl V.hp) .none)

theorem ev_var {x : Str} {pos : Pos} {d : D} (hx : σ.lookup x = some d) (hk : env.scope.kind = .function := by rfl) (hd : (x == ("__debug__" : Str)) = false := by decide)
    (hn : (x == ("__classdict__" : Str)) = false := by decide) : Ev C A env σ (.Name x pos) d := fun g s Q E V h => by
  obtain ⟨m, n, r⟩ := V.ns
  refine wpAny_Name ?_ hd
  rcases r x d hx with ⟨k, v, hv, y⟩ | ⟨k, c, v, hc, hv, y⟩
  · exact wpAny_loadName_local hk k n hv (h _ _ _ (Grow.refl V.hp) y)
  · rcases k with k | k
    · exact wpAny_loadName_cell hk k hc hv (h _ _ _ (Grow.refl V.hp) y)
    · exact wpAny_loadName_free hk k hc hv (h _ _ _ (Grow.refl V.hp) y) hn

theorem ev_global (O : C.OK) {x : Str} {pos : Pos} {v : Value} (e : nsIn C.K mainGlobals x = some (some v)) (hx : env.kindOf x = some .globalImplicit := by rfl) (hg : env.globals = mainGlobals := by rfl)
    (hk : env.scope.kind = .function := by rfl) (hd : (x == ("__debug__" : Str)) = false := by decide) : Ev C A env σ (.Name x pos) (.raw v) := fun g s Q E V h =>
  Name_function_global hk hx (loadGlobal_global (by rw [hg]; exact O.g.keeps V.hp.kb) (mg_of O.k O.g e) (h _ _ _ (Grow.refl V.hp) (.raw v))) hd
theorem ev_builtin (O : C.OK) {x : Str} {pos : Pos} {v : Value} (e : nsIn C.K mainGlobals x = some none) (hv : bootBuiltins x = some v) (hn : x ≠ "__name__" := by decide) (hx : env.kindOf x = some .globalImplicit := by rfl)
    (hg : env.globals = mainGlobals := by rfl) (hb : env.builtins = builtinsNs := by rfl) (hk : env.scope.kind = .function := by rfl) (hd : (x == ("__debug__" : Str)) = false := by decide) :
    Ev C A env σ (.Name x pos) (.raw v) := fun g s Q E V h =>
  Name_function_global hk hx (loadGlobal_builtin (by rw [hg]; exact O.g.keeps V.hp.kb) (mg_none_of O.k O.g e) (by rw [hb]; exact O.b.keeps V.hp.kb) ((O.bi x hn).trans hv) (h _ _ _ (Grow.refl V.hp) (.raw v))) hd

theorem ev_bin {l r : Expr} {op : Operator} {pos : Pos} {a b d : D} (hl : Ev C A env σ l a) (hr : Ev C A env σ r b) (hp : Prim C A (fun vs => binaryOp op (vs.getD 0 .none) (vs.getD 1 .none)) [a, b] d) :
    Ev C A env σ (.BinOp l op r pos) d := fun g s Q E V h =>
  wpAny_BinOp (hl g s _ E V fun v₁ g₁ s₁ G₁ r₁ => hr g₁ s₁ _ E (V.grow G₁) fun v₂ g₂ s₂ G₂ r₂ =>
    hp g₂ s₂ [v₁, v₂] Q E G₂.hp (.cons (G₂.rep r₁) (.cons r₂ .nil)) fun v₃ g₃ s₃ G₃ r₃ => h _ _ _ ((G₁.trans G₂).trans G₃) r₃)
theorem ev_cmp {l r : Expr} {op : CmpOp} {pos : Pos} {a b d : D} (hl : Ev C A env σ l a) (hr : Ev C A env σ r b) (hp : Prim C A (fun vs => compareOp op (vs.getD 0 .none) (vs.getD 1 .none)) [a, b] d)
    (hm : behindInMarks op r = false := by with_unfolding_all rfl) : Ev C A env σ (.Compare l [op] [r] pos) d := fun g s Q E V h =>
  wpAny_Compare1 (hl g s _ E V fun v₁ g₁ s₁ G₁ r₁ => hr g₁ s₁ _ E (V.grow G₁) fun v₂ g₂ s₂ G₂ r₂ =>
    hp g₂ s₂ [v₁, v₂] Q E G₂.hp (.cons (G₂.rep r₁) (.cons r₂ .nil)) fun v₃ g₃ s₃ G₃ r₃ => h _ _ _ ((G₁.trans G₂).trans G₃) r₃) hm
end

section
variable {C : Cx} {A : Around} {env : Env} {σ : List (Str × D)}

theorem Prim.two {t : Value → Value → Sem Value} {a b d : D}
    (h : ∀ (g : Fz) (s : Shared) (v u : Value) (Q E : Value → Shared → Prop), Hp C g s → Rep g v a → Rep g u b → (∀ r g' s', Grow C g s g' s' → Rep g' r d → Q r s') → wpAny C.M A (t v u) Q E s) :
    Prim C A (fun vs => t (vs.getD 0 .none) (vs.getD 1 .none)) [a, b] d := by
  intro g s vs Q E H r k
  cases r using RepL.ccons with
  | cons r1 r2 => cases r2 using RepL.ccons with
    | cons r2 r3 => cases r3 using RepL.cnil; exact h g s _ _ Q E H r1 r2 k
theorem Prim.one {t : Value → Sem Value} {a d : D}
    (h : ∀ (g : Fz) (s : Shared) (v : Value) (Q E : Value → Shared → Prop), Hp C g s → Rep g v a → (∀ r g' s', Grow C g s g' s' → Rep g' r d → Q r s') → wpAny C.M A (t v) Q E s) :
    Prim C A (fun vs => t (vs.getD 0 .none)) [a] d := by
  intro g s vs Q E H r k
  cases r using RepL.ccons with
  | cons r1 r2 => cases r2 using RepL.cnil; exact h g s _ Q E H r1 k

-- ints
theorem p_add {i j : Int} : Prim C A (fun vs => binaryOp .Add (vs.getD 0 .none) (vs.getD 1 .none)) [.int i, .int j] (.int (i + j)) := Prim.two fun g s v u Q E H r1 r2 k => by
  cases r1 using Rep.cint; cases r2 using Rep.cint; exact PyProof.Rows.add_int (k _ _ _ (Grow.toks H _) (.int _ _))
theorem p_sub {i j : Int} : Prim C A (fun vs => binaryOp .Sub (vs.getD 0 .none) (vs.getD 1 .none)) [.int i, .int j] (.int (i - j)) := Prim.two fun g s v u Q E H r1 r2 k => by
  cases r1 using Rep.cint; cases r2 using Rep.cint; exact PyProof.Rows.sub_int (k _ _ _ (Grow.toks H _) (.int _ _))
theorem p_mul {i j : Int} (hb : IntMulOk i j) : Prim C A (fun vs => binaryOp .Mult (vs.getD 0 .none) (vs.getD 1 .none)) [.int i, .int j] (.int (i * j)) := Prim.two fun g s v u Q E H r1 r2 k => by
  cases r1 using Rep.cint; cases r2 using Rep.cint; exact PyProof.Rows.mul_int (k _ _ _ (Grow.toks H _) (.int _ _)) hb
theorem p_mod {i j : Int} (hj : j ≠ 0) : Prim C A (fun vs => binaryOp .Mod (vs.getD 0 .none) (vs.getD 1 .none)) [.int i, .int j] (.int (i.fmod j)) := Prim.two fun g s v u Q E H r1 r2 k => by
  cases r1 using Rep.cint; cases r2 using Rep.cint; exact PyProof.Rows.mod_int' hj (k _ _ _ (Grow.toks H _) (.int _ _))
theorem p_div {i j : Int} (hj : j ≠ 0) (hs : j.natAbs < 1073741824) : Prim C A (fun vs => binaryOp .FloorDiv (vs.getD 0 .none) (vs.getD 1 .none)) [.int i, .int j] (.int (i.fdiv j)) := Prim.two fun g s v u Q E H r1 r2 k => by
  cases r1 using Rep.cint; cases r2 using Rep.cint; exact PyProof.Rows.floordiv_int hj (k _ _ _ (Grow.toks H _) (.int _ _)) (.inl (PyProof.noPylong_small hs))
theorem p_neg {i : Int} : Prim C A (fun vs => unaryOp .USub (vs.getD 0 .none)) [.int i] (.int (-i)) := Prim.one fun g s v Q E H r k => by
  cases r using Rep.cint; exact PyProof.Rows.neg_int (k _ _ _ (Grow.toks H _) (.int _ _))
theorem p_lt {i j : Int} : Prim C A (fun vs => compareOp .Lt (vs.getD 0 .none) (vs.getD 1 .none)) [.int i, .int j] (.bool (decide (i < j))) := Prim.two fun g s v u Q E H r1 r2 k => by
  cases r1 using Rep.cint; cases r2 using Rep.cint; exact PySem.P.lt_int (k _ _ _ (Grow.refl H) (.bool _))
theorem p_le {i j : Int} : Prim C A (fun vs => compareOp .LtE (vs.getD 0 .none) (vs.getD 1 .none)) [.int i, .int j] (.bool (decide (i ≤ j))) := Prim.two fun g s v u Q E H r1 r2 k => by
  cases r1 using Rep.cint; cases r2 using Rep.cint; exact PySem.P.le_int (k _ _ _ (Grow.refl H) (.bool _))
theorem p_gt {i j : Int} : Prim C A (fun vs => compareOp .Gt (vs.getD 0 .none) (vs.getD 1 .none)) [.int i, .int j] (.bool (decide (i > j))) := Prim.two fun g s v u Q E H r1 r2 k => by
  cases r1 using Rep.cint; cases r2 using Rep.cint; exact PySem.P.gt_int (k _ _ _ (Grow.refl H) (.bool _))
theorem p_ge {i j : Int} : Prim C A (fun vs => compareOp .GtE (vs.getD 0 .none) (vs.getD 1 .none)) [.int i, .int j] (.bool (decide (i ≥ j))) := Prim.two fun g s v u Q E H r1 r2 k => by
  cases r1 using Rep.cint; cases r2 using Rep.cint; exact PySem.P.ge_int (k _ _ _ (Grow.refl H) (.bool _))
theorem p_eq {i j : Int} : Prim C A (fun vs => compareOp .Eq (vs.getD 0 .none) (vs.getD 1 .none)) [.int i, .int j] (.bool (i == j)) := Prim.two fun g s v u Q E H r1 r2 k => by
  cases r1 using Rep.cint; cases r2 using Rep.cint; exact PySem.P.eq_int (k _ _ _ (Grow.refl H) (.bool _))
theorem p_ltb {i j : Bool} : Prim C A (fun vs => compareOp .Lt (vs.getD 0 .none) (vs.getD 1 .none)) [.bool i, .bool j] (.bool (!i && j)) := Prim.two fun g s v u Q E H r1 r2 k => by
  cases r1 using Rep.cbool; cases r2 using Rep.cbool; exact PyProof.Rows.lt_bool (by have := k (.bool (!i && j)) _ _ (Grow.refl H) (.bool _); cases i <;> cases j <;> exact this)
theorem p_eqs {x y : Str} : Prim C A (fun vs => compareOp .Eq (vs.getD 0 .none) (vs.getD 1 .none)) [.str x, .str y] (.bool (x == y)) := Prim.two fun g s v u Q E H r1 r2 k => by
  cases r1 using Rep.cstr; cases r2 using Rep.cstr; exact PyProof.Rows.eq_str (k _ _ _ (Grow.refl H) (.bool _))
theorem p_adds {x y : Str} (hsz : x.length + y.length ≤ sizeLine) : Prim C A (fun vs => binaryOp .Add (vs.getD 0 .none) (vs.getD 1 .none)) [.str x, .str y] (.str (x ++ y)) := Prim.two fun g s v u Q E H r1 r2 k => by
  cases r1 using Rep.cstr; cases r2 using Rep.cstr; exact PyProof.Rows.add_str (fun t' tk => k _ _ _ (Grow.toks H _) (.str _ _)) hsz
theorem p_muls {x : Str} {n : Int} (hok : MulOk x n) : Prim C A (fun vs => binaryOp .Mult (vs.getD 0 .none) (vs.getD 1 .none)) [.str x, .int n] (.str (Txt.mul x n)) := Prim.two fun g s v u Q E H r1 r2 k => by
  cases r1 using Rep.cstr; cases r2 using Rep.cint; exact PySem.SB.mul hok (fun t' tk => k _ _ _ (Grow.toks H _) (.str _ _))

theorem ev_un {x : Expr} {op : UnaryOp} {pos : Pos} {a d : D} (hl : Ev C A env σ x a) (hp : Prim C A (fun vs => unaryOp op (vs.getD 0 .none)) [a] d) : Ev C A env σ (.UnaryOp op x pos) d := fun g s Q E V h =>
  wpAny_UnaryOp (hl g s _ E V fun v₁ g₁ s₁ G₁ r₁ => hp g₁ s₁ [v₁] Q E G₁.hp (.cons r₁ .nil) fun v₃ g₃ s₃ G₃ r₃ => h _ _ _ (G₁.trans G₃) r₃)
theorem p_not {b : Bool} : Prim C A (fun vs => unaryOp .Not (vs.getD 0 .none)) [.bool b] (.bool (!b)) := Prim.one fun g s v Q E H r k => by
  cases r using Rep.cbool; exact PyProof.Rows.not_of (wpAny_truthy_bool (k _ _ _ (Grow.refl H) (.bool _)))

/-- a test -/
noncomputable def EvT (C : Cx) (A : Around) (env : Env) (σ : List (Str × D)) (e : Expr) (b : Bool) : Prop :=
  ∀ (g : Fz) (s : Shared) (Q : Bool → Shared → Prop) (E : Value → Shared → Prop), Vars C env σ g s → (∀ g' s', Grow C g s g' s' → Q b s') → wpAny C.M A (isTrue e env (eval e env)) Q E s
theorem evT_cmp {l r : Expr} {op : CmpOp} {pos : Pos} {a b : D} {p : Bool} (hl : Ev C A env σ l a) (hr : Ev C A env σ r b) (hp : Prim C A (fun vs => compareOp op (vs.getD 0 .none) (vs.getD 1 .none)) [a, b] (.bool p))
    (hm : behindInMarks op r = false := by with_unfolding_all rfl) : EvT C A env σ (.Compare l [op] [r] pos) p := fun g s Q E V h =>
  wpAny_isTrue_Compare1 (hl g s _ E V fun v₁ g₁ s₁ G₁ r₁ => hr g₁ s₁ _ E (V.grow G₁) fun v₂ g₂ s₂ G₂ r₂ =>
    hp g₂ s₂ [v₁, v₂] _ E G₂.hp (.cons (G₂.rep r₁) (.cons r₂ .nil)) fun v₃ g₃ s₃ G₃ r₃ => by cases r₃ using Rep.cbool; exact wpAny_truthy_bool (h _ _ ((G₁.trans G₂).trans G₃))) hm
theorem evT_val {e : Expr} {b : Bool} (h : Ev C A env σ e (.bool b)) (he : ∀ whole : Sem Value, isTrue e env whole = (do let v ← whole; standAt e.pos; holding [v] (truthy v)) := by intro _; rfl) : EvT C A env σ e b := fun g s Q E V k =>
  wpAny_isTrue_value (h g s _ E V fun v g' s' G r => by cases r using Rep.cbool; exact wpAny_truthy_bool (k _ _ G)) (he _)
theorem evT_not {e : Expr} {b : Bool} {pos : Pos} (h : EvT C A env σ e b) : EvT C A env σ (.UnaryOp .Not e pos) (!b) := fun g s Q E V k =>
  wpAny_isTrue_Not (h g s _ E V fun g' s' G => k _ _ G)
theorem evT_and {x y : Expr} {b c : Bool} {pos : Pos} (hx : EvT C A env σ x b) (hy : b = true → EvT C A env σ y c) : EvT C A env σ (.BoolOp .And [x, y] pos) (b && c) := fun g s Q E V k => by
  refine wpAny_isTrue_BoolOp (wpAny_allTrue_And_cons (hx g s _ E V fun g' s' G => ?_))
  cases b with
  | false => exact k _ _ G
  | true =>
    refine wpAny_allTrue_And_cons (hy rfl g' s' _ E (V.grow G) fun g'' s'' G' => ?_)
    cases c with
    | false => exact k _ _ (G.trans G')
    | true => exact wpAny_allTrue_And_nil (k _ _ (G.trans G'))
theorem ev_if {t x y : Expr} {b : Bool} {d : D} {pos : Pos} (ht : EvT C A env σ t b) (hx : b = true → Ev C A env σ x d) (hy : b = false → Ev C A env σ y d) : Ev C A env σ (.IfExp t x y pos) d := fun g s Q E V k => by
  refine wpAny_IfExp (ht g s _ E V fun g' s' G => ?_)
  cases b with
  | true => exact hx rfl g' s' Q E (V.grow G) fun v g'' s'' G' r => k _ _ _ (G.trans G') r
  | false => exact hy rfl g' s' Q E (V.grow G) fun v g'' s'' G' r => k _ _ _ (G.trans G') r

/-- arguments, items -/
noncomputable def EvL (C : Cx) (A : Around) (env : Env) (σ : List (Str × D)) (pos : Pos) (es : List Expr) (ds : List D) : Prop :=
  ∀ (g : Fz) (s : Shared) (Q : List Value → Shared → Prop) (E : Value → Shared → Prop), Vars C env σ g s → (∀ vs g' s', Grow C g s g' s' → RepL g' vs ds → Q vs s') → wpAny C.M A (spliced (backTo pos (starEach es env))) Q E s
theorem evL_nil {pos : Pos} : EvL C A env σ pos [] [] := fun g s Q E V k => spliced_nil (k _ _ _ (Grow.refl V.hp) .nil)
theorem evL_cons {pos : Pos} {e : Expr} {es : List Expr} {d : D} {ds : List D} (h : Ev C A env σ e d) (hs : EvL C A env σ pos es ds)
    (he : starEach (e :: es) env = (false, eval e env) :: starEach es env := by rfl) : EvL C A env σ pos (e :: es) (d :: ds) := fun g s Q E V k => by
  rw [he]
  exact spliced_cons (h g s _ E V fun v g' s' G r => hs g' s' _ E (V.grow G) fun vs g'' s'' G' r' => k _ _ _ (G.trans G') (.cons (G'.rep r) r'))

theorem ev_tuple {es : List Expr} {ds : List D} {k : Nat} {pos : Pos} (h : EvL C A env σ pos es ds) (hsz : ds.length ≤ sizeLine) : Ev C A env σ (.Tuple es k pos) (.tup ds) := fun g s Q E V q =>
  PyProof.Rows.Tuple_ (h g s _ E V fun vs g' s' G r => wpAny_newObj_type (q _ _ _ (G.trans (Grow.push G.hp _)) (.tup (Fz.put_self _ _ _) (r.mono (Grow.push G.hp _).up))) (by show vs.toArray.size ≤ sizeLine; rw [List.size_toArray, r.length]; exact hsz))
theorem ev_list {es : List Expr} {ds : List D} {pos : Pos} (h : EvL C A env σ pos es ds) (hsz : ds.length ≤ sizeLine) : Ev C A env σ (.List es pos) (.list ds) := fun g s Q E V q =>
  PyProof.Rows.List_ (h g s _ E V fun vs g' s' G r => wpAny_newObj_type (q _ _ _ (G.trans (Grow.push G.hp _)) (.list (Fz.put_self _ _ _) (r.mono (Grow.push G.hp _).up))) (by show vs.toArray.size ≤ sizeLine; rw [List.size_toArray, r.length]; exact hsz))

/-- a call of f upon values -/
noncomputable def CallV (C : Cx) (A : Around) (f : Value) (ds : List D) (d : D) : Prop := Prim C A (fun vs => call f vs) ds d

theorem ev_call (O : C.OK) {x : Str} {np pos : Pos} {args : List Expr} {f : Value} {ds : List D} {d : D} (hf : Ev C A env σ (.Name x np) (.raw f)) (hk : keepIn C.K f = true) (hargs : EvL C A env σ pos args ds) (hc : CallV C A f ds d)
    (hne : ∃ e es, args = e :: es ∧ starEach (e :: es) env = (false, eval e env) :: starEach es env ∧ (backTo pos (starEach es env)).any (·.1) = false) :
    Ev C A env σ (.Call (.Name x np) args [] pos) d := fun g s Q E V k => by
  refine wpAny_Call_NameR (hf g s _ E V fun v g' s' G r => ?_)
  cases r using Rep.craw
  obtain ⟨e, es, rfl, he, hp⟩ := hne
  have hargs' := hargs g' s' (fun vs s₁ => C.K.In s₁.heap ∧ wpAny C.M A (call f ([] ++ vs)) Q E s₁) E (V.grow G) fun vs g'' s'' G' r => ⟨O.k.keeps G'.hp.kb, hc g'' s'' vs Q E G'.hp r fun v g₃ s₃ G₃ r₃ => k _ _ _ ((G.trans G').trans G₃) r₃⟩
  rw [he] at hargs' ⊢
  exact callWith_of (P := fun h => C.K.In h) (by show ((false || (backTo pos (starEach es env)).any (·.1)) || false) = false; rw [hp]; rfl) (fun h X => keeps_K hk h X) (evalArgs_plain hargs')
end

inductive Fl where
  | next | brk | cont
  | ret (d : D)
inductive FlowIs (g : Fz) : Flow → Fl → Prop where
  | next : FlowIs g .next .next
  | brk : FlowIs g .brk .brk
  | cont : FlowIs g .cont .cont
  | ret {v : Value} {d : D} : Rep g v d → FlowIs g (.ret v) (.ret d)

noncomputable abbrev Om := List (Addr × List D)
noncomputable abbrev Sg := List (Str × D)

/-- a list that only this frame's variable holds -/
structure OwnL (g : Fz) (H₀ h : Heap) (a : Addr) (ds : List D) : Prop where
  obj : ∃ vs n, h.get? a = some { cls := .type "list", data := .seq vs.toArray n } ∧ RepL g vs ds
  off : g a = none
  fresh : H₀.get? a = none

structure St (C : Cx) (g₀ : Fz) (H₀ : Heap) (env : Env) (own : List Addr) (ω : Om) (σ : Sg) (g : Fz) (s : Shared) : Prop where
  vars : Vars C env σ g s
  up : ∀ b o, g₀ b = some o → g b = some o
  new : ∀ b o, g b = some o → g₀ b = some o ∨ H₀.get? b = none
  kept : ∀ b o, H₀.get? b = some o → b ≠ 128 → s.heap.get? b = some o
  fL : g env.locals = none ∧ H₀.get? env.locals = none
  fC : ∀ c ∈ own, g c = none ∧ H₀.get? c = none ∧ ∃ v, s.heap.IsCell c v
  nd : (env.cells.map (·.2)).Nodup
  ec : ∀ c ∈ env.cells.map (·.2), ∃ v, s.heap.IsCell c v
  om : ∀ p ∈ ω, OwnL g H₀ s.heap p.1 p.2
  ond : (ω.map (·.1)).Nodup

section
variable {C : Cx} {A : Around} {env : Env} {σ σ' : Sg} {g₀ g g' : Fz} {H₀ : Heap} {s s' : Shared} {own : List Addr} {ω ω' : Om}

theorem Vars.weaken (V : Vars C env σ g s) (h : ∀ x d, σ'.lookup x = some d → σ.lookup x = some d) : Vars C env σ' g s :=
  ⟨V.hp, let ⟨m, n, r⟩ := V.ns; ⟨m, n, fun x d e => r x d (h x d e)⟩⟩
theorem St.weaken (S : St C g₀ H₀ env own ω σ g s) (h : ∀ x d, σ'.lookup x = some d → σ.lookup x = some d) : St C g₀ H₀ env own ω σ' g s := { S with vars := S.vars.weaken h }

theorem St.grow (S : St C g₀ H₀ env own ω σ g s) (G : Grow C g s g' s') : St C g₀ H₀ env own ω σ g' s' where
  vars := S.vars.grow G
  up := fun b o e => G.up b o (S.up b o e)
  new := fun b o e => by
    rcases G.new b o e with h | h
    · exact S.new b o h
    · refine .inr ?_
      cases q : H₀.get? b with
      | none => rfl
      | some o' =>
        by_cases hb : b = 128
        · subst hb; rw [G.hp.t128] at e; cases e
        · rw [S.kept b o' q hb] at h; cases h
  kept := fun b o e hb => G.kept b o (S.kept b o e hb) hb
  fL := by
    refine ⟨?_, S.fL.2⟩
    obtain ⟨m, ⟨o, es, ep, hL, _⟩, _⟩ := S.vars.ns
    cases q : g' env.locals with
    | none => rfl
    | some o' => rcases G.new _ _ q with h | h
                 · rw [S.fL.1] at h; cases h
                 · rw [hL] at h; cases h
  fC := fun c hc => by
    obtain ⟨h1, h2, v, h3⟩ := S.fC c hc
    refine ⟨?_, h2, v, G.cell S.vars.hp h3⟩
    obtain ⟨o, ho, _⟩ := h3
    cases q : g' c with
    | none => rfl
    | some o' => rcases G.new _ _ q with h | h
                 · rw [h1] at h; cases h
                 · rw [ho] at h; cases h
  nd := S.nd
  ec := fun c hc => let ⟨v, x⟩ := S.ec c hc; ⟨v, G.cell S.vars.hp x⟩
  om := fun p hp => by
    obtain ⟨⟨vs, n, e1, e4⟩, h1, h2⟩ := S.om p hp
    refine ⟨⟨vs, n, G.kept _ _ e1 (S.vars.hp.ne128 e1 fun w q => by cases q), G.repL e4⟩, ?_, h2⟩
    cases q : g' p.1 with
    | none => rfl
    | some o' => rcases G.new _ _ q with h | h
                 · rw [h1] at h; cases h
                 · rw [e1] at h; cases h
  ond := S.ond

noncomputable def Storable (env : Env) (own : List Addr) (x : Str) : Prop := env.kindOf x = some .local ∨ (env.kindOf x = some .cell ∧ ∃ c ∈ own, env.cells.lookup x = some c)

/-- one object of the frame's own has turned -/
theorem Hp.turn (H : Hp C g s) {a : Addr} {h' : Heap} (t : Nat) (hs : Heap.SameBut a s.heap h') (ha : g a = none) (h8 : a ≠ 128) : Hp C g { s with heap := h', toks := t } :=
  ⟨fun b o e => (hs.2 b (fun q => by rw [q, ha] at e; cases e)).trans (H.sub b o e), H.base, H.t128, let ⟨ps, e, x⟩ := H.tab; ⟨ps, (hs.2 128 (Ne.symm h8)).trans e, x⟩, H.gens, H.os⟩

theorem lookup_cons_ne {x y : Str} {d d' : D} (h : ((x, d) :: σ).lookup y = some d') : (y = x ∧ d' = d) ∨ (y ≠ x ∧ σ.lookup y = some d') := by
  rw [List.lookup_cons] at h
  cases hb : y == x with
  | true => rw [hb] at h; cases h; exact .inl ⟨eq_of_beq hb, rfl⟩
  | false => rw [hb] at h; exact .inr ⟨fun q => by subst q; simp at hb, h⟩
theorem lookup_mem : ∀ {l : List (Str × Addr)} {x : Str} {c : Addr}, l.lookup x = some c → (x, c) ∈ l
  | [], _, _, h => by cases h
  | (y, b) :: l, x, c, h => by
    rw [List.lookup_cons] at h
    cases hb : x == y with
    | true => rw [hb] at h; cases h; rw [eq_of_beq hb]; exact .head _
    | false => rw [hb] at h; exact .tail _ (lookup_mem h)
theorem nodup_snd {l : List (Str × Addr)} (h : (l.map (·.2)).Nodup) {x y : Str} {c : Addr} (hx : (x, c) ∈ l) (hy : (y, c) ∈ l) : x = y := by
  induction l with
  | nil => cases hx
  | cons p r ih =>
    rw [List.map_cons, List.nodup_cons] at h
    rcases List.mem_cons.mp hx with ex | hx'
    · rcases List.mem_cons.mp hy with ey | hy'
      · rw [← ex] at ey; cases ey; rfl
      · subst ex; exact absurd (List.mem_map_of_mem (f := fun q : Str × Addr => q.2) hy') h.1
    · rcases List.mem_cons.mp hy with ey | hy'
      · subst ey; exact absurd (List.mem_map_of_mem (f := fun q : Str × Addr => q.2) hx') h.1
      · exact ih h.2 hx' hy'

theorem St.storeL (S : St C g₀ H₀ env own ω σ g s) {x : Str} {v : Value} {d : D} {Q : Unit → Shared → Prop} {E : Value → Shared → Prop} (hk : env.scope.kind = .function) (hx : env.kindOf x = some .local) (r : Rep g v d)
    (h : ∀ s', St C g₀ H₀ env own ω ((x, d) :: σ) g s' → Q () s') : wpAny C.M A (storeName env x v) Q E s := by
  obtain ⟨m, n, b⟩ := S.vars.ns
  have nL : ∀ (a : Addr) (o : Obj), s.heap.get? a = some o → (∀ es ep, o.data ≠ .dict es ep) → a ≠ env.locals := fun a o e hd q => by
    obtain ⟨oL, es, ep, hL, hLd, _⟩ := n
    rw [q, hL] at e; cases e; exact hd _ _ hLd
  have n8 : env.locals ≠ 128 := by
    obtain ⟨oL, es, ep, hL, hLd, _⟩ := n
    exact S.vars.hp.ne128 hL fun vs q => by rw [hLd] at q; cases q
  refine wpAny_storeName_local hx n (fun h' hn hs => h _ ?_) (by rw [hk]; rfl)
  refine ⟨⟨S.vars.hp.turn _ hs S.fL.1 n8, _, hn, fun y d' e => ?_⟩, S.up, S.new, fun a o e ha => ?_, S.fL, fun c hc => ?_, S.nd, fun c hc => ?_, fun p hp => ?_, S.ond⟩
  · rcases lookup_cons_ne e with ⟨rfl, rfl⟩ | ⟨hy, e⟩
    · exact .inl ⟨hx, v, by simp, r⟩
    · rcases b y d' e with ⟨k, u, hu, ru⟩ | ⟨k, c, u, hc, ⟨o, ho, hd⟩, ru⟩
      · exact .inl ⟨k, u, by simp [hy, hu], ru⟩
      · exact .inr ⟨k, c, u, hc, ⟨o, (hs.2 c (nL c o ho fun es ep q => by rw [hd] at q; cases q)).trans ho, hd⟩, ru⟩
  · exact (hs.2 a (fun q => by rw [q, S.fL.2] at e; cases e)).trans (S.kept a o e ha)
  · obtain ⟨h1, h2, u, o, ho, hd⟩ := S.fC c hc
    exact ⟨h1, h2, u, o, (hs.2 c (nL c o ho fun es ep q => by rw [hd] at q; cases q)).trans ho, hd⟩
  · obtain ⟨u, o, ho, hd⟩ := S.ec c hc
    exact ⟨u, o, (hs.2 c (nL c o ho fun es ep q => by rw [hd] at q; cases q)).trans ho, hd⟩
  · obtain ⟨⟨vs, k, e1, e4⟩, h1, h2⟩ := S.om p hp
    exact ⟨⟨vs, k, (hs.2 p.1 (nL p.1 _ e1 fun es ep q => by cases q)).trans e1, e4⟩, h1, h2⟩

theorem St.storeC (S : St C g₀ H₀ env own ω σ g s) {x : Str} {c : Addr} {v : Value} {d : D} {Q : Unit → Shared → Prop} {E : Value → Shared → Prop} (hk : env.scope.kind = .function) (hx : env.kindOf x = some .cell) (hc : env.cells.lookup x = some c) (ho : c ∈ own) (r : Rep g v d)
    (h : ∀ s', St C g₀ H₀ env own ω ((x, d) :: σ) g s' → Q () s') : wpAny C.M A (storeName env x v) Q E s := by
  obtain ⟨m, n, b⟩ := S.vars.ns
  obtain ⟨c1, c2, v₀, c3⟩ := S.fC c ho
  have nc : ∀ (a : Addr) (o : Obj), s.heap.get? a = some o → (∀ v, o.data ≠ .cell v) → a ≠ c := fun a o e hd q => by
    obtain ⟨oc, hc, hcd⟩ := c3
    rw [q, hc] at e; cases e; exact hd _ hcd
  have n8 : c ≠ 128 := by
    obtain ⟨oc, hc, hcd⟩ := c3
    exact S.vars.hp.ne128 hc fun vs q => by rw [hcd] at q; cases q
  refine wpAny_storeName_cell hk hx hc c3 (fun h' hn hs => h _ ?_)
  have nk : h'.Ns env.locals m := by
    obtain ⟨oL, es, ep, hL, hLd, hr⟩ := n
    exact ⟨oL, es, ep, (hs.2 _ (nc _ _ hL fun v q => by rw [hLd] at q; cases q)).trans hL, hLd, hr⟩
  refine ⟨⟨S.vars.hp.turn s.toks hs c1 n8, _, nk, fun y d' e => ?_⟩, S.up, S.new, fun a o e ha => ?_, S.fL, fun c' hc' => ?_, S.nd, fun c' hc' => ?_, fun p hp => ?_, S.ond⟩
  · rcases lookup_cons_ne e with ⟨rfl, rfl⟩ | ⟨hy, e⟩
    · exact .inr ⟨.inl hx, c, v, hc, hn, r⟩
    · rcases b y d' e with ⟨k, u, hu, ru⟩ | ⟨k, c', u, hc', ⟨o, ho', hd⟩, ru⟩
      · exact .inl ⟨k, u, hu, ru⟩
      · refine .inr ⟨k, c', u, hc', ⟨o, (hs.2 c' fun q => ?_).trans ho', hd⟩, ru⟩
        subst q
        exact hy (nodup_snd S.nd (lookup_mem hc') (lookup_mem hc))
  · exact (hs.2 a (fun q => by rw [q, c2] at e; cases e)).trans (S.kept a o e ha)
  · obtain ⟨h1, h2, u, o, ho, hd⟩ := S.fC c' hc'
    by_cases q : c' = c
    · subst q; exact ⟨h1, h2, _, hn⟩
    · exact ⟨h1, h2, u, o, (hs.2 c' q).trans ho, hd⟩
  · obtain ⟨u, o, ho, hd⟩ := S.ec c' hc'
    by_cases q : c' = c
    · subst q; exact ⟨_, hn⟩
    · exact ⟨u, o, (hs.2 c' q).trans ho, hd⟩
  · obtain ⟨⟨vs, k, e1, e4⟩, h1, h2⟩ := S.om p hp
    exact ⟨⟨vs, k, (hs.2 p.1 (nc p.1 _ e1 fun v q => by cases q)).trans e1, e4⟩, h1, h2⟩

theorem St.store (S : St C g₀ H₀ env own ω σ g s) {x : Str} {v : Value} {d : D} {Q : Unit → Shared → Prop} {E : Value → Shared → Prop} (hk : env.scope.kind = .function) (hx : Storable env own x) (r : Rep g v d)
    (h : ∀ s', St C g₀ H₀ env own ω ((x, d) :: σ) g s' → Q () s') : wpAny C.M A (storeName env x v) Q E s := by
  rcases hx with hx | ⟨hx, c, ho, hc⟩
  · exact S.storeL hk hx r h
  · exact S.storeC hk hx hc ho r h

/-- from here on everything but the frame's own is kept -/
noncomputable def hid (env : Env) (own : List Addr) (ω : Om) : List Addr := env.locals :: own ++ ω.map (·.1)
theorem St.rebase (S : St C g₀ H₀ env own ω σ g s) : St C g (hideAll s.heap (hid env own ω)) env own ω σ g s where
  vars := S.vars
  up := fun _ _ e => e
  new := fun _ _ e => .inl e
  kept := fun b o e _ => of_hideAll _ e
  fL := ⟨S.fL.1, hideAll_none _ (by simp [hid])⟩
  fC := fun c hc => ⟨(S.fC c hc).1, hideAll_none _ (by simp [hid, hc]), (S.fC c hc).2.2⟩
  nd := S.nd
  ec := S.ec
  om := fun p hp => ⟨(S.om p hp).obj, (S.om p hp).off, hideAll_none _ (by simp only [hid, List.mem_append, List.mem_map]; exact .inr ⟨p, hp, rfl⟩)⟩
  ond := S.ond
theorem St.notHid (S : St C g₀ H₀ env own ω σ g s) {b : Addr} {o : Obj} (e : H₀.get? b = some o) : b ∉ hid env own ω := fun q => by
  simp only [hid, List.mem_append, List.mem_cons, List.mem_map] at q
  rcases q with (rfl | q) | ⟨p, hp, rfl⟩
  · rw [S.fL.2] at e; cases e
  · rw [(S.fC b q).2.1] at e; cases e
  · rw [(S.om p hp).fresh] at e; cases e
theorem St.back (S : St C g₀ H₀ env own ω σ g s) (S' : St C g (hideAll s.heap (hid env own ω)) env own ω' σ' g' s') : St C g₀ H₀ env own ω' σ' g' s' where
  vars := S'.vars
  up := fun b o e => S'.up b o (S.up b o e)
  new := fun b o e => by
    cases q : H₀.get? b with
    | none => exact .inr rfl
    | some o' =>
      have h8 : b ≠ 128 := fun h => by rw [h, S'.vars.hp.t128] at e; cases e
      rcases S'.new b o e with h | h
      · rcases S.new b o h with h' | h'
        · exact .inl h'
        · rw [h'] at q; cases q
      · rw [hideAll_get _ (S.kept b o' q h8) (S.notHid q)] at h; cases h
  kept := fun b o e h8 => S'.kept b o (hideAll_get _ (S.kept b o e h8) (S.notHid e)) h8
  fL := ⟨S'.fL.1, S.fL.2⟩
  fC := fun c hc => ⟨(S'.fC c hc).1, (S.fC c hc).2.1, (S'.fC c hc).2.2⟩
  nd := S.nd
  ec := S'.ec
  om := fun p hp => by
    have y := S'.om p hp
    refine ⟨y.obj, y.off, ?_⟩
    cases q : H₀.get? p.1 with
    | none => rfl
    | some o' =>
      obtain ⟨vs, n, e1, e4⟩ := y.obj
      have h8 : p.1 ≠ 128 := S'.vars.hp.ne128 e1 fun w q => by cases q
      have := y.fresh
      rw [hideAll_get _ (S.kept _ o' q h8) (S.notHid q)] at this; cases this
  ond := S'.ond
end

noncomputable abbrev Post := Fl → Om → Sg → Prop
/-- one statement -/
noncomputable def Ex1 (C : Cx) (A : Around) (env : Env) (own : List Addr) (ω : Om) (σ : Sg) (st : Stmt) (Ψ : Post) : Prop :=
  ∀ (g₀ : Fz) (H₀ : Heap) (g : Fz) (s : Shared) (Q : Flow → Shared → Prop) (E : Value → Shared → Prop), St C g₀ H₀ env own ω σ g s →
    (∀ f s' g' fd ω' σ', FlowIs g' f fd → St C g₀ H₀ env own ω' σ' g' s' → Ψ fd ω' σ' → Q f s') → wpAny C.M A (exec st env) Q E s
noncomputable def Ex (C : Cx) (A : Around) (env : Env) (own : List Addr) (ω : Om) (σ : Sg) (sts : List Stmt) (Ψ : Post) : Prop :=
  ∀ (g₀ : Fz) (H₀ : Heap) (g : Fz) (s : Shared) (Q : Flow → Shared → Prop) (E : Value → Shared → Prop), St C g₀ H₀ env own ω σ g s →
    (∀ f s' g' fd ω' σ', FlowIs g' f fd → St C g₀ H₀ env own ω' σ' g' s' → Ψ fd ω' σ' → Q f s') → wpAny C.M A (execs sts env) Q E s

section
variable {C : Cx} {A : Around} {env : Env} {own : List Addr} {ω : Om} {σ σ' : Sg} {Ψ Ψ' : Post}
theorem Ex.mono {sts : List Stmt} (h : Ex C A env own ω σ sts Ψ) (k : ∀ f ω σ, Ψ f ω σ → Ψ' f ω σ) : Ex C A env own ω σ sts Ψ' := fun g₀ H₀ g s Q E S q => h g₀ H₀ g s Q E S fun f s' g' fd ω' σ' a b c => q f s' g' fd ω' σ' a b (k _ _ _ c)
theorem Ex.weaken {sts : List Stmt} (h : Ex C A env own ω σ' sts Ψ) (k : ∀ x d, σ'.lookup x = some d → σ.lookup x = some d) : Ex C A env own ω σ sts Ψ := fun g₀ H₀ g s Q E S q => h g₀ H₀ g s Q E (S.weaken k) q
theorem ex_nil (h : Ψ .next ω σ) : Ex C A env own ω σ [] Ψ := fun g₀ H₀ g s Q E S q => wpAny_execs_nil (q _ _ _ _ _ _ .next S h)
theorem ex_cons {st : Stmt} {sts : List Stmt} (h : Ex1 C A env own ω σ st (fun f ω' σ' => match f with | .next => Ex C A env own ω' σ' sts Ψ | f => Ψ f ω' σ')) : Ex C A env own ω σ (st :: sts) Ψ := fun g₀ H₀ g s Q E S q =>
  wpAny_execs_cons (h g₀ H₀ g s _ E S fun f s' g' fd ω' σ' hf S' k => by
    cases hf with
    | next => exact k g₀ H₀ g' s' Q E S' q
    | brk => exact q _ _ _ _ _ _ .brk S' k
    | cont => exact q _ _ _ _ _ _ .cont S' k
    | ret r => exact q _ _ _ _ _ _ (.ret r) S' k)
theorem ex_assign {x : Str} {pos' pos : Pos} {e : Expr} {d : D} (he : Ev C A env σ e d) (h : Ψ .next ω ((x, d) :: σ)) (hx : Storable env own x := by exact .inl rfl) (hk : env.scope.kind = .function := by rfl)
    (hs : swapsWith e (some (.Name x pos')) pos.line env = pure false := by rfl) : Ex1 C A env own ω σ (.Assign [.Name x pos'] e pos) Ψ := fun g₀ H₀ g s Q E S q =>
  wpAny_Assign_Name (he g s _ E S.vars fun v g' s' G r => (S.grow G).store hk hx r fun s'' S' => q _ _ _ _ _ _ .next S' h) hs
theorem ex_ret {e : Expr} {pos : Pos} {d : D} (he : Ev C A env σ e d) (h : Ψ (.ret d) ω σ) : Ex1 C A env own ω σ (.Return (some e) pos) Ψ := fun g₀ H₀ g s Q E S q =>
  wpAny_Return_some (he g s _ E S.vars fun v g' s' G r => q _ _ _ _ _ _ (.ret r) (S.grow G) h)
theorem ex_break {pos : Pos} (h : Ψ .brk ω σ) : Ex1 C A env own ω σ (.Break pos) Ψ := fun g₀ H₀ g s Q E S q => wpAny_Break (q _ _ _ _ _ _ .brk S h)
theorem ex_if {t : Expr} {b o : List Stmt} {pos : Pos} {p : Bool} (ht : EvT C A env σ t p) (hb : p = true → Ex C A env own ω σ b Ψ) (ho : p = false → Ex C A env own ω σ o Ψ) : Ex1 C A env own ω σ (.If t b o pos) Ψ := fun g₀ H₀ g s Q E S q => by
  refine wpAny_If (ht g s _ E S.vars fun g' s' G => ?_)
  cases p with
  | true => exact hb rfl g₀ H₀ g' s' Q E (S.grow G) q
  | false => exact ho rfl g₀ H₀ g' s' Q E (S.grow G) q
end

/-- an address that the frame does not hold -/
structure Alien (env : Env) (own : List Addr) (ω : Om) (g : Fz) (H₀ : Heap) (b : Addr) : Prop where
  g : g b = none
  H : H₀.get? b = none
  n8 : b ≠ 128
  nL : b ≠ env.locals
  nc : b ∉ env.cells.map (·.2)
  no : b ∉ own
  nw : b ∉ ω.map (·.1)

section
variable {C : Cx} {A : Around} {env : Env} {σ σ' : Sg} {g₀ g g' : Fz} {H₀ : Heap} {s s' : Shared} {own : List Addr} {ω ω' : Om}
theorem Alien.hid {b : Addr} (x : Alien env own ω g H₀ b) : b ∉ hid env own ω := by
  simp only [Mine.hid, List.mem_append, List.mem_cons]
  rintro ((h | h) | h)
  · exact x.nL h
  · exact x.no h
  · exact x.nw h
theorem St.alien (S : St C g₀ H₀ env own ω σ g s) {b : Addr} (hb : s.heap.get? b = none) : Alien env own ω g H₀ b := by
  have n8 : b ≠ 128 := fun q => by
    obtain ⟨ps, e, _⟩ := S.vars.hp.tab
    rw [q, e] at hb; cases hb
  refine ⟨?_, ?_, n8, ?_, ?_, ?_, ?_⟩
  · cases q : g b with
    | none => rfl
    | some o => rw [S.vars.hp.sub b o q] at hb; cases hb
  · cases q : H₀.get? b with
    | none => rfl
    | some o => rw [S.kept b o q n8] at hb; cases hb
  · rintro rfl
    obtain ⟨m, ⟨o, es, ep, hL, _⟩, _⟩ := S.vars.ns
    rw [hL] at hb; cases hb
  · intro q
    obtain ⟨v, o, ho, _⟩ := S.ec b q
    rw [ho] at hb; cases hb
  · intro q
    obtain ⟨_, _, v, o, ho, _⟩ := S.fC b q
    rw [ho] at hb; cases hb
  · intro q
    obtain ⟨p, hp, rfl⟩ := List.mem_map.mp q
    obtain ⟨vs, n, ho, _⟩ := (S.om p hp).obj
    rw [ho] at hb; cases hb
theorem St.other (S : St C g₀ H₀ env own ω σ g s) {wr : List Addr} {h' : Heap} (t : Nat) (hk : ∀ b o, b ∉ wr → s.heap.get? b = some o → h'.get? b = some o) (hw : ∀ b ∈ wr, Alien env own ω g H₀ b) :
    St C g₀ H₀ env own ω σ g { s with heap := h', toks := t } where
  vars := by
    obtain ⟨m, ⟨o, es, ep, hL, hr⟩, b⟩ := S.vars.ns
    refine ⟨⟨fun b o e => hk b o (fun q => by rw [(hw b q).g] at e; cases e) (S.vars.hp.sub b o e), S.vars.hp.base, S.vars.hp.t128, ?_, S.vars.hp.gens, S.vars.hp.os⟩,
      m, ⟨o, es, ep, hk _ _ (fun q => (hw _ q).nL rfl) hL, hr⟩, fun x d e => ?_⟩
    · obtain ⟨ps, e, x⟩ := S.vars.hp.tab
      exact ⟨ps, hk _ _ (fun q => (hw _ q).n8 rfl) e, x⟩
    · rcases b x d e with h | ⟨k, c, v, hc, ⟨o, ho, hd⟩, r⟩
      · exact .inl h
      · exact .inr ⟨k, c, v, hc, ⟨o, hk _ _ (fun q => (hw _ q).nc (List.mem_map_of_mem (f := fun q : Str × Addr => q.2) (lookup_mem hc))) ho, hd⟩, r⟩
  up := S.up
  new := S.new
  kept := fun b o e h8 => hk b o (fun q => by rw [(hw b q).H] at e; cases e) (S.kept b o e h8)
  fL := S.fL
  fC := fun c hc => by
    obtain ⟨h1, h2, v, o, ho, hd⟩ := S.fC c hc
    exact ⟨h1, h2, v, o, hk _ _ (fun q => (hw _ q).no hc) ho, hd⟩
  nd := S.nd
  ec := fun c hc => by
    obtain ⟨v, o, ho, hd⟩ := S.ec c hc
    exact ⟨v, o, hk _ _ (fun q => (hw _ q).nc hc) ho, hd⟩
  om := fun p hp => by
    obtain ⟨⟨vs, n, e1, r⟩, h1, h2⟩ := S.om p hp
    exact ⟨⟨vs, n, hk _ _ (fun q => (hw _ q).nw (List.mem_map_of_mem (f := fun q : Addr × List D => q.1) hp)) e1, r⟩, h1, h2⟩
  ond := S.ond
end

/-- a value that can be walked along: its items -/
noncomputable def Itr (C : Cx) (A : Around) (d : D) (ds : List D) : Prop :=
  ∀ (g : Fz) (s : Shared) (v : Value) (Q E : Value → Shared → Prop), Hp C g s → Rep g v d →
    (∀ (I : Addr) (fp wr : List Addr) (P : Nat → Value → Prop) (W : Nat → Heap → Prop) (g' : Fz) (s' : Shared), Grow C g s g' s' → Walks C.prog C.w A I fp wr ds.length P W → W 0 s'.heap →
      (∀ i h, W i h → ∀ b ∈ wr, ∃ o, h.get? b = some o) → (∀ b ∈ wr, s.heap.get? b = none ∧ g' b = none) → (∀ b ∈ fp, b ∈ wr ∨ ∃ o, g' b = some o) → (∀ i v, P i v → ∃ d, ds[i]? = some d ∧ Rep g' v d) → Q (.ref I) s') →
    wpAny C.M A (pyIter v) Q E s

section
variable {C : Cx} {A : Around} {env : Env} {own : List Addr} {ω : Om} {σ : Sg} {Ψ : Post}

theorem itr_list (hh : A.handled = none) {ds : List D} : Itr C A (.list ds) ds := by
  intro g s v Q E H r k
  cases r using Rep.clist with
  | list a vs n e1 e4 =>
    have hl : s.heap.IsList a vs.toArray := ⟨_, H.sub _ _ e1, rfl, n, rfl⟩
    have hne : a ≠ s.heap.objs.size := fun q => by have := Heap.none_at s.heap; rw [← q, H.sub _ _ e1] at this; cases this
    refine wpAny_pyIter_list hl ?_
    have G : Grow C g s g { s with heap := s.heap.push { cls := .type "list_iterator", data := .fields #[.ref a, .int 0 0] } } := Grow.ext H s.toks fun b o e => Heap.get?_push_of_some _ e
    have W := Walks.list (prog := C.prog) (w := C.w) hh s.heap.objs.size a hne vs.toArray
    have hsz : vs.toArray.size = ds.length := by rw [List.size_toArray]; exact e4.length
    rw [hsz] at W
    refine k _ _ _ _ _ g _ G W ⟨⟨_, Heap.get?_push_size _ rfl, rfl, rfl⟩, hl.push _⟩ (fun i h st b hb => ?_) (fun b hb => ?_) (fun b hb => ?_) (fun i v hv => ?_)
    · simp at hb; subst hb; obtain ⟨o, ho, _⟩ := st.1; exact ⟨o, ho⟩
    · simp at hb; subst hb
      refine ⟨Heap.none_at _, ?_⟩
      cases q : g s.heap.objs.size with
      | none => rfl
      | some o => have := H.sub _ _ q; rw [Heap.none_at] at this; cases this
    · simp at hb
      rcases hb with rfl | rfl
      · exact .inl (by simp)
      · exact .inr ⟨_, e1⟩
    · simp at hv
      have : i < ds.length := by
        rw [← e4.length]
        by_cases h : i < vs.length
        · exact h
        · rw [List.getElem?_eq_none (by omega)] at hv; cases hv
      refine ⟨ds[i], by simp [this], ?_⟩
      obtain ⟨v', hv', rv⟩ := e4.get (i := i) (d := ds[i]) (by simp [this])
      rw [hv] at hv'; cases hv'; exact rv
theorem itr_tup (hh : A.handled = none) {ds : List D} : Itr C A (.tup ds) ds := by
  intro g s v Q E H r k
  cases r using Rep.ctup with
  | tup a vs n e1 e4 =>
    have hl : s.heap.IsTuple a vs.toArray := ⟨_, H.sub _ _ e1, rfl, n, rfl⟩
    have hne : a ≠ s.heap.objs.size := fun q => by have := Heap.none_at s.heap; rw [← q, H.sub _ _ e1] at this; cases this
    refine wpAny_pyIter_tuple hl ?_
    have G : Grow C g s g { s with heap := s.heap.push { cls := .type "tuple_iterator", data := .fields #[.ref a, .int 0 0] } } := Grow.ext H s.toks fun b o e => Heap.get?_push_of_some _ e
    have W := Walks.tuple (prog := C.prog) (w := C.w) hh s.heap.objs.size a hne vs.toArray
    have hsz : vs.toArray.size = ds.length := by rw [List.size_toArray]; exact e4.length
    rw [hsz] at W
    refine k _ _ _ _ _ g _ G W ⟨⟨_, Heap.get?_push_size _ rfl, rfl, rfl⟩, hl.push _⟩ (fun i h st b hb => ?_) (fun b hb => ?_) (fun b hb => ?_) (fun i v hv => ?_)
    · simp at hb; subst hb; obtain ⟨o, ho, _⟩ := st.1; exact ⟨o, ho⟩
    · simp at hb; subst hb
      refine ⟨Heap.none_at _, ?_⟩
      cases q : g s.heap.objs.size with
      | none => rfl
      | some o => have := H.sub _ _ q; rw [Heap.none_at] at this; cases this
    · simp at hb
      rcases hb with rfl | rfl
      · exact .inl (by simp)
      · exact .inr ⟨_, e1⟩
    · simp at hv
      have : i < ds.length := by
        rw [← e4.length]
        by_cases h : i < vs.length
        · exact h
        · rw [List.getElem?_eq_none (by omega)] at hv; cases hv
      refine ⟨ds[i], by simp [this], ?_⟩
      obtain ⟨v', hv', rv⟩ := e4.get (i := i) (d := ds[i]) (by simp [this])
      rw [hv] at hv'; cases hv'; exact rv
noncomputable def signs (x : Str) : List D := x.cps.toList.map fun c => .str ⟨#[c]⟩
theorem itr_str (hh : A.handled = none) {x : Str} : Itr C A (.str x) (signs x) := by
  intro g s v Q E H r k
  cases r using Rep.cstr with
  | str t =>
    have gs : g s.heap.objs.size = none := by
      cases q : g s.heap.objs.size with
      | none => rfl
      | some o => have := H.sub _ _ q; rw [Heap.none_at] at this; cases this
    have hsz : x.cps.size = (signs x).length := by simp [signs]
    have pv : ∀ i v, SignAt x i v → ∃ d, (signs x)[i]? = some d ∧ Rep g v d := fun i v ⟨c, u, hc, e⟩ => ⟨.str ⟨#[c]⟩, by simp [signs, hc], e ▸ .str _ _⟩
    cases ha : x.cps.all (· < 128) with
    | true =>
      refine wpAny_pyIter_ascii ha ?_
      have W := Walks.strAscii (prog := C.prog) (w := C.w) hh s.heap.objs.size x t
      rw [hsz] at W
      refine k _ _ _ _ _ g _ (Grow.ext H s.toks fun b o e => Heap.get?_push_of_some _ e) W ⟨_, Heap.get?_push_size _ rfl, rfl, rfl⟩ (fun i h st b hb => ?_) (fun b hb => ?_) (fun b hb => .inl hb) pv
      · simp at hb; subst hb; obtain ⟨o, ho, _⟩ := st; exact ⟨o, ho⟩
      · simp at hb; subst hb; exact ⟨Heap.none_at _, gs⟩
    | false =>
      refine wpAny_pyIter_wide ha ?_
      have W := Walks.strWide (prog := C.prog) (w := C.w) hh s.heap.objs.size x t
      rw [hsz] at W
      refine k _ _ _ _ _ g _ (Grow.ext H s.toks fun b o e => Heap.get?_push_of_some _ e) W ⟨_, Heap.get?_push_size _ rfl, rfl, rfl⟩ (fun i h st b hb => ?_) (fun b hb => ?_) (fun b hb => .inl hb) pv
      · simp at hb; subst hb; obtain ⟨o, ho, _⟩ := st; exact ⟨o, ho⟩
      · simp at hb; subst hb; exact ⟨Heap.none_at _, gs⟩
/-- the ints of a range -/
noncomputable def upto (lo hi : Int) : List Int := (List.range (hi - lo).toNat).map fun (i : Nat) => lo + (i : Int)
theorem itr_rng (hh : A.handled = none) {lo hi : Int} (hs : Builtin.Range.small lo hi 1 = true) : Itr C A (.rng lo hi) ((upto lo hi).map .int) := by
  intro g s v Q E H r k
  cases r using Rep.crng with
  | rng a t u v e =>
    have gs : g s.heap.objs.size = none := by
      cases q : g s.heap.objs.size with
      | none => rfl
      | some o => have := H.sub _ _ q; rw [Heap.none_at] at this; cases this
    refine wpAny_pyIter_range (H.sub _ _ e) hs ?_
    have W := Walks.range (prog := C.prog) (w := C.w) hh s.heap.objs.size lo 1 (hi - lo).toNat
    have hsz : (hi - lo).toNat = ((upto lo hi).map D.int).length := by simp [upto]
    rw [hsz] at W
    refine k _ _ _ _ _ g _ (Grow.ext H s.toks fun b o e => Heap.get?_push_of_some _ e) W.bound ?_ (fun i h st b hb => ?_) (fun b hb => ?_) (fun b hb => .inl hb) (fun i v hv => ?_)
    · show IsRangeIter _ _ _ _ _
      rw [rangeSize_nat, hsz]; simpa using Heap.get?_push_size _ rfl
    · simp at hb; subst hb; exact ⟨_, st⟩
    · simp at hb; subst hb; exact ⟨Heap.none_at _, gs⟩
    · obtain ⟨hi', t', rfl⟩ := hv
      rw [← hsz] at hi'
      exact ⟨.int (lo + i * 1), by simp [upto, hi'], .int _ _⟩

theorem ex_for {x : Str} {px pos : Pos} {iter : Expr} {body : List Stmt} {d : D} {ds : List D} (he : Ev C A env σ iter d) (hi : Itr C A d ds) (I : Nat → Om → Sg → Prop) (h0 : I 0 ω σ)
    (turn : ∀ i d ω σ, ds[i]? = some d → I i ω σ → Ex C A env own ω ((x, d) :: σ) body (fun f ω' σ' => match f with | .next | .cont => I (i + 1) ω' σ' | .brk => Ψ .next ω' σ' | .ret r => Ψ (.ret r) ω' σ'))
    (fin : ∀ ω σ, I ds.length ω σ → Ψ .next ω σ) (hx : Storable env own x := by exact .inl rfl) (hk : env.scope.kind = .function := by rfl) (hs : ∀ x, foldedSetIterable iter env x = pure x := by intro _; rfl) :
    Ex1 C A env own ω σ (.For (.Name x px) iter body [] pos) Ψ := fun g₀ H₀ g s Q E S q => by
  refine wpAny_For (he g s _ E S.vars fun v g1 s1 G1 r => hi g1 s1 v _ E G1.hp r fun It fp wr P W g2 s2 G2 Wk hst hlive hwr hfp hP => ?_) hs
  have S1 := S.grow G1
  have S2 := S1.grow G2
  have al2 : ∀ b ∈ wr, Alien env own ω g2 H₀ b := fun b hb => let y := S1.alien (hwr b hb).1; ⟨(hwr b hb).2, y.H, y.n8, y.nL, y.nc, y.no, y.nw⟩
  refine codeAny_forLoop (fun n s => ∃ i g ω σ, n = ds.length - i ∧ i ≤ ds.length ∧ St C g₀ H₀ env own ω σ g s ∧ W i s.heap ∧ I i ω σ ∧ (∀ b ∈ wr, Alien env own ω g H₀ b) ∧ (∀ b o, g2 b = some o → g b = some o)) ?_
    ds.length ⟨0, g2, ω, σ, rfl, Nat.zero_le _, S2, hst, h0, al2, fun _ _ e => e⟩
  rintro n s ⟨i, g, ω, σ, rfl, hil, S, hst, hI, hal, hup⟩
  by_cases hlt : i < ds.length
  · refine Wk.item i s _ _ hlt hst fun v h' tk hPv hst' hkp => ?_
    obtain ⟨d, hd, rd⟩ := hP i v hPv
    have S' := S.other tk hkp hal
    show wpAny C.M A (assign (.Name x px) env v) _ _ _
    refine wpAny_assign_Name (S'.rebase.store hk hx (rd.mono hup) fun s'' S'' => ?_)
    refine turn i d ω σ hd hI _ _ g s'' _ _ S'' fun f s3 g3 fd ω3 σ3 hf S3 k => ?_
    have S4 := S'.back S3
    have live : ∀ b ∈ wr, ∃ o, (hideAll h' (Mine.hid env own ω)).get? b = some o := fun b hb => let ⟨o, ho⟩ := hlive _ _ hst' b hb; ⟨o, hideAll_get _ ho (hal b hb).hid⟩
    have nxt : W (i + 1) s3.heap := Wk.frame (i + 1) h' s3.heap hst' fun b hb o e => by
      rcases hfp b hb with hb | ⟨o', e'⟩
      · exact S3.kept b o (hideAll_get _ e (hal b hb).hid) (hal b hb).n8
      · have e1 := S'.vars.hp.sub b o' (hup b o' e')
        have e2 : h'.get? b = some o' := e1
        rw [e] at e2; cases e2
        exact S3.vars.hp.sub b o (S3.up b o (hup b o e'))
    have al3 : ∀ b ∈ wr, Alien env own ω3 g3 H₀ b := fun b hb => by
      obtain ⟨o, ho⟩ := live b hb
      have y := hal b hb
      refine ⟨?_, y.H, y.n8, y.nL, y.nc, y.no, fun q => ?_⟩
      · cases q : g3 b with
        | none => rfl
        | some o' => rcases S3.new b o' q with h | h
                     · rw [y.g] at h; cases h
                     · rw [show (hideAll h' (Mine.hid env own ω)).get? b = none from h] at ho; cases ho
      · obtain ⟨p, hp, e⟩ := List.mem_map.mp q
        have := (S3.om p hp).fresh
        rw [show p.1 = b from e] at this
        rw [show (hideAll h' (Mine.hid env own ω)).get? b = none from this] at ho; cases ho
    have up3 : ∀ b o, g2 b = some o → g3 b = some o := fun b o e => S3.up b o (hup b o e)
    cases hf with
    | next => exact ⟨ds.length - (i + 1), by omega, i + 1, g3, ω3, σ3, rfl, by omega, S4, nxt, k, al3, up3⟩
    | cont => exact ⟨ds.length - (i + 1), by omega, i + 1, g3, ω3, σ3, rfl, by omega, S4, nxt, k, al3, up3⟩
    | brk => exact q _ _ _ _ _ _ .next S4 k
    | ret r => exact q _ _ _ _ _ _ (.ret r) S4 k
  · have hie : i = ds.length := by omega
    subst hie
    refine Wk.done s _ _ hst fun h' tk hkp => ?_
    have S' := S.other tk hkp hal
    exact wpAny_execs_nil (q _ _ _ _ _ _ .next S' (fin _ _ hI))

theorem ex_while {t : Expr} {body : List Stmt} {pos : Pos} (I : Nat → Om → Sg → Prop) (n : Nat) (h0 : I n ω σ)
    (turn : ∀ n ω σ, I n ω σ → ∃ b, EvT C A env σ t b ∧ (b = true → Ex C A env own ω σ body (fun f ω' σ' => match f with | .next | .cont => ∃ m, m < n ∧ I m ω' σ' | .brk => Ψ .next ω' σ' | .ret r => Ψ (.ret r) ω' σ')) ∧
      (b = false → Ψ .next ω σ)) : Ex1 C A env own ω σ (.While t body [] pos) Ψ := fun g₀ H₀ g s Q E S q => by
  refine wpAny_While (codeAny_whileLoop (fun n s => ∃ g ω σ, St C g₀ H₀ env own ω σ g s ∧ I n ω σ) ?_ n ⟨g, ω, σ, S, h0⟩)
  rintro n s ⟨g, ω, σ, S, hI⟩
  obtain ⟨b, ht, hb, hn⟩ := turn n ω σ hI
  refine ht g s _ _ S.vars fun g1 s1 G1 => ?_
  have S1 := S.grow G1
  cases b with
  | true =>
    refine hb rfl g₀ H₀ g1 s1 _ _ S1 fun f s3 g3 fd ω3 σ3 hf S3 k => ?_
    cases hf with
    | next => obtain ⟨m, hm, k⟩ := k; exact ⟨m, hm, g3, ω3, σ3, S3, k⟩
    | cont => obtain ⟨m, hm, k⟩ := k; exact ⟨m, hm, g3, ω3, σ3, S3, k⟩
    | brk => exact q _ _ _ _ _ _ .next S3 k
    | ret r => exact q _ _ _ _ _ _ (.ret r) S3 k
  | false => exact wpAny_execs_nil (q _ _ _ _ _ _ .next S1 (hn rfl))
end

inductive RepA (g : Fz) : List (Str × Value) → Sg → Prop where
  | nil : RepA g [] []
  | cons {x : Str} {v : Value} {d : D} {l : List (Str × Value)} {l' : Sg} : Rep g v d → RepA g l l' → RepA g ((x, v) :: l) ((x, d) :: l')
theorem RepA.lookup {g : Fz} : ∀ {l : List (Str × Value)} {l' : Sg}, RepA g l l' → ∀ {x : Str} {d : D}, l'.lookup x = some d → ∃ v, l.lookup x = some v ∧ Rep g v d
  | _, _, .nil, x, d, e => by cases e
  | _, _, .cons (x := y) r rs, x, d, e => by
    rw [List.lookup_cons] at e ⊢
    cases hb : x == y with
    | true => rw [hb] at e; cases e; exact ⟨_, rfl, r⟩
    | false => rw [hb] at e; exact rs.lookup e
theorem RepA.append {g : Fz} : ∀ {l m : List (Str × Value)} {l' m' : Sg}, RepA g l l' → RepA g m m' → RepA g (l ++ m) (l' ++ m')
  | _, _, _, _, .nil, y => y
  | _, _, _, _, .cons r rs, y => .cons r (rs.append y)
theorem RepA.reverse {g : Fz} : ∀ {l : List (Str × Value)} {l' : Sg}, RepA g l l' → RepA g l.reverse l'.reverse
  | _, _, .nil => .nil
  | _, _, .cons r rs => by rw [List.reverse_cons, List.reverse_cons]; exact rs.reverse.append (.cons r .nil)
theorem RepA.zip {g : Fz} : ∀ (xs : List Str) {vs : List Value} {ds : List D}, RepL g vs ds → RepA g (xs.zip vs) (xs.zip ds)
  | [], _, _, _ => by simp; exact .nil
  | _ :: _, _, _, .nil => .nil
  | x :: xs, _, _, .cons r rs => .cons r (RepA.zip xs rs)
theorem lookup_memV {α : Type} : ∀ {l : List (Str × α)} {x : Str} {c : α}, l.lookup x = some c → (x, c) ∈ l
  | [], _, _, h => by cases h
  | (y, b) :: l, x, c, h => by
    rw [List.lookup_cons] at h
    cases hb : x == y with
    | true => rw [hb] at h; cases h; rw [eq_of_beq hb]; exact .head _
    | false => rw [hb] at h; exact .tail _ (lookup_memV h)

section
variable {C : Cx} {A : Around} {env : Env} {σ : Sg}

/-- what a def's body may end in -/
noncomputable def Ends (d : D) : Post := fun f _ _ => match f with
  | .ret d' => d' = d
  | .next => d = .none
  | _ => False

theorem callV_def (O : C.OK) {f : Addr} {o : Obj} {fd : FuncData} {body : List Stmt} {xs : List Str} {ds : List D} {d : D} (hK : C.K.lookup f = some o) (hdata : o.data = .func fd) (hbody : fd.body = .stmts body) (hroom : A.depth < recursionLimit)
    (hcd : ∃ c oc vs t, fd.code = .ref c ∧ C.K.lookup c = some oc ∧ oc.data = .fields vs ∧ vs[1]? = some (.str fd.qualname t))
    (hb : ∀ vs : List Value, vs.length = ds.length → bindArgs fd ⟨vs, []⟩ = pure (xs.zip vs)) (hcell : ∀ x ∈ fd.scope.names, x.2 ≠ .cell) (hloc : ∀ x ∈ xs, fd.scope.names.lookup x = some .local) (hclo : fd.closure = [])
    (h : ∀ L, Ex C (A.deeper (callEnv fd L f)) (callEnv fd L f) [] [] (xs.zip ds).reverse body (Ends d))
    (hco : fd.scope.isCoroutine = false := by rfl) (hgen : fd.scope.isGenerator = false := by rfl) (hk : fd.scope.kind = .function := by rfl) : CallV C A (.ref f) ds d := by
  intro g s vs Q E H r k
  obtain ⟨c, oc, vc, t, c1, c2, c3, c4⟩ := hcd
  refine wpAny_call (codeAny_call_def hroom (H.kb _ _ (O.k _ _ hK)) hdata (O.nolimit.keeps H.kb) ⟨c, oc, vc, t, c1, H.kb _ _ (O.k _ _ c2), c3, c4⟩ hbody (BindsTo.of_eq (hb vs r.length)) hcell (fun x hx => hloc x.1 (List.of_mem_zip hx).1) (fun h₀ hn hkp => ?_) hco hgen hk)
  have hL : s.heap.get? s.heap.objs.size = none := Heap.none_at _
  have gL : g s.heap.objs.size = none := by
    cases q : g s.heap.objs.size with
    | none => rfl
    | some o => rw [H.sub _ _ q] at hL; cases hL
  have S : St C g s.heap (callEnv fd s.heap.objs.size f) [] [] (xs.zip ds).reverse g { s with heap := h₀, toks := s.toks + (xs.zip vs).length } := by
    refine ⟨⟨⟨fun b o e => hkp b o (H.sub b o e), H.base, H.t128, ?_, H.gens, H.os⟩, _, hn, fun x d e => ?_⟩, fun _ _ e => e, fun _ _ e => .inl e, fun b o e _ => hkp b o e, ⟨gL, hL⟩, (fun c hc => by cases hc), ?_, ?_, (fun p hp => by cases hp), List.nodup_nil⟩
    · obtain ⟨ps, e, x⟩ := H.tab; exact ⟨ps, hkp _ _ e, x⟩
    · obtain ⟨v, hv, rv⟩ := (RepA.zip xs r).reverse.lookup e
      refine .inl ⟨hloc x ?_, v, hv, rv⟩
      have := List.mem_reverse.mp (lookup_memV hv)
      exact (List.of_mem_zip this).1
    · show (fd.closure.map (·.2)).Nodup; rw [hclo]; exact List.nodup_nil
    · intro c hc; rw [show (callEnv fd s.heap.objs.size f).cells = [] from hclo] at hc; cases hc
  refine h _ g s.heap g _ _ _ S fun fl s' g' fd' ω' σ' hf S' e => ?_
  have G : Grow C g s g' s' := ⟨S'.vars.hp, S'.up, S'.new, S'.kept⟩
  cases hf with
  | ret rv => cases e; exact k _ g' s' G rv
  | next => cases (show d = .none from e); exact k _ g' s' G .none
  | brk => exact (show False from e).elim
  | cont => exact (show False from e).elim
end

/-- what max and min over a list give -/
noncomputable def bestI (r : Int → Int → Bool) (ns : List Int) : Int := ns.getD (argBest (fun i j => r (ns.getD i 0) (ns.getD j 0)) (ns.length - 1)) 0

section
variable {C : Cx} {A : Around} {env : Env} {σ : Sg}

theorem Hp.none_g {g : Fz} {s : Shared} (H : Hp C g s) {a : Addr} (h : s.heap.get? a = none) : g a = none := by
  cases q : g a with
  | none => rfl
  | some o => rw [H.sub _ _ q] at h; cases h

theorem p_addl {as bs : List D} (hsz : as.length + bs.length ≤ sizeLine) : Prim C A (fun vs => binaryOp .Add (vs.getD 0 .none) (vs.getD 1 .none)) [.list as, .list bs] (.list (as ++ bs)) := Prim.two fun g s v u Q E H r1 r2 k => by
  cases r1 using Rep.clist with
  | list a vs n e1 e4 => cases r2 using Rep.clist with
    | list b ws n' f1 f4 =>
      have e : vs.toArray ++ ws.toArray = (vs ++ ws).toArray := by simp
      refine concat_meets ⟨_, H.sub _ _ e1, rfl⟩ ⟨_, H.sub _ _ f1, rfl⟩ noFill_list_add seq_list_add PySem.F.slot_list_add PySem.F.entry_list_add (PySem.F.args_list_add_2 _ _)
        (list_addW a b vs.toArray ws.toArray n n' none none #[] #[] (by simpa [e4.length, f4.length] using hsz)) ⟨H.sub _ _ e1, H.sub _ _ f1, ?_⟩
      rw [e]
      exact k _ _ _ (Grow.push H _) (.list (Fz.put_self _ _ _) ((e4.append f4).mono (Grow.push H _).up))

theorem replicate_foldl {α : Type} (x : α) (n : Nat) : List.foldl (fun x1 x2 => x1 ++ x2) #[] (List.replicate n #[x]) = (List.replicate n x).toArray := by
  have : ∀ (n : Nat) (acc : Array α), List.foldl (fun x1 x2 => x1 ++ x2) acc (List.replicate n #[x]) = acc ++ (List.replicate n x).toArray := by
    intro n
    induction n with
    | zero => intro acc; simp
    | succ n ih => intro acc; rw [List.replicate_succ, List.foldl_cons, ih, List.replicate_succ]; apply Array.ext'; simp
  simpa using this n #[]
theorem RepL.replicate {g : Fz} {v : Value} {d : D} (r : Rep g v d) : ∀ n : Nat, RepL g (List.replicate n v) (List.replicate n d)
  | 0 => .nil
  | n + 1 => .cons r (RepL.replicate r n)
theorem p_mull {a : D} {x : Int} (hlo : -(2 ^ 63 : Int) ≤ x) (hhi : x < 2 ^ 63) (hsz : x.toNat ≤ 2 ^ 24) : Prim C A (fun vs => binaryOp .Mult (vs.getD 0 .none) (vs.getD 1 .none)) [.list [a], .int x] (.list (List.replicate x.toNat a)) := Prim.two fun g s v u Q E H r1 r2 k => by
  cases r1 using Rep.clist with
  | list l vs n e1 e4 => cases r2 using Rep.cint with
    | int u =>
      cases e4 using RepL.ccons with
      | cons ra rn =>
        cases rn using RepL.cnil
        rename_i v
        have hl := H.sub _ _ e1
        refine wpAny_binaryOp_repeat_ref (T := "list") (U := "int") (by decide) ⟨_, hl, rfl⟩ (fun s' => typeIs_int s' x u) noFill_list_mul F.fills_int_mul F.slot_int_rmul repeat_list F.slot_int_index.lookup
          (call_meets F.slot_int_rmul (typeIs_int s x u) F.entry_int_rmul (F.args_int_rmul_2 _ _) (int___rmul___int_list x u l #[v] n)
            ⟨hl, rfl, ⟨_, hl, rfl⟩, call_meets F.slot_list_mul ⟨_, hl, rfl⟩ F.entry_list_mul (F.args_list_mul_2 _ _)
              (AutoListH.list___mul___list_int_3 l #[v] n x u (by simp [Builtin.List.listFitsIndex]; omega) (by rw [show (#[v] : Array Value).size = 1 from rfl]; omega) (by simp only [Builtin.List.listTooLong, sizeLine, show (#[v] : Array Value).size = 1 from rfl]; simp; omega))
              ⟨hl, ?_⟩⟩)
        have e : List.foldl (fun x1 x2 => x1 ++ x2) #[] (List.replicate (if (#[v] : Array Value).isEmpty = true then 0 else x.toNat) #[v]) = (List.replicate x.toNat v).toArray := by
          simp only [show (#[v] : Array Value).isEmpty = false from rfl, Bool.false_eq_true, if_false]; exact replicate_foldl v _
        rw [e]
        exact k _ _ _ (Grow.push H _) (.list (Fz.put_self _ _ _) ((RepL.replicate ra _).mono (Grow.push H _).up))

theorem p_len {ds : List D} (hsz : (ds.length : Int) < 2 ^ 63) : CallV C A (.builtin "len") [.list ds] (.int ds.length) := by
  intro g s vs Q E H r k
  cases r using RepL.ccons with
  | cons r rn => cases rn using RepL.cnil; cases r using Rep.clist with
    | list a vs n e1 e4 =>
      have hl : s.heap.IsList a vs.toArray := ⟨_, H.sub _ _ e1, rfl, n, rfl⟩
      have e : vs.toArray.size = ds.length := by rw [List.size_toArray]; exact e4.length
      refine call_len_list hl (by rw [e]; exact hsz) ?_
      rw [e]
      exact k _ _ _ (Grow.toks H _) (.int _ _)
theorem p_len_tup {ds : List D} (hsz : (ds.length : Int) < 2 ^ 63) : CallV C A (.builtin "len") [.tup ds] (.int ds.length) := by
  intro g s vs Q E H r k
  cases r using RepL.ccons with
  | cons r rn => cases rn using RepL.cnil; cases r using Rep.ctup with
    | tup a vs n e1 e4 =>
      have e : vs.toArray.size = ds.length := by rw [List.size_toArray]; exact e4.length
      refine len_tuple ⟨_, H.sub _ _ e1, rfl, n, rfl⟩ (by rw [e]; exact hsz) ?_
      rw [e]
      exact k _ _ _ (Grow.toks H _) (.int _ _)

theorem val_at {g : Fz} {vs : List Value} {ns : List Int} (h : RepL g vs (ns.map D.int)) : ∀ (i : Nat) (v : Value), vs.toArray[i]? = some v → ∃ t, v = Value.int (ns.getD i 0) t := fun i v e => by
  have := h.ints
  exact IntsAre.int_at this i v (by simpa using e)
theorem best_lt (bt : Nat → Nat → Bool) : ∀ n, argBest bt n ≤ n
  | 0 => Nat.le_refl _
  | n + 1 => by rw [argBest]; split <;> first | exact Nat.le_refl _ | exact Nat.le_succ_of_le (best_lt bt n)

theorem p_max (hh : A.handled = none) {ns : List Int} (hne : 0 < ns.length) : CallV C A (.builtin "max") [.list (ns.map D.int)] (.int (bestI (fun a b => decide (a > b)) ns)) := by
  intro g s vs Q E H r k
  cases r using RepL.ccons with
  | cons r rn => cases rn using RepL.cnil; cases r using Rep.clist with
    | list a vs n e1 e4 =>
      have hl : s.heap.IsList a vs.toArray := ⟨_, H.sub _ _ e1, rfl, n, rfl⟩
      have hlt : a < s.heap.objs.size := Heap.lt_size (H.sub _ _ e1)
      have el : vs.toArray.size = ns.length := by rw [List.size_toArray, e4.length, List.length_map]
      refine call_max_walk (wpAny_pyIter_list hl ?_)
      refine ⟨_, _, _, _, _, _, _, rfl, Walks.list (A := A.in1) hh _ a (Nat.ne_of_lt hlt) vs.toArray, ⟨⟨_, Heap.get?_push_size _ rfl, rfl, rfl⟩, hl.push _⟩, fun b hb => ?_, by rw [el]; exact hne,
        CmpOf.ints_gt (fun i => ns.getD i 0) (val_at e4), fun v h' tk hP hk => ?_⟩
      · rw [Heap.size_push]
        simp at hb
        rcases hb with rfl | rfl
        · exact Nat.lt_succ_self _
        · exact Nat.lt_succ_of_lt hlt
      · obtain ⟨t, rfl⟩ := val_at e4 _ _ hP
        rw [el]
        exact k _ _ _ (Grow.ext H tk fun b o e => hk b o (fun q => by simp at q; exact absurd (q ▸ Heap.lt_size e) (Nat.lt_irrefl _)) (Heap.get?_push_of_some _ e)) (.int _ t)
theorem p_min (hh : A.handled = none) {ns : List Int} (hne : 0 < ns.length) : CallV C A (.builtin "min") [.list (ns.map D.int)] (.int (bestI (fun a b => decide (a < b)) ns)) := by
  intro g s vs Q E H r k
  cases r using RepL.ccons with
  | cons r rn => cases rn using RepL.cnil; cases r using Rep.clist with
    | list a vs n e1 e4 =>
      have hl : s.heap.IsList a vs.toArray := ⟨_, H.sub _ _ e1, rfl, n, rfl⟩
      have hlt : a < s.heap.objs.size := Heap.lt_size (H.sub _ _ e1)
      have el : vs.toArray.size = ns.length := by rw [List.size_toArray, e4.length, List.length_map]
      refine call_min_walk (wpAny_pyIter_list hl ?_)
      refine ⟨_, _, _, _, _, _, _, rfl, Walks.list (A := A.in1) hh _ a (Nat.ne_of_lt hlt) vs.toArray, ⟨⟨_, Heap.get?_push_size _ rfl, rfl, rfl⟩, hl.push _⟩, fun b hb => ?_, by rw [el]; exact hne,
        CmpOf.ints_lt (fun i => ns.getD i 0) (val_at e4), fun v h' tk hP hk => ?_⟩
      · rw [Heap.size_push]
        simp at hb
        rcases hb with rfl | rfl
        · exact Nat.lt_succ_self _
        · exact Nat.lt_succ_of_lt hlt
      · obtain ⟨t, rfl⟩ := val_at e4 _ _ hP
        rw [el]
        exact k _ _ _ (Grow.ext H tk fun b o e => hk b o (fun q => by simp at q; exact absurd (q ▸ Heap.lt_size e) (Nat.lt_irrefl _)) (Heap.get?_push_of_some _ e)) (.int _ t)
theorem preSum_all (ns : List Int) : preSum (fun i => ns.getD i 0) ns.length = ns.sum := by rw [preSum_getD, List.take_length]
theorem sum_at (hh : A.handled = none) {g : Fz} {s : Shared} {a : Addr} {vs : List Value} {ns : List Int} {Q E : Value → Shared → Prop} (H : Hp C g s) (hl : s.heap.IsList a vs.toArray) (hi : IntsAre vs ns)
    (k : ∀ v g' s', Grow C g s g' s' → Rep g' v (.int ns.sum) → Q v s') : wpAny C.M A (call (.builtin "sum") [.ref a]) Q E s := by
  have hlt : a < s.heap.objs.size := by obtain ⟨o, e, _⟩ := hl; exact Heap.lt_size e
  have el : vs.toArray.size = ns.length := by rw [List.size_toArray, hi.length]
  refine call_sum_walkG (wpAny_pyIter_list hl ?_)
  refine ⟨_, _, _, _, _, _, _, rfl, Walks.list (A := A.in1) hh _ a (Nat.ne_of_lt hlt) vs.toArray, ⟨⟨_, Heap.get?_push_size _ rfl, rfl, rfl⟩, hl.push _⟩, fun b hb => ?_,
    (fun i v e => IntsAre.int_at hi i v (by simpa using e)), fun h' tk t' hk => ?_⟩
  · rw [Heap.size_push]
    simp at hb
    rcases hb with rfl | rfl
    · exact Nat.lt_succ_self _
    · exact Nat.lt_succ_of_lt hlt
  · rw [el, preSum_all]
    exact k _ _ _ (Grow.ext H tk fun b o e => hk b o (fun q => by simp at q; exact absurd (q ▸ Heap.lt_size e) (Nat.lt_irrefl _)) (Heap.get?_push_of_some _ e)) (.int _ _)
theorem p_sum (hh : A.handled = none) {ns : List Int} : CallV C A (.builtin "sum") [.list (ns.map D.int)] (.int ns.sum) := by
  intro g s vs Q E H r k
  cases r using RepL.ccons with
  | cons r rn => cases rn using RepL.cnil; cases r using Rep.clist with
    | list a vs n e1 e4 => exact sum_at hh H ⟨_, H.sub _ _ e1, rfl, n, rfl⟩ e4.ints k
theorem p_max2 (hh : A.handled = none) {a b : Int} : CallV C A (.builtin "max") [.int a, .int b] (.int (max a b)) := by
  intro g s vs Q E H r k
  cases r using RepL.ccons with
  | cons r rn => cases rn using RepL.ccons with
    | cons r2 rn => cases rn using RepL.cnil; cases r using Rep.cint; cases r2 using Rep.cint
                    refine max_two_ints hh fun h' tk hk => ?_
                    have : ∀ (t u : Tok), (if b > a then Value.int b u else Value.int a t) = Value.int (max a b) (if b > a then u else t) := fun t u => by
                      by_cases hba : b > a
                      · simp only [if_pos hba]; rw [Int.max_eq_right (by omega)]
                      · simp only [if_neg hba]; rw [Int.max_eq_left (by omega)]
                    rw [this]
                    exact k _ _ _ (Grow.ext H tk hk) (.int _ _)
theorem p_range1 {n : Int} : CallV C A (.type "range") [.int n] (.rng 0 n) := by
  intro g s vs Q E H r k
  cases r using RepL.ccons with
  | cons r rn => cases rn using RepL.cnil; cases r using Rep.cint
                 exact call_range_1 (k _ _ _ (Grow.add H _ (fun b o e => Heap.get?_push_of_some _ e) (Heap.none_at _) (Heap.get?_push_size _ rfl)) (.rng (Fz.put_self _ _ _)))
theorem p_range2 {a b : Int} : CallV C A (.type "range") [.int a, .int b] (.rng a b) := by
  intro g s vs Q E H r k
  cases r using RepL.ccons with
  | cons r rn => cases rn using RepL.ccons with
    | cons r2 rn => cases rn using RepL.cnil; cases r using Rep.cint; cases r2 using Rep.cint
                    exact call_range_2 (k _ _ _ (Grow.add H _ (fun b o e => Heap.get?_push_of_some _ e) (Heap.none_at _) (Heap.get?_push_size _ rfl)) (.rng (Fz.put_self _ _ _)))
theorem repL_of_at {g : Fz} : ∀ {vs : List Value} {ds : List D}, vs.length = ds.length → (∀ (i : Nat) v d, vs[i]? = some v → ds[i]? = some d → Rep g v d) → RepL g vs ds
  | [], [], _, _ => .nil
  | v :: vs, d :: ds, h, k => .cons (k 0 v d rfl rfl) (repL_of_at (by simpa using h) fun i v' d' e e' => k (i + 1) v' d' (by simpa using e) (by simpa using e'))
  | [], d :: ds, h, _ => by simp at h
  | v :: vs, [], h, _ => by simp at h
theorem p_list_rng (hh : A.handled = none) {a b : Int} (hs : Builtin.Range.small a b 1 = true) (hsz : (b - a).toNat ≤ 2 ^ 24) : CallV C A (.type "list") [.rng a b] (.list ((upto a b).map .int)) := by
  intro g s vs Q E H r k
  cases r using RepL.ccons with
  | cons r rn => cases rn using RepL.cnil; cases r using Rep.crng with
    | rng l t u v e =>
      refine call_list_range hh (H.sub _ _ e) hs (rangeSize_nat a b) hsz fun h' tk acc' c' hk hl hi => ?_
      have G := Grow.add H tk hk (Heap.none_at _) hl
      refine k _ _ _ G (.list (vs := acc'.toList) (n := c') (by rw [Array.toArray_toList]; exact Fz.put_self _ _ _) (repL_of_at ?_ fun i v d e1 e2 => ?_))
      · simp [hi.1, upto]
      · obtain ⟨t', rfl⟩ := hi.2 i v (by simpa using e1)
        have : d = .int (a + (i : Int)) := by
          simp only [upto, List.map_map, List.getElem?_map, Option.map_eq_some_iff] at e2
          obtain ⟨j, hj, rfl⟩ := e2
          have := List.getElem?_eq_some_iff.mp hj
          obtain ⟨_, h2⟩ := this
          simp at h2
          subst h2; rfl
        rw [this]
        have e3 : a + (i : Int) * 1 = a + (i : Int) := by omega
        rw [e3]; exact .int _ _
theorem p_tuple {ds : List D} (hsz : ds.length ≤ sizeLine) : CallV C A (.type "tuple") [.list ds] (.tup ds) := by
  intro g s vs Q E H r k
  cases r using RepL.ccons with
  | cons r rn => cases rn using RepL.cnil; cases r using Rep.clist with
    | list a vs n e1 e4 =>
      refine call_tuple_list ⟨_, H.sub _ _ e1, rfl, n, rfl⟩ (fun h' hk => ?_) (by rw [List.size_toArray, e4.length]; exact hsz)
      have hn : s.heap.get? h'.objs.size = none := by
        cases q : s.heap.get? h'.objs.size with
        | none => rfl
        | some o => exact absurd (Heap.lt_size (hk _ _ q)) (Nat.lt_irrefl _)
      have G := Grow.add (h' := h'.push { cls := .type "tuple", data := .seq vs.toArray }) H s.toks (fun b o e => Heap.get?_push_of_some _ (hk b o e)) hn (Heap.get?_push_size _ rfl)
      exact k _ _ _ G (.tup (Fz.put_self _ _ _) (e4.mono G.up))

/-- xs[i], i in the list -/
theorem ev_item {value slice : Expr} {pos : Pos} {ds : List D} {i : Int} {d : D} (hv : Ev C A env σ value (.list ds)) (hi : Ev C A env σ slice (.int i)) (h0 : 0 ≤ i) (h63 : i < 2 ^ 63) (hd : ds[i.toNat]? = some d)
    (hs : ∀ (l : Addr) (t : Tok), subscripted slice false (.ref l) (.int i t) = operate [.ref l, .int i t] (getItem (.ref l) (.int i t)) := by intro _ _; with_unfolding_all rfl) :
    Ev C A env σ (.Subscript value slice pos) d := fun g s Q E V k => by
  refine PyProof.Rows.Subscript_ (hv g s _ E V fun v g1 s1 G1 r1 => hi g1 s1 _ E (V.grow G1) fun u g2 s2 G2 r2 => ?_)
  cases r2 using Rep.cint with
  | int t => cases G2.rep r1 using Rep.clist with
    | list l vs n e1 e4 =>
      have hl : s2.heap.IsList l vs.toArray := ⟨_, G2.hp.sub _ _ e1, rfl, n, rfl⟩
      obtain ⟨x, hx, rx⟩ := e4.get hd
      exact tail_any hl.typeIs slot_list_getitem.lookup (wpAny_getItem_list hl h0 h63 (by simpa using hx) (k _ _ _ (G1.trans G2) rx)) (hs l t)
theorem ev_itemT {value slice : Expr} {pos : Pos} {ds : List D} {i : Int} {d : D} (hv : Ev C A env σ value (.tup ds)) (hi : Ev C A env σ slice (.int i)) (h0 : 0 ≤ i) (h63 : i < 2 ^ 63) (hd : ds[i.toNat]? = some d)
    (hs : ∀ (l : Addr) (t : Tok), subscripted slice false (.ref l) (.int i t) = operate [.ref l, .int i t] (getItem (.ref l) (.int i t)) := by intro _ _; with_unfolding_all rfl) :
    Ev C A env σ (.Subscript value slice pos) d := fun g s Q E V k => by
  refine PyProof.Rows.Subscript_ (hv g s _ E V fun v g1 s1 G1 r1 => hi g1 s1 _ E (V.grow G1) fun u g2 s2 G2 r2 => ?_)
  cases r2 using Rep.cint with
  | int t => cases G2.rep r1 using Rep.ctup with
    | tup l vs n e1 e4 =>
      obtain ⟨x, hx, rx⟩ := e4.get hd
      have hlt : i.toNat < vs.length := by
        by_cases h : i.toNat < vs.length
        · exact h
        · rw [List.getElem?_eq_none (by omega)] at hx; cases hx
      refine item_tupleT ⟨_, G2.hp.sub _ _ e1, rfl, n, rfl⟩ (by omega) h63 (j := i.toNat) ?_ hx (k _ _ _ (G1.trans G2) rx) (hs l t)
      unfold seqIndex?
      simp
      omega
end

theorem lookIn_some {o : Obj} {es : Array DictEntry} {ep : Nat} {x : Str} {v : Value} (hd : o.data = .dict es ep) (e : nsFind es x = some v) : lookIn x o = some (some v) := by
  unfold lookIn
  rw [hd]
  dsimp only
  unfold nsFind findBy at e
  rw [← Array.find?_toList] at e
  obtain ⟨en, h1, h2⟩ := Option.map_eq_some_iff.mp e
  rw [h1]; dsimp only; rw [h2]
theorem lookIn_none {o : Obj} {es : Array DictEntry} {ep : Nat} {x : Str} (hd : o.data = .dict es ep) (hk : StrKeys es) (e : nsFind es x = none) : lookIn x o = some none := by
  unfold lookIn
  rw [hd]
  dsimp only
  unfold nsFind findBy at e
  rw [← Array.find?_toList] at e
  rw [Option.map_eq_none_iff.mp e]
  dsimp only
  rw [if_neg]
  intro h
  obtain ⟨en, h1, h2⟩ := List.any_eq_true.mp h
  obtain ⟨n, t, h3⟩ := hk en (by simpa using h1)
  unfold DictEntry.refKey at h2
  rw [h3] at h2
  cases h2

/-- plain: not a raw value -/
noncomputable def D.ok : D → Bool
  | .raw _ => false
  | _ => true
theorem Rep.handed {g : Fz} {v : Value} {d : D} (r : Rep g v d) (h : d.ok = true) : handedIn v = true := by
  cases r <;> first | rfl | cases h

section
variable {C : Cx} {A : Around} {env : Env} {σ : Sg}

theorem inst_at {g : Fz} {s : Shared} (H : Hp C g s) {a dx Cl : Addr} {od : Obj} (h1 : g a = some (instObj Cl dx)) (h2 : g dx = some od) : InstAt s.heap a (instObj Cl dx) Cl (some od) :=
  ⟨H.sub _ _ h1, rfl, rfl, H.sub _ _ h2⟩

theorem ev_attr (O : C.OK) {value : Expr} {name : Str} {pos : Pos} {Cl : Addr} {ns : List Str} {ds : List D} {i : Nat} {d : D} (hv : Ev C A env σ value (.inst Cl ns ds)) (hn : ns[i]? = some name) (hd : ds[i]? = some d) (hok : d.ok = true)
    (hg : plainGet C.K Cl name = true) (hh : hasDictIn C.K Cl = true) (ha : findIn C.K (.ref Cl) name = some none)
    (he : eval (.Attribute value name pos) env = (do
      let o ← eval value env
      standAt pos.atName
      let r ← holding [o] (getAttr o name true)
      letTemporaryGo value o r
      pure r) := by with_unfolding_all rfl) : Ev C A env σ (.Attribute value name pos) d := fun g s Q E V k => by
  refine PyProof.Rows.Attribute_any_ (hv g s _ E V fun v g1 s1 G1 r1 => ?_) he
  cases r1 using Rep.cinst with
  | inst a dx od es ep vs h1 h2 h3 h4 h5 h6 h7 =>
    obtain ⟨x, hx, rx⟩ := h7.get hd
    have e : nsFind es name = some x := by
      have := congrArg (fun l => l[i]?) h5
      simp only [List.getElem?_map, hn, hx, Option.map_some] at this
      exact Option.some.inj this
    exact get_value (O.k.keeps G1.hp.kb) (inst_at G1.hp h1 h2) (plainGet_of hg).1 (findObj_own hh ha (by rfl) (lookIn_some h3 e)) (rx.handed hok) (k _ _ _ (G1.trans (Grow.toks G1.hp _)) rx)

theorem ev_callB {x : Str} {np pos : Pos} {e : Expr} {es : List Expr} {id : String} {ds : List D} {d : D} (hf : Ev C A env σ (.Name x np) (.raw (.builtin id))) (hargs : EvL C A env σ pos (e :: es) ds) (hc : CallV C A (.builtin id) ds d)
    (he : starEach (e :: es) env = (false, eval e env) :: starEach es env := by rfl) (hp : (backTo pos (starEach es env)).any (·.1) = false := by rfl) :
    Ev C A env σ (.Call (.Name x np) (e :: es) [] pos) d := fun g s Q E V k => by
  refine wpAny_Call_NameR (hf g s _ E V fun v g' s' G r => ?_)
  cases r using Rep.craw
  have hargs' := hargs g' s' (fun vs s₁ => wpAny C.M A (call (.builtin id) ([] ++ vs)) Q E s₁) E (V.grow G) fun vs g'' s'' G' r => hc g'' s'' vs Q E G'.hp r fun v g₃ s₃ G₃ r₃ => k _ _ _ ((G.trans G').trans G₃) r₃
  rw [he] at hargs' ⊢
  exact callWith_builtin (by show (false || (backTo pos (starEach es env)).any (·.1)) = false; rw [hp]; rfl) (evalArgs_plain hargs')
theorem ev_callT {x : Str} {np pos : Pos} {e : Expr} {es : List Expr} {T : String} {ds : List D} {d : D} (hf : Ev C A env σ (.Name x np) (.raw (.type T))) (hargs : EvL C A env σ pos (e :: es) ds) (hc : CallV C A (.type T) ds d)
    (he : starEach (e :: es) env = (false, eval e env) :: starEach es env := by rfl) (hp : (backTo pos (starEach es env)).any (·.1) = false := by rfl) :
    Ev C A env σ (.Call (.Name x np) (e :: es) [] pos) d := fun g s Q E V k => by
  refine wpAny_Call_NameR (hf g s _ E V fun v g' s' G r => ?_)
  cases r using Rep.craw
  have hargs' := hargs g' s' (fun vs s₁ => wpAny C.M A (call (.type T) ([] ++ vs)) Q E s₁) E (V.grow G) fun vs g'' s'' G' r => hc g'' s'' vs Q E G'.hp r fun v g₃ s₃ G₃ r₃ => k _ _ _ ((G.trans G').trans G₃) r₃
  rw [he] at hargs' ⊢
  exact PyProof.Rows.callWith_type (by show (false || (backTo pos (starEach es env)).any (·.1)) = false; rw [hp]; rfl) (evalArgs_plain hargs')

/-- o.name(args): a method of the class -/
theorem ev_method (O : C.OK) {o : Expr} {name : Str} {apos pos : Pos} {args : List Expr} {Cl f : Addr} {ns : List Str} {ds as : List D} {d : D} (hv : Ev C A env σ o (.inst Cl ns ds)) (hnot : name ∉ ns) (hg : plainGet C.K Cl name = true)
    (hf : findIn C.K (.ref Cl) name = some (some (.ref f))) (ht : isFn C.K (.ref f) = true) (hk : keepIn C.K (.ref f) = true) (hargs : EvL C A env σ pos args as) (hc : CallV C A (.ref f) (.inst Cl ns ds :: as) d) {pl : Sem Bool}
    (hplain : (backTo pos (starEach args env)).any (·.1) = false := by rfl)
    (hne : (args = [] ∧ as = []) ∨ ∃ e es, args = e :: es ∧ starEach (e :: es) env = (false, eval e env) :: starEach es env := by first | exact .inl ⟨rfl, rfl⟩ | exact .inr ⟨_, _, rfl, rfl⟩)
    (he : eval (.Call (.Attribute o name apos) args [] pos) env = (do
      let ov ← eval o env
      standAt apos.atName
      let (f, first) ← holding [ov] (getMethod ov name pl)
      callWith pos f first (backTo pos (starEach args env)) (backToKw pos (keywordEach [] env))) := by rfl) :
    Ev C A env σ (.Call (.Attribute o name apos) args [] pos) d := fun g s Q E V k => by
  refine methodCall_KW (hv g s _ E V fun v g1 s1 G1 r1 => ?_) he
  cases r1 using Rep.cinst with
  | inst a dx od es ep vs h1 h2 h3 h4 h5 h6 h7 =>
    refine method_fn (O.k.keeps G1.hp.kb) (inst_at G1.hp h1 h2) (plainGet_of hg).1 (plainGet_of hg).2 hf (beq_iff_eq.mp ht) (by show (lookIn name od).map _ = _; rw [lookIn_none h3 h4 (h6 _ hnot)]; rfl) ?_
    dsimp only
    have hargs' := hargs g1 s1 (fun vs s₁ => C.K.In s₁.heap ∧ wpAny C.M A (call (.ref f) ([.ref a] ++ vs)) Q E s₁) E (V.grow G1) fun us g2 s2 G2 r2 =>
      ⟨O.k.keeps G2.hp.kb, hc g2 s2 (.ref a :: us) Q E G2.hp (.cons (G2.rep (.inst h1 h2 h3 h4 h5 h6 h7)) r2) fun v g₃ s₃ G₃ r₃ => k _ _ _ ((G1.trans G2).trans G₃) r₃⟩
    refine callWith_of (P := fun h => C.K.In h) (by rw [hplain]; rfl) (fun h X => keeps_K hk h X) ?_
    rcases hne with ⟨rfl, rfl⟩ | ⟨e, es', rfl, hst⟩
    · exact evalArgs_nil3 ⟨O.k.keeps G1.hp.kb, hc g1 s1 [.ref a] Q E G1.hp (.cons (.inst h1 h2 h3 h4 h5 h6 h7) .nil) fun v g₃ s₃ G₃ r₃ => k _ _ _ (G1.trans G₃) r₃⟩
    · rw [hst] at hargs' ⊢
      exact evalArgs_plain hargs'
end

section
variable {C : Cx} {A : Around} {env : Env} {own : List Addr} {ω : Om} {σ : Sg} {Ψ : Post}

theorem ex_unpack2 (hh : A.handled = none) {x y : Str} {px py tp pos : Pos} {kk : Nat} {e : Expr} {d1 d2 : D} (he : Ev C A env σ e (.tup [d1, d2])) (h : Ψ .next ω ((y, d2) :: (x, d1) :: σ)) (hx : Storable env own x := by exact .inl rfl) (hy : Storable env own y := by exact .inl rfl)
    (hk : env.scope.kind = .function := by rfl) (hs : swapsWithSole [.Tuple [.Name x px, .Name y py] kk tp] e pos.line env = pure false := by rfl) (hw : swappedStores [.Tuple [.Name x px, .Name y py] kk tp] e env = pure none := by rfl) :
    Ex1 C A env own ω σ (.Assign [.Tuple [.Name x px, .Name y py] kk tp] e pos) Ψ := fun g₀ H₀ g s Q E S q => by
  refine PyProof.Rows.Assign_Tuple (he g s _ E S.vars fun v g1 s1 G1 r1 => ?_) hs hw
  have S1 := S.grow G1
  cases r1 using Rep.ctup with
  | tup a vs n e1 e4 =>
    cases e4 using RepL.ccons with
    | cons ra e4 => cases e4 using RepL.ccons with
      | cons rb e4 =>
        cases e4 using RepL.cnil
        rename_i va vb
        have ht : s1.heap.IsTuple a [va, vb].toArray := ⟨_, G1.hp.sub _ _ e1, rfl, n, rfl⟩
        refine wpAny_assign_Tuple hh ht rfl rfl fun h' hx' => ?_
        have G2 : Grow C g1 s1 g1 { s1 with heap := h' } := Grow.ext G1.hp s1.toks fun b o e => hx' b o (fun q => by rw [q, Heap.none_at] at e; cases e) e
        have S2 := S1.grow G2
        show wpAny C.M A (assignInOrder [assign (.Name x px) env, assign (.Name y py) env] [va, vb]) _ _ _
        refine wpAny_assignInOrder_more (wpAny_assign_Name (S2.store hk hx ra fun s3 S3 => wpAny_assignInOrder_more (wpAny_assign_Name (S3.store hk hy rb fun s4 S4 => wpAny_assignInOrder_none ?_))))
        exact q _ _ _ _ _ _ .next S4 h
end
section
variable {C : Cx} {A : Around}
theorem Room.deeper {k : Nat} {env : Env} (R : Room A (k + 1)) : Room (A.deeper env) k := ⟨R.handled, by have := R.depth; show A.depth + 1 + k < _; omega, by have := R.units; show A.units + 3 + 8 * k < _; omega⟩
theorem Room.lt {k : Nat} (R : Room A k) : A.depth < recursionLimit := by have := R.depth; omega
theorem Room.less {k j : Nat} (R : Room A k) (h : j ≤ k) : Room A j := ⟨R.handled, by have := R.depth; omega, by have := R.units; omega⟩

/-- a def of the written part, called with values alone -/
theorem callV_K (O : C.OK) {k : Nat} (R : Room A (k + 1)) {f c : Addr} {oc : Obj} {fvs : Array Value} {ft : Tok} {od : Option Addr} {sl : Array (Option Value)} {ocl : Value} {name qual : Str} {params : Arguments} {body : List Stmt} {scope : Scope} {pm doc : Value} {an : Option Addr} {ct : Value} {xs : List Str} {ds : List D} {d : D}
    (hK : C.K.lookup f = some ⟨ocl, od, .func (fnX name qual params body scope [] .none .none doc pm an (.ref c) ct), sl⟩)
    (hc1 : C.K.lookup c = some oc) (hc2 : oc.data = .fields fvs) (hc3 : fvs[1]? = some (.str qual ft))
    (hb : ∀ vs : List Value, vs.length = ds.length → bindArgs (fnX name qual params body scope [] .none .none doc pm an (.ref c) ct) ⟨vs, []⟩ = pure (xs.zip vs)) (hcell : ∀ x ∈ scope.names, x.2 ≠ .cell) (hloc : ∀ x ∈ xs, scope.names.lookup x = some .local)
    (h : ∀ L A', Room A' k → Ex C A' (envX qual scope L f (.ref c) []) [] [] (xs.zip ds).reverse body (Ends d))
    (hco : scope.isCoroutine = false := by rfl) (hgen : scope.isGenerator = false := by rfl) (hk : scope.kind = .function := by rfl) : CallV C A (.ref f) ds d :=
  callV_def O hK rfl rfl R.lt ⟨c, oc, fvs, ft, rfl, hc1, hc2, hc3⟩ hb hcell hloc rfl (fun L => h L _ R.deeper) hco hgen hk
end
theorem Ev.to {C : Cx} {A : Around} {env : Env} {σ : Sg} {e : Expr} {d d' : D} (h : Ev C A env σ e d) (q : d = d') : Ev C A env σ e d' := q ▸ h
theorem one_of {α : Type} : ∀ {l : List α}, l.length = 1 → ∃ a, l = [a]
  | [a], _ => ⟨a, rfl⟩
theorem two_of {α : Type} : ∀ {l : List α}, l.length = 2 → ∃ a b, l = [a, b]
  | [a, b], _ => ⟨a, b, rfl⟩
theorem three_of {α : Type} : ∀ {l : List α}, l.length = 3 → ∃ a b c, l = [a, b, c]
  | [a, b, c], _ => ⟨a, b, c, rfl⟩
/-- what is known of the variables, at least -/
noncomputable def Sub (l σ : Sg) : Prop := ∀ x d, l.lookup x = some d → σ.lookup x = some d
theorem Sub.nil {σ : Sg} : Sub [] σ := fun _ _ e => by cases e
theorem Sub.cons {l σ : Sg} {x : Str} {d : D} (h : σ.lookup x = some d) (t : Sub l σ) : Sub ((x, d) :: l) σ := fun y d' e => by
  rcases lookup_cons_ne e with ⟨rfl, rfl⟩ | ⟨_, e⟩
  · exact h
  · exact t y d' e
theorem Sub.push {l σ : Sg} {x : Str} {d : D} (t : Sub l σ) : Sub ((x, d) :: l) ((x, d) :: σ) := fun y d' e => by
  rcases lookup_cons_ne e with ⟨rfl, rfl⟩ | ⟨hy, e⟩
  · simp
  · rw [List.lookup_cons, beq_eq_false_iff_ne.mpr hy]; exact t y d' e
-- names of the top and of the built-ins
section
variable {C : Cx} {A : Around} {env : Env} {σ : Sg} {pos : Pos}
theorem ev_b_len (O : C.OK) (hx : env.kindOf (Str.ofString "len") = some .globalImplicit) (hg : env.globals = mainGlobals) (hb : env.builtins = builtinsNs) (hk : env.scope.kind = .function) : Ev C A env σ (.Name (Str.ofString "len") pos) (.raw (.builtin "len")) := ev_builtin O (by rfl) boot_len (by decide) hx hg hb hk (by decide)
theorem ev_b_max (O : C.OK) (hx : env.kindOf (Str.ofString "max") = some .globalImplicit) (hg : env.globals = mainGlobals) (hb : env.builtins = builtinsNs) (hk : env.scope.kind = .function) : Ev C A env σ (.Name (Str.ofString "max") pos) (.raw (.builtin "max")) := ev_builtin O (by rfl) boot_max (by decide) hx hg hb hk (by decide)
theorem ev_b_min (O : C.OK) (hx : env.kindOf (Str.ofString "min") = some .globalImplicit) (hg : env.globals = mainGlobals) (hb : env.builtins = builtinsNs) (hk : env.scope.kind = .function) : Ev C A env σ (.Name (Str.ofString "min") pos) (.raw (.builtin "min")) := ev_builtin O (by rfl) boot_min (by decide) hx hg hb hk (by decide)
theorem ev_b_sum (O : C.OK) (hx : env.kindOf (Str.ofString "sum") = some .globalImplicit) (hg : env.globals = mainGlobals) (hb : env.builtins = builtinsNs) (hk : env.scope.kind = .function) : Ev C A env σ (.Name (Str.ofString "sum") pos) (.raw (.builtin "sum")) := ev_builtin O (by rfl) boot_sum (by decide) hx hg hb hk (by decide)
theorem ev_b_range (O : C.OK) (hx : env.kindOf (Str.ofString "range") = some .globalImplicit) (hg : env.globals = mainGlobals) (hb : env.builtins = builtinsNs) (hk : env.scope.kind = .function) : Ev C A env σ (.Name (Str.ofString "range") pos) (.raw (.type "range")) := ev_builtin O (by rfl) PyProof.Rows.boot_range (by decide) hx hg hb hk (by decide)
theorem ev_b_list (O : C.OK) (hx : env.kindOf (Str.ofString "list") = some .globalImplicit) (hg : env.globals = mainGlobals) (hb : env.builtins = builtinsNs) (hk : env.scope.kind = .function) : Ev C A env σ (.Name (Str.ofString "list") pos) (.raw (.type "list")) := ev_builtin O (by rfl) PyProof.Rows.boot_list (by decide) hx hg hb hk (by decide)
theorem ev_b_tuple (O : C.OK) (hx : env.kindOf (Str.ofString "tuple") = some .globalImplicit) (hg : env.globals = mainGlobals) (hb : env.builtins = builtinsNs) (hk : env.scope.kind = .function) : Ev C A env σ (.Name (Str.ofString "tuple") pos) (.raw (.type "tuple")) := ev_builtin O (by rfl) PyProof.Rows.boot_tuple (by decide) hx hg hb hk (by decide)
theorem ev_attrI (O : C.OK) {value : Expr} {name : Str} {Cl : Addr} {ns : List Str} {ds : List D} {d : D} (hv : Ev C A env σ value (.inst Cl ns ds)) (hn : ns[ns.idxOf name]? = some name) (hd : ds[ns.idxOf name]? = some d) (hok : d.ok = true)
    (hg : plainGet C.K Cl name = true) (hh : hasDictIn C.K Cl = true) (ha : findIn C.K (.ref Cl) name = some none)
    (he : eval (.Attribute value name pos) env = (do
      let o ← eval value env
      standAt pos.atName
      let r ← holding [o] (getAttr o name true)
      letTemporaryGo value o r
      pure r) := by with_unfolding_all rfl) : Ev C A env σ (.Attribute value name pos) d := ev_attr O hv hn hd hok hg hh ha he
theorem ev_g_Whitespace (O : C.OK) (hx : env.kindOf (Str.ofString "Whitespace") = some .globalImplicit) (hg : env.globals = mainGlobals) (hk : env.scope.kind = .function) : Ev C A env σ (.Name (Str.ofString "Whitespace") pos) (.raw (.ref 83)) := ev_global O (by rfl) hx hg hk (by decide)
theorem ev_g_bisect_left (O : C.OK) (hx : env.kindOf (Str.ofString "bisect_left") = some .globalImplicit) (hg : env.globals = mainGlobals) (hk : env.scope.kind = .function) : Ev C A env σ (.Name (Str.ofString "bisect_left") pos) (.raw (.ref 105)) := ev_global O (by rfl) hx hg hk (by decide)
theorem ev_g_bisect_right (O : C.OK) (hx : env.kindOf (Str.ofString "bisect_right") = some .globalImplicit) (hg : env.globals = mainGlobals) (hk : env.scope.kind = .function) : Ev C A env σ (.Name (Str.ofString "bisect_right") pos) (.raw (.ref 96)) := ev_global O (by rfl) hx hg hk (by decide)
theorem ev_g_law_lead (O : C.OK) (hx : env.kindOf (Str.ofString "_law_lead") = some .globalImplicit) (hg : env.globals = mainGlobals) (hk : env.scope.kind = .function) : Ev C A env σ (.Name (Str.ofString "_law_lead") pos) (.raw (.ref 112)) := ev_global O (by rfl) hx hg hk (by decide)
theorem ev_g_law_column (O : C.OK) (hx : env.kindOf (Str.ofString "_law_column") = some .globalImplicit) (hg : env.globals = mainGlobals) (hk : env.scope.kind = .function) : Ev C A env σ (.Name (Str.ofString "_law_column") pos) (.raw (.ref 119)) := ev_global O (by rfl) hx hg hk (by decide)
theorem ev_g_law_plain (O : C.OK) (hx : env.kindOf (Str.ofString "_law_plain") = some .globalImplicit) (hg : env.globals = mainGlobals) (hk : env.scope.kind = .function) : Ev C A env σ (.Name (Str.ofString "_law_plain") pos) (.raw (.ref 126)) := ev_global O (by rfl) hx hg hk (by decide)
theorem ev_g_law_room (O : C.OK) (hx : env.kindOf (Str.ofString "_law_room") = some .globalImplicit) (hg : env.globals = mainGlobals) (hk : env.scope.kind = .function) : Ev C A env σ (.Name (Str.ofString "_law_room") pos) (.raw (.ref 133)) := ev_global O (by rfl) hx hg hk (by decide)
theorem ev_g_law_touching (O : C.OK) (hx : env.kindOf (Str.ofString "_law_touching") = some .globalImplicit) (hg : env.globals = mainGlobals) (hk : env.scope.kind = .function) : Ev C A env σ (.Name (Str.ofString "_law_touching") pos) (.raw (.ref 140)) := ev_global O (by rfl) hx hg hk (by decide)
end

section
variable {C : Cx} {A : Around} {env : Env} {own : List Addr} {ω ω' : Om} {σ : Sg} {Ψ : Post} {g₀ g g' : Fz} {H₀ : Heap} {s s' : Shared}

theorem put_of_ne {g : Fz} {a b : Addr} {o : Obj} (h : b ≠ a) : g.put a o b = g b := by simp [Fz.put, h]
theorem put_up {g : Fz} {a : Addr} {o : Obj} (h : g a = none) : ∀ b o', g b = some o' → g.put a o b = some o' := fun b o' e => by
  rw [put_of_ne (fun q => by rw [q, h] at e; cases e)]; exact e

theorem St.nL (S : St C g₀ H₀ env own ω σ g s) {a : Addr} {o : Obj} (e : s.heap.get? a = some o) (hd : ∀ es ep, o.data ≠ .dict es ep) : a ≠ env.locals := fun q => by
  obtain ⟨m, ⟨oL, es, ep, hL, hLd, _⟩, _⟩ := S.vars.ns
  rw [q, hL] at e; cases e; exact hd _ _ hLd
theorem St.nC (S : St C g₀ H₀ env own ω σ g s) {a c : Addr} {o : Obj} (e : s.heap.get? a = some o) (hd : ∀ v, o.data ≠ .cell v) {v : Option Value} (hc : s.heap.IsCell c v) : a ≠ c := fun q => by
  obtain ⟨oc, ho, hcd⟩ := hc
  rw [q, ho] at e; cases e; exact hd _ hcd

/-- an owned list is let go into the frozen part -/
theorem St.freeze {a : Addr} {ds : List D} {x : Str} (S : St C g₀ H₀ env own ((a, ds) :: ω) σ g s) (hx : σ.lookup x = some (.raw (.ref a))) : ∃ g', St C g₀ H₀ env own ω ((x, .list ds) :: σ) g' s ∧ ∀ b, b ≠ a → g' b = g b := by
  obtain ⟨⟨vs, n, e1, e4⟩, h1, h2⟩ := S.om (a, ds) (.head _)
  have h8 : a ≠ 128 := S.vars.hp.ne128 e1 fun w q => by cases q
  have nl : env.locals ≠ a := (S.nL e1 fun es ep q => by cases q).symm
  have up := put_up (o := { cls := .type "list", data := .seq vs.toArray n }) h1
  obtain ⟨m, n', b⟩ := S.vars.ns
  refine ⟨g.put a _, ⟨⟨⟨fun b o e => ?_, fun b o e => up b o (S.vars.hp.base b o e), ?_, ?_, S.vars.hp.gens, S.vars.hp.os⟩, m, n', fun y d e => ?_⟩, fun b o e => up b o (S.up b o e), fun b o e => ?_, S.kept, ⟨?_, S.fL.2⟩, fun c hc => ?_, S.nd, S.ec, fun p hp => ?_, (List.nodup_cons.mp S.ond).2⟩, fun b hb => put_of_ne hb⟩
  · by_cases q : b = a
    · subst q; rw [Fz.put_self] at e; cases e; exact e1
    · rw [put_of_ne q] at e; exact S.vars.hp.sub b o e
  · rw [put_of_ne h8.symm]; exact S.vars.hp.t128
  · obtain ⟨ps, e, y⟩ := S.vars.hp.tab
    exact ⟨ps, e, y.mono up⟩
  · rcases lookup_cons_ne e with ⟨rfl, rfl⟩ | ⟨_, e⟩
    · rcases b _ _ hx with ⟨k, v, hv, r⟩ | ⟨k, c, v, hc, hv, r⟩
      · cases r using Rep.craw; exact .inl ⟨k, _, hv, .list (Fz.put_self _ _ _) (e4.mono up)⟩
      · cases r using Rep.craw; exact .inr ⟨k, c, _, hc, hv, .list (Fz.put_self _ _ _) (e4.mono up)⟩
    · rcases b y d e with ⟨k, v, hv, r⟩ | ⟨k, c, v, hc, hv, r⟩
      · exact .inl ⟨k, v, hv, r.mono up⟩
      · exact .inr ⟨k, c, v, hc, hv, r.mono up⟩
  · by_cases q : b = a
    · subst q; exact .inr h2
    · rw [put_of_ne q] at e; exact S.new b o e
  · rw [put_of_ne nl]; exact S.fL.1
  · obtain ⟨c1, c2, v, c3⟩ := S.fC c hc
    refine ⟨?_, c2, v, c3⟩
    rw [put_of_ne (S.nC e1 (fun v q => by cases q) c3).symm]; exact c1
  · obtain ⟨⟨ws, k, f1, f4⟩, k1, k2⟩ := S.om p (.tail _ hp)
    refine ⟨⟨ws, k, f1, f4.mono up⟩, ?_, k2⟩
    have hm : p.1 ∈ ω.map (·.1) := List.mem_map_of_mem (f := fun q : Addr × List D => q.1) hp
    rw [put_of_ne (fun q : p.1 = a => (List.nodup_cons.mp S.ond).1 (by show a ∈ ω.map (·.1); rw [← q]; exact hm))]; exact k1
theorem ex_freeze {a : Addr} {ds : List D} {x : Str} {sts : List Stmt} (hx : σ.lookup x = some (.raw (.ref a))) (h : Ex C A env own ω ((x, .list ds) :: σ) sts Ψ) : Ex C A env own ((a, ds) :: ω) σ sts Ψ := fun g₀ H₀ g s Q E S q => by
  obtain ⟨g', S', _⟩ := S.freeze hx
  exact h g₀ H₀ g' s Q E S' q

/-- x = [e, ..]: a list of the frame's own -/
theorem ex_own {x : Str} {pos' pos lp : Pos} {es : List Expr} {ds : List D} (he : EvL C A env σ lp es ds) (hsz : ds.length ≤ sizeLine) (h : ∀ a, Ψ .next ((a, ds) :: ω) ((x, .raw (.ref a)) :: σ)) (hx : Storable env own x := by exact .inl rfl) (hk : env.scope.kind = .function := by rfl)
    (hs : swapsWith (.List es lp) (some (.Name x pos')) pos.line env = pure false := by rfl) : Ex1 C A env own ω σ (.Assign [.Name x pos'] (.List es lp) pos) Ψ := fun g₀ H₀ g s Q E S q => by
  refine wpAny_Assign_Name (PyProof.Rows.List_ (he g s _ E S.vars fun vs g1 s1 G1 r => wpAny_newObj_type ?_ (by show vs.toArray.size ≤ sizeLine; rw [List.size_toArray, r.length]; exact hsz))) hs
  have S1 := S.grow G1
  have al := S1.alien (Heap.none_at s1.heap)
  have G2 : Grow C g1 s1 g1 { s1 with heap := s1.heap.push { cls := .type "list", data := .seq vs.toArray } } := Grow.ext G1.hp s1.toks fun b o e => Heap.get?_push_of_some _ e
  have S2 := S1.grow G2
  have S3 : St C g₀ H₀ env own ((s1.heap.objs.size, ds) :: ω) σ g1 { s1 with heap := s1.heap.push { cls := .type "list", data := .seq vs.toArray } } :=
    { S2 with
      om := fun p hp => by
        rcases List.mem_cons.mp hp with rfl | hp
        · exact ⟨⟨vs, 0, Heap.get?_push_size _ rfl, r⟩, al.g, al.H⟩
        · exact S2.om p hp
      ond := List.nodup_cons.mpr ⟨al.nw, S2.ond⟩ }
  exact S3.store hk hx (.raw _) fun s' S' => q _ _ _ _ _ _ .next S' (h _)

/-- one owned list turned -/
theorem St.turnL {ω₁ ω₂ : Om} {a : Addr} {ds ds' : List D} (S : St C g₀ H₀ env own (ω₁ ++ (a, ds) :: ω₂) σ g s) {h' : Heap} {vs : List Value} {n : Nat} (hs : Heap.SameBut a s.heap h') (ho : h'.get? a = some { cls := .type "list", data := .seq vs.toArray n }) (r : RepL g vs ds') :
    St C g₀ H₀ env own (ω₁ ++ (a, ds') :: ω₂) σ g { s with heap := h' } := by
  obtain ⟨⟨us, k, e1, e4⟩, h1, h2⟩ := S.om (a, ds) (List.mem_append_right _ (.head _))
  have h8 : a ≠ 128 := S.vars.hp.ne128 e1 fun w q => by cases q
  have nl : env.locals ≠ a := (S.nL e1 fun es ep q => by cases q).symm
  have nc : ∀ c v, s.heap.IsCell c v → c ≠ a := fun c v hc => (S.nC e1 (fun v q => by cases q) hc).symm
  have cell : ∀ c v, s.heap.IsCell c v → h'.IsCell c v := fun c v hc => let ⟨o, ho, hd⟩ := hc; ⟨o, (hs.2 c (nc c v hc)).trans ho, hd⟩
  obtain ⟨m, ⟨oL, es, ep, hL, hr⟩, b⟩ := S.vars.ns
  refine ⟨⟨S.vars.hp.turn s.toks hs h1 h8, m, ⟨oL, es, ep, (hs.2 _ nl).trans hL, hr⟩, fun y d e => ?_⟩, S.up, S.new, fun b o e hb => ?_, S.fL, fun c hc => ?_, S.nd, fun c hc => ?_, fun p hp => ?_, ?_⟩
  · rcases b y d e with h | ⟨k, c, v, hc, hv, r⟩
    · exact .inl h
    · exact .inr ⟨k, c, v, hc, cell c _ hv, r⟩
  · exact (hs.2 b (fun q => by rw [q, h2] at e; cases e)).trans (S.kept b o e hb)
  · obtain ⟨c1, c2, v, c3⟩ := S.fC c hc
    exact ⟨c1, c2, v, cell c v c3⟩
  · obtain ⟨v, c3⟩ := S.ec c hc
    exact ⟨v, cell c v c3⟩
  · have hnd := S.ond
    rw [List.map_append, List.map_cons, List.nodup_append] at hnd
    rcases List.mem_append.mp hp with hp | hp
    · obtain ⟨⟨us, k, f1, f4⟩, k1, k2⟩ := S.om p (List.mem_append_left _ hp)
      exact ⟨⟨us, k, (hs.2 p.1 (hnd.2.2 _ (List.mem_map_of_mem (f := fun q : Addr × List D => q.1) hp) a (.head _))).trans f1, f4⟩, k1, k2⟩
    · rcases List.mem_cons.mp hp with rfl | hp
      · exact ⟨⟨vs, n, ho, r⟩, h1, h2⟩
      · obtain ⟨⟨us, k, f1, f4⟩, k1, k2⟩ := S.om p (List.mem_append_right _ (.tail _ hp))
        have hm : p.1 ∈ ω₂.map (·.1) := List.mem_map_of_mem (f := fun q : Addr × List D => q.1) hp
        refine ⟨⟨us, k, (hs.2 p.1 (fun q : p.1 = a => (List.nodup_cons.mp hnd.2.1).1 (by show a ∈ ω₂.map (·.1); rw [← q]; exact hm))).trans f1, f4⟩, k1, k2⟩
  · have := S.ond
    rw [List.map_append, List.map_cons] at this ⊢
    exact this

theorem ex_append {ω₁ ω₂ : Om} {a : Addr} {ds : List D} {x : Str} {xp ap cp pos : Pos} {e : Expr} {d : D} (hx : σ.lookup x = some (.raw (.ref a))) (he : Ev C A env σ e d) (hsz : ds.length ≤ sizeLine) (h : Ψ .next (ω₁ ++ (a, ds ++ [d]) :: ω₂) σ)
    (hbase : attributeBase (.Name x xp) "append" env (eval (.Name x xp) env) = eval (.Name x xp) env := by rfl)
    (hline : (ap.endLine == cp.line) = true := by rfl)
    (hi : interactive env = false := by rfl) (hk : env.scope.kind = .function := by rfl) (hd : (x == ("__debug__" : Str)) = false := by decide) (hn : (x == ("__classdict__" : Str)) = false := by decide)
    (hst : starEach [e] env = [(false, eval e env)] := by rfl)
    (hs : swapsWith (.Call (.Attribute (.Name x xp) (Str.ofString "append") ap) [e] [] cp) none pos.line env = pure false := by rfl) :
    Ex1 C A env own (ω₁ ++ (a, ds) :: ω₂) σ (.Expr (.Call (.Attribute (.Name x xp) (Str.ofString "append") ap) [e] [] cp) pos) Ψ := fun g₀ H₀ g s Q E S q => by
  have htr : backTo cp (starEach [e] env) = [(false, eval e env)] := by rw [hst]; rfl
  refine wpAny_Expr ?_ hi hs
  refine wpAny_Call_append hbase (by rw [htr]; rfl) hline htr ?_
  refine ev_var hx hk hd hn g s _ E S.vars fun v g1 s1 G1 r1 => ?_
  cases r1 using Rep.craw
  have S1 := S.grow G1
  obtain ⟨⟨us, k, e1, e4⟩, h1, h2⟩ := S1.om (a, ds) (List.mem_append_right _ (.head _))
  refine ⟨a, us.toArray, rfl, ⟨_, k, e1, rfl, rfl, rfl⟩, ?_⟩
  refine he g1 s1 _ E S1.vars fun y g2 s2 G2 r2 => ?_
  have S2 := S1.grow G2
  obtain ⟨⟨us, k, e1, e4⟩, h1, h2⟩ := S2.om (a, ds) (List.mem_append_right _ (.head _))
  refine wpAny_list_append_plain ⟨k, e1⟩ (fun h' ⟨n', hp⟩ hsb => ?_) (by rw [List.size_toArray, e4.length]; exact hsz)
  have e : us.toArray.push y = (us ++ [y]).toArray := by simp
  rw [e] at hp
  exact q _ _ _ _ _ _ .next (S2.turnL hsb hp (e4.append (.cons r2 .nil))) h
end

theorem RepA.keys {g : Fz} : ∀ {l : List (Str × Value)} {l' : Sg}, RepA g l l' → l.map (·.1) = l'.map (·.1)
  | _, _, .nil => rfl
  | _, _, .cons r rs => congrArg _ rs.keys

section
variable {C : Cx} {A : Around} {env : Env} {σ : Sg}

/-- a def of the written part, with defaults, keywords -/
theorem callV_gen (O : C.OK) {k : Nat} (R : Room A (k + 1)) {f c : Addr} {oc : Obj} {fvs : Array Value} {ft : Tok} {od : Option Addr} {sl : Array (Option Value)} {ocl : Value} {name qual : Str} {params : Arguments} {body : List Stmt} {scope : Scope} {dV kV pm doc : Value} {an : Option Addr} {ct : Value} {ds : List D} {d : D}
    {args : List Value → Args} {binds : List Value → List (Str × Value)} {bd : Sg}
    (hK : C.K.lookup f = some ⟨ocl, od, .func (fnX name qual params body scope [] dV kV doc pm an (.ref c) ct), sl⟩)
    (hc1 : C.K.lookup c = some oc) (hc2 : oc.data = .fields fvs) (hc3 : fvs[1]? = some (.str qual ft))
    (hb : ∀ (M : Model) (vs : List Value), vs.length = ds.length → peek C.K ⟨M.prog, M.w.params⟩ (bindArgs (fnX name qual params body scope [] dV kV doc pm an (.ref c) ct) (args vs)) = some (binds vs))
    (hA : ∀ (g : Fz) (vs : List Value), RepL g vs ds → RepA g (binds vs) bd)
    (hcell : ∀ x ∈ scope.names, x.2 ≠ .cell) (hloc : ∀ x ∈ bd.map (·.1), scope.names.lookup x = some .local)
    (h : ∀ L A', Room A' k → Ex C A' (envX qual scope L f (.ref c) []) [] [] bd.reverse body (Ends d))
    (hco : scope.isCoroutine = false := by rfl) (hgen : scope.isGenerator = false := by rfl) (hk : scope.kind = .function := by rfl) : Prim C A (fun vs => call (.ref f) (args vs).pos (args vs).kw) ds d := by
  intro g s vs Q E H r k'
  have ra := hA g vs r
  have hl : ∀ x ∈ binds vs, scope.names.lookup x.1 = some .local := fun x hx => hloc x.1 (ra.keys ▸ List.mem_map_of_mem (f := fun q : Str × Value => q.1) hx)
  refine wpAny_call (codeAny_call_def R.lt (H.kb _ _ (O.k _ _ hK)) rfl (O.nolimit.keeps H.kb) ⟨c, oc, fvs, ft, rfl, H.kb _ _ (O.k _ _ hc1), hc2, hc3⟩ rfl
    (fun M A' E' Q' hq => Looks.of_peek (M := M) (O.k.keeps H.kb) (hb M vs r.length) A' Q' E' s (fun _ _ e => e) hq) hcell hl (fun h₀ hn hkp => ?_) hco hgen hk)
  have hL : s.heap.get? s.heap.objs.size = none := Heap.none_at _
  have gL : g s.heap.objs.size = none := H.none_g hL
  have S : St C g s.heap (envX qual scope s.heap.objs.size f (.ref c) []) [] [] bd.reverse g { s with heap := h₀, toks := s.toks + (binds vs).length } := by
    refine ⟨⟨⟨fun b o e => hkp b o (H.sub b o e), H.base, H.t128, ?_, H.gens, H.os⟩, _, hn, fun x d e => ?_⟩, fun _ _ e => e, fun _ _ e => .inl e, fun b o e _ => hkp b o e, ⟨gL, hL⟩, (fun c hc => by cases hc), List.nodup_nil, (fun c hc => by cases hc), (fun p hp => by cases hp), List.nodup_nil⟩
    · obtain ⟨ps, e, x⟩ := H.tab; exact ⟨ps, hkp _ _ e, x⟩
    · obtain ⟨v, hv, rv⟩ := ra.reverse.lookup e
      exact .inl ⟨hl _ (List.mem_reverse.mp (lookup_memV hv)), v, hv, rv⟩
  refine h _ _ R.deeper g s.heap g _ _ _ S fun fl s' g' fd' ω' σ' hf S' e => ?_
  have G : Grow C g s g' s' := ⟨S'.vars.hp, S'.up, S'.new, S'.kept⟩
  cases hf with
  | ret rv => cases e; exact k' _ g' s' G rv
  | next => cases (show d = .none from e); exact k' _ g' s' G .none
  | brk => exact (show False from e).elim
  | cont => exact (show False from e).elim

/-- a call of a lambda -/
theorem lam_call (O : C.OK) {k : Nat} (R : Room A (k + 1)) {params : Arguments} {body : Expr} {scope : Scope} {qual : Str} {ns : List Str} {ds as : List D} {d : D} {xs : List Str}
    (hb : ∀ (fd : FuncData) (vs : List Value), fd.params = params → fd.defaults = .none → fd.kwdefaults = .none → vs.length = as.length → bindArgs fd ⟨vs, []⟩ = pure (xs.zip vs))
    (hcell : ∀ x ∈ scope.names, x.2 ≠ .cell) (hloc : ∀ x ∈ xs, scope.names.lookup x = some .local) (hfree : ∀ x ∈ ns, scope.names.lookup x = some .free) (hdis : ∀ x ∈ ns, x ∉ xs)
    (h : ∀ L A' q c cs, Room A' k → cs.length = ns.length → Ev C A' (envX qual scope L q (.ref c) (ns.zip cs)) ((xs.zip as).reverse ++ ns.zip ds) body d)
    (hco : scope.isCoroutine = false := by rfl) (hgen : scope.isGenerator = false := by rfl) (hk : scope.kind = .function := by rfl) :
    Prim C A (fun vs => call (vs.getD 0 .none) (vs.drop 1)) (.lam params body scope qual ns ds :: as) d := by
  intro g s vs Q E H r k'
  cases r using RepL.ccons with
  | cons r rs =>
    rename_i v vs
    cases r with
    | @lam q c oc fvs t _ _ _ name _ _ cs us _ pm ctv h1 h2 h3 h4 h5 h6 h7 h8 =>
      show wpAny C.M A (call (.ref q) vs) Q E s
      refine wpAny_call (kla_callFunE R.lt (H.sub _ _ h1) rfl hco hgen rfl ⟨c, oc, fvs, t, rfl, H.sub _ _ h2, h3, h4⟩ ?_)
      rw [hb _ vs rfl rfl rfl rs.length]
      refine wpAny_pure (wpAny_newFunctionEnv hcell (fun x hx => hloc x.1 (List.of_mem_zip hx).1) (fun h₁ hns hsb => ⟨(O.nolimit.keeps H.kb).fresh _ hsb, ?_⟩) hk)
      have hkp : ∀ b o, s.heap.get? b = some o → h₁.get? b = some o := fun b o e => hsb.extBut b o (Nat.ne_of_lt (Heap.lt_size e)) (Heap.get?_push_of_some _ e)
      have G0 : Grow C g s g { s with heap := h₁, toks := s.toks + (xs.zip vs).length } := Grow.ext H _ hkp
      show codeAny _ _ (.expr body (envX qual scope s.heap.objs.size q (.ref c) (ns.zip cs))) _ _
      refine kla_codeExpr (h _ _ q c cs R.deeper h5.symm g _ _ _ ⟨G0.hp, _, hns, fun x d e => ?_⟩ fun v g' s' G rv => k' v g' s' (G0.trans G) rv)
      rw [List.lookup_append] at e
      cases q1 : ((xs.zip as).reverse).lookup x with
      | some d' =>
        rw [q1] at e; cases e
        obtain ⟨v, hv, rv⟩ := (RepA.zip xs rs).reverse.lookup q1
        exact .inl ⟨hloc x (List.of_mem_zip (List.mem_reverse.mp (lookup_memV hv))).1, v, hv, rv⟩
      | none =>
        rw [q1] at e
        have e : (ns.zip ds).lookup x = some d := e
        have hx : x ∈ ns := (List.of_mem_zip (lookup_memV e)).1
        refine .inr ⟨.inr (hfree x hx), ?_⟩
        obtain ⟨v, hv, rv⟩ := (RepA.zip ns h8).lookup e
        have : ∀ (ns : List Str) (cs : List Addr) (us : List Value), ns.length = cs.length → (∀ (i : Nat) (a : Addr), cs[i]? = some a → ∃ o v, g a = some o ∧ o.data = .cell (some v) ∧ us[i]? = some v) → (ns.zip us).lookup x = some v → ∃ a o, (ns.zip cs).lookup x = some a ∧ g a = some o ∧ o.data = .cell (some v) := by
          intro ns
          induction ns with
          | nil => intro cs us _ _ h; simp at h
          | cons y ns ih =>
            intro cs us hl hc hv
            cases cs with
            | nil => simp at hl
            | cons a cs =>
              obtain ⟨o, w, e1, e2, e3⟩ := hc 0 a rfl
              cases us with
              | nil => simp at e3
              | cons u us =>
                simp at e3; subst e3
                simp only [List.zip_cons_cons, List.lookup_cons] at hv ⊢
                cases hb : x == y with
                | true => rw [hb] at hv; cases hv; exact ⟨a, o, rfl, e1, e2⟩
                | false =>
                  rw [hb] at hv
                  exact ih cs us (by simpa using hl) (fun i a' ha => by simpa using hc (i + 1) a' (by simpa using ha)) hv
        obtain ⟨a, o, e1, e2, e3⟩ := this ns cs us h5 h7 hv
        exact ⟨a, v, e1, ⟨o, G0.hp.sub _ _ e2, e3⟩, rv⟩

/-- f(e), f a variable that holds a lambda -/
theorem ev_callL {x : Str} {np pos : Pos} {e : Expr} {es : List Expr} {params : Arguments} {body : Expr} {scope : Scope} {qual : Str} {ns : List Str} {ds as : List D} {d : D} (hf : Ev C A env σ (.Name x np) (.lam params body scope qual ns ds)) (hargs : EvL C A env σ pos (e :: es) as)
    (hc : Prim C A (fun vs => call (vs.getD 0 .none) (vs.drop 1)) (.lam params body scope qual ns ds :: as) d)
    (he : starEach (e :: es) env = (false, eval e env) :: starEach es env := by rfl) (hp : (backTo pos (starEach es env)).any (·.1) = false := by rfl) :
    Ev C A env σ (.Call (.Name x np) (e :: es) [] pos) d := fun g s Q E V k => by
  refine wpAny_Call_NameR (hf g s _ E V fun v g' s' G r => ?_)
  cases r with
  | @lam q c oc fvs t _ _ _ name _ _ cs us _ pm ctv h1 h2 h3 h4 h5 h6 h7 h8 =>
    refine callWith_F ⟨_, _, _, _, G.hp.sub _ _ h1⟩ (hargs g' s' _ E (V.grow G) fun vs g'' s'' G' r => ⟨⟨_, _, _, _, G'.hp.sub _ _ (G'.up _ _ h1)⟩, ?_⟩) he hp
    exact hc g'' s'' (.ref q :: vs) Q E G'.hp (.cons (G'.rep (.lam h1 h2 h3 h4 h5 h6 h7 h8)) r) fun v g₃ s₃ G₃ r₃ => k _ _ _ ((G.trans G').trans G₃) r₃

theorem p_is_none : Prim C A (fun vs => compareOp .Is (vs.getD 0 .none) (vs.getD 1 .none)) [.none, .none] (.bool true) := Prim.two fun g s v u Q E H r1 r2 k => by
  cases r1 using Rep.cnone; cases r2 using Rep.cnone; exact wpAny_is_self rfl (k _ _ _ (Grow.refl H) (.bool _))
theorem p_is_lam {params : Arguments} {body : Expr} {scope : Scope} {qual : Str} {ns : List Str} {ds : List D} : Prim C A (fun vs => compareOp .Is (vs.getD 0 .none) (vs.getD 1 .none)) [.lam params body scope qual ns ds, .none] (.bool false) := Prim.two fun g s v u Q E H r1 r2 k => by
  cases r1; cases r2 using Rep.cnone; exact wpAny_is_other rfl (by intro q; cases q) (k _ _ _ (Grow.refl H) (.bool _))
end

/-- data that lies on no heap -/
noncomputable def D.gr : D → Bool
  | .int _ | .bool _ | .str _ | .none | .raw _ => true
  | _ => false
theorem Rep.ground {g g' : Fz} {v : Value} {d : D} (r : Rep g v d) (h : d.gr = true) : Rep g' v d := by
  cases r with
  | int i t => exact .int i t
  | bool b => exact .bool b
  | str x t => exact .str x t
  | none => exact .none
  | raw v => exact .raw v
  | _ => cases h
theorem RepL.ground {g g' : Fz} : ∀ {vs : List Value} {ds : List D}, RepL g vs ds → (∀ d ∈ ds, d.gr = true) → RepL g' vs ds
  | _, _, .nil, _ => .nil
  | _, _, .cons r rs, h => .cons (r.ground (h _ (.head _))) (rs.ground fun d hd => h d (.tail _ hd))
theorem ints_gr (ns : List Int) : ∀ d ∈ ns.map D.int, d.gr = true := fun d hd => by
  obtain ⟨i, _, rfl⟩ := List.mem_map.mp hd; rfl

noncomputable def Fz.del (g : Fz) (a : Addr) : Fz := fun b => if b = a then none else g b
theorem Fz.del_self (g : Fz) (a : Addr) : g.del a a = none := by simp [Fz.del]
theorem Fz.del_ne {g : Fz} {a b : Addr} (h : b ≠ a) : g.del a b = g b := by simp [Fz.del, h]
theorem Fz.del_some {g : Fz} {a b : Addr} {o : Obj} (e : g.del a b = some o) : b ≠ a ∧ g b = some o := by
  by_cases h : b = a
  · subst h; rw [Fz.del_self] at e; cases e
  · rw [Fz.del_ne h] at e; exact ⟨h, e⟩

section
variable {C : Cx} {A : Around} {env : Env} {own : List Addr} {ω ω' : Om} {σ : Sg} {Ψ : Post} {g₀ g g' : Fz} {H₀ : Heap} {s s' : Shared}

theorem TabOK.del {g : Fz} {ps : Array Value} (x : TabOK g ps) {a : Addr} (h : ∀ o vs, g a = some o → o.data ≠ .fields vs) : TabOK (g.del a) ps :=
  ⟨x.trip, fun pos cv e => by
    obtain ⟨c, o, vs, t, e1, e2, e3, e4⟩ := x.hit pos cv e
    refine ⟨c, o, vs, t, e1, ?_, e3, e4⟩
    have hne : c ≠ a := fun q => h o vs (by rw [← q]; exact e2) e3
    rw [Fz.del_ne hne]; exact e2⟩

/-- the frame with its first owned list held as frozen for a while -/
theorem St.view {a : Addr} {ds : List D} {x : Str} (S : St C g₀ H₀ env own ((a, ds) :: ω) σ g s) (hx : σ.lookup x = some (.raw (.ref a))) :
    ∃ g1, Vars C env ((x, .list ds) :: σ) g1 s ∧ ∀ g2 s2, Grow C g1 s g2 s2 → ∃ g3, St C g₀ H₀ env own ((a, ds) :: ω) σ g3 s2 ∧ (∀ b o, g2 b = some o → b ≠ a → g3 b = some o) := by
  obtain ⟨⟨vs, n, e1, e4⟩, h1, h2⟩ := S.om (a, ds) (.head _)
  have h8 : a ≠ 128 := S.vars.hp.ne128 e1 fun w q => by cases q
  have up := put_up (o := { cls := .type "list", data := .seq vs.toArray n }) h1
  obtain ⟨m, n', b⟩ := S.vars.ns
  have hp1 : Hp C (g.put a { cls := .type "list", data := .seq vs.toArray n }) s := by
    refine ⟨fun b o e => ?_, fun b o e => up b o (S.vars.hp.base b o e), ?_, ?_, S.vars.hp.gens, S.vars.hp.os⟩
    · by_cases q : b = a
      · subst q; rw [Fz.put_self] at e; cases e; exact e1
      · rw [put_of_ne q] at e; exact S.vars.hp.sub b o e
    · rw [put_of_ne h8.symm]; exact S.vars.hp.t128
    · obtain ⟨ps, e, y⟩ := S.vars.hp.tab
      exact ⟨ps, e, y.mono up⟩
  refine ⟨g.put a _, ⟨hp1, m, n', fun y d e => ?_⟩, fun g2 s2 G => ?_⟩
  · rcases lookup_cons_ne e with ⟨rfl, rfl⟩ | ⟨_, e⟩
    · rcases b _ _ hx with ⟨k, v, hv, r⟩ | ⟨k, c, v, hc, hv, r⟩
      · cases r using Rep.craw; exact .inl ⟨k, _, hv, .list (Fz.put_self _ _ _) (e4.mono up)⟩
      · cases r using Rep.craw; exact .inr ⟨k, c, _, hc, hv, .list (Fz.put_self _ _ _) (e4.mono up)⟩
    · rcases b y d e with ⟨k, v, hv, r⟩ | ⟨k, c, v, hc, hv, r⟩
      · exact .inl ⟨k, v, hv, r.mono up⟩
      · exact .inr ⟨k, c, v, hc, hv, r.mono up⟩
  · have g2a : g2 a = some { cls := .type "list", data := .seq vs.toArray n } := G.up _ _ (Fz.put_self _ _ _)
    have G' : Grow C g s (g2.del a) s2 := by
      refine ⟨⟨fun b o e => G.hp.sub b o (Fz.del_some e).2, fun b o e => ?_, ?_, ?_, G.hp.gens, G.hp.os⟩, fun b o e => ?_, fun b o e => ?_, G.kept⟩
      · rw [Fz.del_ne (fun q => by rw [q] at e; rw [S.vars.hp.base _ _ e] at h1; cases h1)]; exact G.hp.base b o e
      · rw [Fz.del_ne h8.symm]; exact G.hp.t128
      · obtain ⟨ps, e, y⟩ := G.hp.tab
        exact ⟨ps, e, y.del fun o vs e q => by rw [g2a] at e; cases e; cases q⟩
      · rw [Fz.del_ne (fun q => by rw [q, h1] at e; cases e)]; exact G.up _ _ (up _ _ e)
      · obtain ⟨hb, e⟩ := Fz.del_some e
        rcases G.new b o e with h | h
        · rw [put_of_ne hb] at h; exact .inl h
        · exact .inr h
    exact ⟨g2.del a, S.grow G', fun b o e hb => by rw [Fz.del_ne hb]; exact e⟩

/-- an expression that may look into the first owned list -/
noncomputable def EvO (C : Cx) (A : Around) (env : Env) (own : List Addr) (ω : Om) (σ : Sg) (e : Expr) (d : D) : Prop :=
  ∀ (g₀ : Fz) (H₀ : Heap) (g : Fz) (s : Shared) (Q E : Value → Shared → Prop), St C g₀ H₀ env own ω σ g s → (∀ v g' s', St C g₀ H₀ env own ω σ g' s' → Rep g' v d → Q v s') → wpAny C.M A (eval e env) Q E s
theorem evO_view {a : Addr} {ds : List D} {x : Str} {e : Expr} {d : D} (hx : σ.lookup x = some (.raw (.ref a))) (h : Ev C A env ((x, .list ds) :: σ) e d) (hd : d.gr = true) : EvO C A env own ((a, ds) :: ω) σ e d := fun g₀ H₀ g s Q E S k => by
  obtain ⟨g1, V, back⟩ := S.view hx
  refine h g1 s Q E V fun v g2 s2 G r => ?_
  obtain ⟨g3, S3, _⟩ := back g2 s2 G
  exact k v g3 s2 S3 (r.ground hd)
theorem ex_if_view {a : Addr} {ds : List D} {x : Str} {t : Expr} {b o : List Stmt} {pos : Pos} {p : Bool} (hx : σ.lookup x = some (.raw (.ref a))) (ht : EvT C A env ((x, .list ds) :: σ) t p) (hb : p = true → Ex C A env own ((a, ds) :: ω) σ b Ψ) (ho : p = false → Ex C A env own ((a, ds) :: ω) σ o Ψ) :
    Ex1 C A env own ((a, ds) :: ω) σ (.If t b o pos) Ψ := fun g₀ H₀ g s Q E S q => by
  obtain ⟨g1, V, back⟩ := S.view hx
  refine wpAny_If (ht g1 s _ E V fun g2 s2 G => ?_)
  obtain ⟨g3, S3, _⟩ := back g2 s2 G
  cases p with
  | true => exact hb rfl g₀ H₀ g3 s2 Q E S3 q
  | false => exact ho rfl g₀ H₀ g3 s2 Q E S3 q
/-- x = x + r -/
theorem ex_concat {a : Addr} {ns ms : List Int} {x : Str} {xp pos' bp pos : Pos} {r : Expr} (hx : σ.lookup x = some (.raw (.ref a))) (hr : Ev C A env ((x, .list (ns.map .int)) :: σ) r (.list (ms.map .int))) (hsz : ns.length + ms.length ≤ sizeLine)
    (h : ∀ a', Ψ .next ((a', (ns ++ ms).map .int) :: ω) ((x, .raw (.ref a')) :: σ)) (hst : Storable env own x := by exact .inl rfl) (hk : env.scope.kind = .function := by rfl) (hd : (x == ("__debug__" : Str)) = false := by decide) (hn : (x == ("__classdict__" : Str)) = false := by decide)
    (hs : swapsWith (.BinOp (.Name x xp) .Add r bp) (some (.Name x pos')) pos.line env = pure false := by rfl) : Ex1 C A env own ((a, ns.map .int) :: ω) σ (.Assign [.Name x pos'] (.BinOp (.Name x xp) .Add r bp) pos) Ψ := fun g₀ H₀ g s Q E S q => by
  refine wpAny_Assign_Name (wpAny_BinOp (ev_var hx hk hd hn g s _ E S.vars fun v g1 s1 G1 r1 => ?_)) hs
  cases r1 using Rep.craw
  have S1 := S.grow G1
  obtain ⟨g2, V, back⟩ := S1.view hx
  refine hr g2 s1 _ E V fun u g3 s3 G3 r3 => ?_
  obtain ⟨g4, S4, g34⟩ := back g3 s3 G3
  cases r3 using Rep.clist with
  | list l ws n' f1 f4 =>
    obtain ⟨⟨vs, n, e1, e4⟩, h1, h2⟩ := S4.om (a, ns.map .int) (.head _)
    have e : vs.toArray ++ ws.toArray = (vs ++ ws).toArray := by simp
    have e4l : vs.length = ns.length := by have := e4.length; simpa using this
    have f4l : ws.length = ms.length := by have := f4.length; simpa using this
    refine concat_meets ⟨_, e1, rfl⟩ ⟨_, G3.hp.sub _ _ f1, rfl⟩ noFill_list_add seq_list_add PySem.F.slot_list_add PySem.F.entry_list_add (PySem.F.args_list_add_2 _ _)
      (list_addW a l vs.toArray ws.toArray n n' none none #[] #[] (by simpa [e4l, f4l] using hsz)) ⟨e1, G3.hp.sub _ _ f1, ?_⟩
    rw [e]
    have al := S4.alien (Heap.none_at s3.heap)
    have G5 : Grow C g4 s3 g4 { s3 with heap := s3.heap.push { cls := .type "list", data := .seq (vs ++ ws).toArray } } := Grow.ext S4.vars.hp s3.toks fun b o e => Heap.get?_push_of_some _ e
    have S5 := S4.grow G5
    have nw := al.nw
    rw [List.map_cons, List.mem_cons, not_or] at nw
    have S6 : St C g₀ H₀ env own ((s3.heap.objs.size, (ns ++ ms).map .int) :: ω) σ g4 { s3 with heap := s3.heap.push { cls := .type "list", data := .seq (vs ++ ws).toArray } } :=
      { S5 with
        om := fun p hp => by
          rcases List.mem_cons.mp hp with rfl | hp
          · refine ⟨⟨vs ++ ws, 0, Heap.get?_push_size _ rfl, ?_⟩, al.g, al.H⟩
            rw [List.map_append]
            exact e4.append (f4.ground (ints_gr ms))
          · exact S5.om p (.tail _ hp)
        ond := List.nodup_cons.mpr ⟨nw.2, (List.nodup_cons.mp S5.ond).2⟩ }
    exact S6.store hk hst (.raw _) fun s' S' => q _ _ _ _ _ _ .next S' (h _)
/-- x[i] = e -/
theorem ex_setitem {a : Addr} {ns : List Int} {x : Str} {xp sp pos : Pos} {ie e : Expr} {i v : Int} (hx : σ.lookup x = some (.raw (.ref a))) (he : Ev C A env ((x, .list (ns.map .int)) :: σ) e (.int v)) (hi : Ev C A env σ ie (.int i)) (h0 : 0 ≤ i) (h1 : i < ns.length) (hfit : ns.length < 2 ^ 62)
    (h : Ψ .next ((a, (ns.set i.toNat v).map .int) :: ω) σ) (hk : env.scope.kind = .function := by rfl) (hd : (x == ("__debug__" : Str)) = false := by decide) (hn : (x == ("__classdict__" : Str)) = false := by decide)
    (hs : swapsWith e (some (.Subscript (.Name x xp) ie sp)) pos.line env = pure false := by rfl) : Ex1 C A env own ((a, ns.map .int) :: ω) σ (.Assign [.Subscript (.Name x xp) ie sp] e pos) Ψ := fun g₀ H₀ g s Q E S q => by
  obtain ⟨g1, V, back⟩ := S.view hx
  refine wpAny_Assign_Subscript (he g1 s _ E V fun u g2 s2 G2 r2 => ?_) hs
  obtain ⟨g3, S3, _⟩ := back g2 s2 G2
  refine ev_var hx hk hd hn g3 s2 _ E S3.vars fun w g4 s4 G4 r4 => ?_
  cases r4 using Rep.craw
  have S4 := S3.grow G4
  refine hi g4 s4 _ E S4.vars fun w g5 s5 G5 r5 => ?_
  have S5 := S4.grow G5
  cases r5 using Rep.cint with
  | int t => cases r2 using Rep.cint with
    | int u =>
      obtain ⟨⟨vs, n, e1, e4⟩, k1, k2⟩ := S5.om (a, ns.map .int) (.head _)
      have e4l : vs.length = ns.length := by have := e4.length; simpa using this
      have e1' : s5.heap.get? a = some (listOf vs.toArray n) := e1
      have hi63 : i < 2 ^ 63 := by omega
      have hisz : i < (vs.toArray.size : Int) := by rw [List.size_toArray, e4l]; exact h1
      refine ki_setAt e1' h0 hi63 hisz ?_
      have r' : RepL g5 (vs.set i.toNat (.int v u)) ((ns.set i.toNat v).map .int) := RepL.of_ints (ints_set e4.ints _)
      refine q _ _ _ _ _ _ .next (S5.turnL (ω₁ := []) (vs := vs.set i.toNat (.int v u)) (n := n) (Heap.SameBut.update ..) ?_ r') h
      have e9 : Obj.mapSeq (fun x => x.setIfInBounds i.toNat (.int v u)) (listOf vs.toArray n) = { cls := .type "list", data := .seq (vs.set i.toNat (.int v u)).toArray n } := by simp [Obj.mapSeq]
      rw [Heap.get?_update_self _ e1' (by rw [e9]; rfl), e9]
/-- x, y = (e, f): stored from behind -/
theorem ex_swap2 (hh : A.handled = none) {x y : Str} {px py tp pos vp : Pos} {kk kk' : Nat} {e f : Expr} {d1 d2 : D} (he : Ev C A env σ (.Tuple [e, f] kk' vp) (.tup [d1, d2])) (h : Ψ .next ω ((x, d1) :: (y, d2) :: σ)) (hx : Storable env own x := by exact .inl rfl) (hy : Storable env own y := by exact .inl rfl)
    (hk : env.scope.kind = .function := by rfl) (hs : swapsWithSole [.Tuple [.Name x px, .Name y py] kk tp] (.Tuple [e, f] kk' vp) pos.line env = pure false := by rfl) (hw : swappedStores [.Tuple [.Name x px, .Name y py] kk tp] (.Tuple [e, f] kk' vp) env = pure (some [x, y]) := by rfl) :
    Ex1 C A env own ω σ (.Assign [.Tuple [.Name x px, .Name y py] kk tp] (.Tuple [e, f] kk' vp) pos) Ψ := fun g₀ H₀ g s Q E S q => by
  refine Assign_Tuple_swapped (he g s _ E S.vars fun v g1 s1 G1 r1 => ?_) hs hw
  have S1 := S.grow G1
  cases r1 using Rep.ctup with
  | tup a vs n e1 e4 =>
    cases e4 using RepL.ccons with
    | cons ra e4 => cases e4 using RepL.ccons with
      | cons rb e4 =>
        cases e4 using RepL.cnil
        rename_i va vb
        have ht : s1.heap.IsTuple a [va, vb].toArray := ⟨_, G1.hp.sub _ _ e1, rfl, n, rfl⟩
        have hlen : [x, y].length = [va, vb].toArray.size := rfl
        rw [hlen]
        refine wpAny_unpackItems_tuple hh ht fun h' hx' => ?_
        have G2 : Grow C g1 s1 g1 { s1 with heap := h' } := Grow.ext G1.hp s1.toks fun b o e => hx' b o (fun q => by rw [q, Heap.none_at] at e; cases e) e
        have S2 := S1.grow G2
        show wpAny C.M A (assignInOrder [bindName env y, bindName env x] [vb, va]) _ _ _
        refine wpAny_assignInOrder_more (wpAny_bindName (S2.store hk hy rb fun s3 S3 => wpAny_assignInOrder_more (wpAny_bindName (S3.store hk hx ra fun s4 S4 => wpAny_assignInOrder_none ?_))))
        exact q _ _ _ _ _ _ .next S4 h
theorem ex_three {x y z : Str} {px py pz pos : Pos} {e : Expr} {d : D} (he : Ev C A env σ e d) (h : Ψ .next ω ((z, d) :: (y, d) :: (x, d) :: σ)) (hx : Storable env own x := by exact .inl rfl) (hy : Storable env own y := by exact .inl rfl) (hz : Storable env own z := by exact .inl rfl)
    (hk : env.scope.kind = .function := by rfl) (hl : (assignEach [.Name x px, .Name y py, .Name z pz] env).map (·.2) = [assign (.Name x px) env, assign (.Name y py) env, assign (.Name z pz) env] := by rfl) (hw : swappedStores [.Name x px, .Name y py, .Name z pz] e env = pure none := by rfl) :
    Ex1 C A env own ω σ (.Assign [.Name x px, .Name y py, .Name z pz] e pos) Ψ := fun g₀ H₀ g s Q E S q =>
  wpAny_Assign_three (he g s _ E S.vars fun v g1 s1 G1 r1 => wpAny_assign_Name ((S.grow G1).store hk hx r1 fun s2 S2 => wpAny_assign_Name (S2.store hk hy r1 fun s3 S3 => wpAny_assign_Name (S3.store hk hz r1 fun s4 S4 => q _ _ _ _ _ _ .next S4 h)))) hl hw
/-- Class.name -/
theorem ev_clsattr (O : C.OK) {value : Expr} {name : Str} {pos : Pos} {Cl : Addr} {mc : Value} {x : Str} {t : Tok} (hv : Ev C A env σ value (.raw (.ref Cl))) (hr : readsIn C.K Cl mc = true) (hf : findCls C.K (.ref Cl) mc name = some (.val (.str x t)))
    (he : eval (.Attribute value name pos) env = (do
      let o ← eval value env
      standAt pos.atName
      let r ← holding [o] (getAttr o name true)
      letTemporaryGo value o r
      pure r) := by with_unfolding_all rfl) : Ev C A env σ (.Attribute value name pos) (.str x) := fun g s Q E V k => by
  refine PyProof.Rows.Attribute_any_ (hv g s _ E V fun v g1 s1 G1 r1 => ?_) he
  cases r1 using Rep.craw
  exact cls_value (O.k.keeps G1.hp.kb) hr hf rfl (k _ _ _ (G1.trans (Grow.toks G1.hp _)) (.str _ _))
end

theorem bindL_none {kindOf : Str → Option NameKind} {x : Str} : ∀ {r : List (Str × Value)} {m : Str → Option Value}, (r.reverse).lookup x = none → bindL kindOf r m x = m x
  | [], m, _ => rfl
  | (n, w) :: r, m, h => by
    rw [List.reverse_cons, List.lookup_append] at h
    cases q : (r.reverse).lookup x with
    | some v => rw [q] at h; cases h
    | none =>
      rw [q] at h
      rw [bindL, bindL_none q]
      have hx : x ≠ n := fun e => by subst e; simp at h
      split
      · exact if_neg hx
      · rfl
theorem bindC_none {kindOf : Str → Option NameKind} {x : Str} : ∀ {r : List (Str × Value)} {m : Str → Option Value}, (r.reverse).lookup x = none → bindC kindOf r m x = m x
  | [], m, _ => rfl
  | (n, w) :: r, m, h => by
    rw [List.reverse_cons, List.lookup_append] at h
    cases q : (r.reverse).lookup x with
    | some v => rw [q] at h; cases h
    | none =>
      rw [q] at h
      rw [bindC, bindC_none q]
      have hx : x ≠ n := fun e => by subst e; simp at h
      split
      · rfl
      · exact if_neg hx
theorem bindL_some {kindOf : Str → Option NameKind} {x : Str} {v : Value} (hk : kindOf x = some .local) : ∀ {r : List (Str × Value)} {m : Str → Option Value}, (r.reverse).lookup x = some v → bindL kindOf r m x = some v
  | [], m, h => by cases h
  | (n, w) :: r, m, h => by
    rw [List.reverse_cons, List.lookup_append] at h
    rw [bindL]
    cases q : (r.reverse).lookup x with
    | some v' => rw [q] at h; cases h; exact bindL_some hk q
    | none =>
      rw [q] at h
      rw [bindL_none q]
      have hx : x = n ∧ w = v := by
        simp only [Option.none_or, List.lookup_cons, List.lookup_nil] at h
        cases hb : x == n with
        | true => rw [hb] at h; cases h; exact ⟨eq_of_beq hb, rfl⟩
        | false => rw [hb] at h; cases h
      obtain ⟨rfl, rfl⟩ := hx
      rw [if_pos hk, if_pos rfl]
theorem bindC_some {kindOf : Str → Option NameKind} {x : Str} {v : Value} (hk : kindOf x ≠ some .local) : ∀ {r : List (Str × Value)} {m : Str → Option Value}, (r.reverse).lookup x = some v → bindC kindOf r m x = some v
  | [], m, h => by cases h
  | (n, w) :: r, m, h => by
    rw [List.reverse_cons, List.lookup_append] at h
    rw [bindC]
    cases q : (r.reverse).lookup x with
    | some v' => rw [q] at h; cases h; exact bindC_some hk q
    | none =>
      rw [q] at h
      rw [bindC_none q]
      have hx : x = n ∧ w = v := by
        simp only [Option.none_or, List.lookup_cons, List.lookup_nil] at h
        cases hb : x == n with
        | true => rw [hb] at h; cases h; exact ⟨eq_of_beq hb, rfl⟩
        | false => rw [hb] at h; cases h
      obtain ⟨rfl, rfl⟩ := hx
      rw [if_neg hk, if_pos rfl]

section
variable {C : Cx} {A : Around} {env : Env} {own : List Addr} {ω : Om} {σ : Sg} {Ψ : Post}

/-- a def some of whose variables are cells -/
theorem code_cells (O : C.OK) {k : Nat} (hroom : A.depth < recursionLimit) (hR : ∀ env, Room (A.deeper env) k) {f c : Addr} {fo : Obj} {fvs : Array Value} {oc : Obj} {ft : Tok} {fd : FuncData} {body : List Stmt} {xs : List Str} {ds : List D} {s : Shared} {g : Fz} {vs : List Value} {Rr : Result → Shared → Prop}
    (hfo : s.heap.get? f = some fo) (hfd : fo.data = .func fd) (hbody : fd.body = .stmts body) (hcc : fd.code = .ref c) (hc1 : s.heap.get? c = some oc) (hc2 : oc.data = .fields fvs) (hc3 : fvs[1]? = some (.str fd.qualname ft)) (hclo : fd.closure = []) (H : Hp C g s) (r : RepL g vs ds)
    (hb : bindArgs fd ⟨vs, []⟩ = pure (xs.zip vs))
    (hkind : ∀ n, ∀ x ∈ xs, fd.scope.names.lookup x = some .local ∨ (fd.scope.names.lookup x = some .cell ∧ ((cellsFrom n fd.scope.names []).lookup x).isSome = true)) (hnd : ((cellsFrom 0 fd.scope.names []).map (·.1)).Nodup)
    (h : ∀ A' s' E, Room A' k → St C g s.heap (callEnvC fd s.heap.objs.size f) ((cellsFrom (s.heap.objs.size + 1) fd.scope.names []).map (·.2)) [] (xs.zip ds).reverse g s' →
      wpAny C.M A' (execs body (callEnvC fd s.heap.objs.size f)) (fun fl s' => Rr (.ok (.ret (match fl with | .ret v => v | _ => .none))) s') E s')
    (hco : fd.scope.isCoroutine = false := by rfl) (hgen : fd.scope.isGenerator = false := by rfl) (hk : fd.scope.kind = .function := by rfl) : codeAny C.M A (.call (.ref f) ⟨vs, []⟩) Rr s := by
  refine codeAny_call_cells hroom hfo hfd (O.nolimit.keeps H.kb) ⟨c, oc, fvs, ft, hcc, hc1, hc2, hc3⟩ hbody hb hclo (fun x hx => hkind _ x.1 (List.of_mem_zip hx).1) (fun s₁ x => h _ _ _ (hR _) ?_) hco hgen hk
  obtain ⟨h₁, tk, rfl, hkp⟩ := x.done
  have hL : s.heap.get? s.heap.objs.size = none := Heap.none_at _
  have hcm : ∀ n a, (n, a) ∈ cellsFrom (s.heap.objs.size + 1) fd.scope.names [] → (cellsFrom (s.heap.objs.size + 1) fd.scope.names []).lookup n = some a := fun n a hm => lookup_of_mem_nodup (cellsFrom_names fd.scope.names 0 (s.heap.objs.size + 1) [] [] rfl ▸ hnd) hm
  have hfr : ∀ a ∈ (cellsFrom (s.heap.objs.size + 1) fd.scope.names []).map (·.2), s.heap.get? a = none ∧ ∃ v, h₁.IsCell a v := fun a ha => by
    obtain ⟨p, hp, rfl⟩ := List.mem_map.mp ha
    exact ⟨Heap.get?_none_of_le (Nat.le_of_lt (x.above p.1 p.2 hp)), _, x.cell p.1 p.2 (hcm p.1 p.2 hp)⟩
  refine ⟨⟨⟨fun b o e => hkp b o (H.sub b o e), H.base, H.t128, ?_, H.gens, H.os⟩, _, x.toInCall.ns, fun y d e => ?_⟩, fun _ _ e => e, fun _ _ e => .inl e, fun b o e _ => hkp b o e, ⟨H.none_g hL, hL⟩, (fun a ha => ⟨H.none_g (hfr a ha).1, (hfr a ha).1, (hfr a ha).2⟩), ?_, (fun a ha => (hfr a ha).2), (fun p hp => by cases hp), List.nodup_nil⟩
  · obtain ⟨ps, e, y⟩ := H.tab; exact ⟨ps, hkp _ _ e, y⟩
  · obtain ⟨v, hv, rv⟩ := (RepA.zip xs r).reverse.lookup e
    have hy : y ∈ xs := (List.of_mem_zip (List.mem_reverse.mp (lookup_memV hv))).1
    rcases hkind (s.heap.objs.size + 1) y hy with hl | ⟨hl, hs⟩
    · exact .inl ⟨hl, v, bindL_some hl hv, rv⟩
    · obtain ⟨a, ha⟩ := Option.isSome_iff_exists.mp hs
      refine .inr ⟨.inl hl, a, v, ha, ?_, rv⟩
      have := x.cell y a ha
      rw [bindC_some (kindOf := (callEnvC fd s.heap.objs.size f).kindOf) (by show fd.scope.names.lookup y ≠ _; rw [hl]; intro q; cases q) hv] at this
      exact this
  · have := x.apart
    show ((cellsFrom (s.heap.objs.size + 1) fd.scope.names []).map (·.2)).Nodup
    rw [List.Nodup, List.pairwise_map]
    exact this

noncomputable def Fz.dels (g : Fz) (l : List Addr) : Fz := fun b => if b ∈ l then none else g b
theorem Fz.dels_some {g : Fz} {l : List Addr} {b : Addr} {o : Obj} (e : g.dels l b = some o) : b ∉ l ∧ g b = some o := by
  unfold Fz.dels at e
  by_cases h : b ∈ l
  · rw [if_pos h] at e; cases e
  · rw [if_neg h] at e; exact ⟨h, e⟩
theorem Fz.dels_ne {g : Fz} {l : List Addr} {b : Addr} (h : b ∉ l) : g.dels l b = g b := by simp [Fz.dels, h]

/-- the frame's own cells held as frozen for a while -/
theorem St.viewCells {g₀ g : Fz} {H₀ : Heap} {s : Shared} (S : St C g₀ H₀ env own ω σ g s) :
    ∃ g1, Vars C env σ g1 s ∧ (∀ c ∈ own, g1 c = s.heap.get? c) ∧ (∀ b o, g b = some o → g1 b = some o) ∧ ∀ g2 s2, Grow C g1 s g2 s2 → Grow C g s (g2.dels own) s2 := by
  have h8 : (128 : Addr) ∉ own := fun q => by
    obtain ⟨_, _, v, o, ho, hd⟩ := S.fC 128 q
    exact S.vars.hp.ne128 ho (fun vs q => by rw [hd] at q; cases q) rfl
  have gn : ∀ {b o}, g b = some o → b ∉ own := fun {b o} e q => by rw [(S.fC b q).1] at e; cases e
  have up : ∀ b o, g b = some o → (fun b => if b ∈ own then s.heap.get? b else g b) b = some o := fun b o e => by simp only [if_neg (gn e)]; exact e
  obtain ⟨m, n', bd⟩ := S.vars.ns
  refine ⟨fun b => if b ∈ own then s.heap.get? b else g b, ⟨⟨fun b o e => ?_, fun b o e => up b o (S.vars.hp.base b o e), ?_, ?_, S.vars.hp.gens, S.vars.hp.os⟩, m, n', fun y d e => ?_⟩, fun c hc => by simp only [if_pos hc], up, fun g2 s2 G => ?_⟩
  · by_cases q : b ∈ own
    · simp only [if_pos q] at e; exact e
    · simp only [if_neg q] at e; exact S.vars.hp.sub b o e
  · simp only [if_neg h8]; exact S.vars.hp.t128
  · obtain ⟨ps, e, y⟩ := S.vars.hp.tab
    exact ⟨ps, e, y.mono up⟩
  · rcases bd y d e with ⟨k, v, hv, r⟩ | ⟨k, c, v, hc, hv, r⟩
    · exact .inl ⟨k, v, hv, r.mono up⟩
    · exact .inr ⟨k, c, v, hc, hv, r.mono up⟩
  · refine ⟨⟨fun b o e => G.hp.sub b o (Fz.dels_some e).2, fun b o e => ?_, ?_, ?_, G.hp.gens, G.hp.os⟩, fun b o e => ?_, fun b o e => ?_, G.kept⟩
    · rw [Fz.dels_ne (gn (S.vars.hp.base b o e))]; exact G.hp.base b o e
    · rw [Fz.dels_ne h8]; exact G.hp.t128
    · obtain ⟨ps, e, y⟩ := G.hp.tab
      refine ⟨ps, e, y.trip, fun pos cv e => ?_⟩
      obtain ⟨c, o, vs, t, e1, e2, e3, e4⟩ := y.hit pos cv e
      refine ⟨c, o, vs, t, e1, ?_, e3, e4⟩
      rw [Fz.dels_ne]
      · exact e2
      · intro q
        obtain ⟨_, _, v, oc, hoc, hcd⟩ := S.fC c q
        have := G.up c oc (by simp only [if_pos q]; exact hoc)
        rw [e2] at this; cases this
        rw [hcd] at e3; cases e3
    · rw [Fz.dels_ne (gn e)]; exact G.up _ _ (up _ _ e)
    · obtain ⟨hb, e⟩ := Fz.dels_some e
      rcases G.new b o e with h | h
      · simp only [if_neg hb] at h; exact .inl h
      · exact .inr h

theorem codeAmong_app {pos : Pos} {c : Value} {a b : Int} {t u : Tok} : ∀ {l : List Value}, TriplesOk l → ∀ {cv : Value}, codeAmong pos (l ++ [.int a t, .int b u, c]) = some cv → codeAmong pos l = some cv ∨ cv = c
  | [], _, cv, h => by
    simp only [List.nil_append, codeAmong] at h
    split at h
    · cases h; exact .inr rfl
    · cases h
  | .int x tx :: .int y ty :: z :: r, hk, cv, h => by
    simp only [List.cons_append, codeAmong] at h ⊢
    split at h
    · rename_i q; cases h; rw [if_pos q]; exact .inl rfl
    · rename_i q; rw [if_neg q]; exact codeAmong_app (l := r) hk h
theorem lam_make (O : C.OK) {params : Arguments} {body : Expr} {scope : Scope} {pos : Pos} {ns : List Str} {cs : List Addr} {vs : List Value} {ds : List D} {g : Fz} {s : Shared} {Q E : Value → Shared → Prop} (hcode : env.code = .ref 132) (hgl : env.globals = mainGlobals)
    (hcl : closureFor scope env = pure (ns.zip cs)) (hl : ns.length = cs.length) (hnd : cs.Nodup) (hq : env.qual ++ "<lambda>" = Str.ofString "_law_room.<locals>.<lambda>") (H : Hp C g s)
    (hc : ∀ (i : Nat) (a : Addr), cs[i]? = some a → ∃ o v, g a = some o ∧ o.data = .cell (some v) ∧ vs[i]? = some v) (r : RepL g vs ds) (hdef : defaultsOf params env = ([], []))
    (k : ∀ v g' s', Grow C g s g' s' → Rep g' v (.lam params body scope (Str.ofString "_law_room.<locals>.<lambda>") ns ds) → Q v s') : wpAny C.M A (eval (.Lambda params body scope pos) env) Q E s := by
  refine kla_eval hdef ?_
  rw [hq]
  obtain ⟨ps, hP, tk⟩ := H.tab
  have hg := O.g.keeps H.kb
  have hbt : s.heap.BuiltinsAt C.mg 128 := by
    obtain ⟨bm, o, a1, a2, a3, a4, a5, a6⟩ := O.bat
    exact ⟨bm, o, a1, a2, a3, a4, H.kb _ _ a5, a6⟩
  have hC : CodeHd s.heap 132 128 := O.hd.keeps H.kb
  cases hf : codeAmong pos ps.toList with
  | none =>
    refine kla_makeFunction hcl hgl hg hcode hC hP tk.trip hf (by decide) hbt fun c' ctv h' t' hx hge hlt hrec htb => ?_
    obtain ⟨c2, oc, fvs, ft, e2, hoc, hfd, hfv⟩ := hrec
    cases e2
    have nc : s.heap.get? c' = none := Heap.get?_none_of_le hge
    have nf : s.heap.get? h'.objs.size = none := Heap.get?_none_of_le (by omega)
    have gc : g c' = none := H.none_g nc
    have h8c : c' ≠ 128 := fun q => by rw [q, hP] at nc; cases nc
    have h8f : h'.objs.size ≠ 128 := fun q => by rw [q, hP] at nf; cases nf
    have hcf : h'.objs.size ≠ c' := by omega
    have up : ∀ b o, g b = some o → ((g.put c' oc).put h'.objs.size (kla_obj "<lambda>" (Str.ofString "_law_room.<locals>.<lambda>") params body scope (ns.zip cs) ((C.mg "__name__").getD .none) c' ctv)) b = some o := fun b o e =>
      put_up (by rw [put_of_ne hcf]; exact H.none_g nf) b o (put_up gc b o e)
    refine k _ ((g.put c' oc).put h'.objs.size _) _ ⟨⟨fun b o e => ?_, fun b o e => up b o (H.base b o e), ?_, ?_, H.gens, H.os⟩, up, fun b o e => ?_, fun b o e h8 => Heap.get?_push_of_some _ (hx b o h8 e)⟩ (.lam (Fz.put_self _ _ _) (by rw [put_of_ne hcf.symm]; exact Fz.put_self _ _ _) hfd hfv hl hnd (fun i a ha => let ⟨o, v, e1, e2, e3⟩ := hc i a ha; ⟨o, v, up _ _ e1, e2, e3⟩) (r.mono up))
    · by_cases q : b = h'.objs.size
      · subst q; rw [Fz.put_self] at e; cases e; exact Heap.get?_push_size _ rfl
      · rw [put_of_ne q] at e
        by_cases q' : b = c'
        · subst q'; rw [Fz.put_self] at e; cases e; exact Heap.get?_push_of_some _ hoc
        · rw [put_of_ne q'] at e
          exact Heap.get?_push_of_some _ (hx b o (fun q => by rw [q, H.t128] at e; cases e) (H.sub b o e))
    · rw [put_of_ne h8f.symm, put_of_ne h8c.symm]; exact H.t128
    · refine ⟨_, Heap.get?_push_of_some _ htb, ?_, fun pos' cv e => ?_⟩
      · rw [Array.toList_append]; exact TriplesOk_snoc _ _ _ _ tk.trip
      · rw [Array.toList_append] at e
        rcases codeAmong_app tk.trip e with e | rfl
        · obtain ⟨c, o, vs, t, e1, e2, e3⟩ := tk.hit pos' cv e
          exact ⟨c, o, vs, t, e1, up _ _ e2, e3⟩
        · exact ⟨c', oc, fvs, ft, rfl, by rw [put_of_ne hcf.symm]; exact Fz.put_self _ _ _, hfd, hfv⟩
    · by_cases q : b = h'.objs.size
      · subst q; exact .inr nf
      · rw [put_of_ne q] at e
        by_cases q' : b = c'
        · subst q'; exact .inr nc
        · rw [put_of_ne q'] at e; exact .inl e
  | some cv =>
    obtain ⟨c, oc, fvs, ft, rfl, e2, e3, e4⟩ := tk.hit pos cv hf
    refine kla_makeFunctionHit hcl hgl hg hcode hC hP tk.trip hf hbt fun ctv h' t' hkp hsz => ?_
    have nf : s.heap.get? h'.objs.size = none := Heap.get?_none_of_le hsz
    have G := Grow.add (h' := h'.push (kla_obj "<lambda>" (Str.ofString "_law_room.<locals>.<lambda>") params body scope (ns.zip cs) ((C.mg "__name__").getD .none) c ctv)) H t' (fun b o e => Heap.get?_push_of_some _ (hkp b o e)) nf (Heap.get?_push_size _ rfl)
    exact k _ _ _ G (.lam (Fz.put_self _ _ _) (G.up _ _ e2) e3 e4 hl hnd (fun i a ha => let ⟨o, v, e1, e2, e3⟩ := hc i a ha; ⟨o, v, G.up _ _ e1, e2, e3⟩) (r.mono G.up))
end

section
variable {C : Cx} {A : Around} {env : Env} {own : List Addr} {ω : Om} {σ : Sg} {Ψ : Post}

theorem cell_of {g : Fz} {s : Shared} (V : Vars C env σ g s) {n : Str} {c : Addr} {x : D} (hk : env.kindOf n = some .cell) (hc : env.cells.lookup n = some c) (hx : σ.lookup n = some x) : ∃ o v, s.heap.get? c = some o ∧ o.data = .cell (some v) ∧ Rep g v x := by
  obtain ⟨m, _, b⟩ := V.ns
  rcases b n x hx with ⟨k, _⟩ | ⟨_, c', v, hc', ⟨o, ho, hd⟩, r⟩
  · rw [hk] at k; cases k
  · rw [hc] at hc'; cases hc'
    exact ⟨o, v, ho, hd, r⟩

/-- return f(e1, e2, key=lambda ..), two cells of the frame caught -/
theorem ex_ret_kwlam (O : C.OK) {fx key : Str} {np cp pos kp lp : Pos} {e1 e2 : Expr} {params : Arguments} {body : Expr} {scope : Scope} {f c1 c2 : Addr} {n1 n2 : Str} {x1 x2 d1 d2 d : D}
    (hf : Ev C A env σ (.Name fx np) (.raw (.ref f))) (hkeep : keepIn C.K (.ref f) = true) (h1 : EvL C A env σ cp [e1, e2] [d1, d2])
    (hcode : env.code = .ref 132) (hgl : env.globals = mainGlobals) (hcl : closureFor scope env = pure [(n1, c1), (n2, c2)]) (hq : env.qual ++ "<lambda>" = Str.ofString "_law_room.<locals>.<lambda>") (hdef : defaultsOf params env = ([], []))
    (hne : c1 ≠ c2) (ho1 : c1 ∈ own) (ho2 : c2 ∈ own) (hc1 : env.cells.lookup n1 = some c1) (hc2 : env.cells.lookup n2 = some c2) (hk1 : env.kindOf n1 = some .cell) (hk2 : env.kindOf n2 = some .cell) (hx1 : σ.lookup n1 = some x1) (hx2 : σ.lookup n2 = some x2)
    (hc : Prim C A (fun vs => call (.ref f) [vs.getD 0 .none, vs.getD 1 .none] [(key, vs.getD 2 .none)]) [d1, d2, .lam params body scope (Str.ofString "_law_room.<locals>.<lambda>") [n1, n2] [x1, x2]] d) (hgr : d.gr = true) (hΨ : Ψ (.ret d) ω σ)
    (hst : starEach [e1, e2] env = [(false, eval e1 env), (false, eval e2 env)] := by rfl) (hst' : starEach [e1, e2] env = (false, eval e1 env) :: starEach [e2] env := by rfl) :
    Ex1 C A env own ω σ (.Return (some (.Call (.Name fx np) [e1, e2] [⟨some key, .Lambda params body scope lp, kp⟩] cp)) pos) Ψ := fun g₀ H₀ g s Q E S q => by
  obtain ⟨g1, V1, hg1, up1, back⟩ := S.viewCells
  obtain ⟨oa, va, ha, hda, ra⟩ := cell_of V1 hk1 hc1 hx1
  obtain ⟨ob, vb, hb, hdb, rb⟩ := cell_of V1 hk2 hc2 hx2
  have ga : g1 c1 = some oa := (hg1 c1 ho1).trans ha
  have gb : g1 c2 = some ob := (hg1 c2 ho2).trans hb
  refine wpAny_Return_some (wpAny_Call_Name_kw (hf g1 s _ E V1 fun v g2 s2 G2 r2 => ?_))
  cases r2 using Rep.craw
  have htr : backTo cp (starEach [e1, e2] env) = [(false, eval e1 env), (false, eval e2 env)] := by rw [hst]; rfl
  refine callWith_of (P := fun h => C.K.In h) (by rw [htr]; rfl) (fun h X => keeps_K hkeep h X) (evalArgs_kw2 rfl (h1 g2 s2 _ E (V1.grow G2) fun us g3 s3 G3 r3 => ?_) hst')
  have hkw : (backToKw cp (keywordEach [⟨some key, .Lambda params body scope lp, kp⟩] env)).map (·.2) = [(do let v ← eval (.Lambda params body scope lp) env; standAt cp; pure v)] := rfl
  rw [hkw]
  have G23 := G2.trans G3
  refine wpAny_evalAll_cons (wpAny_bind (lam_make (ns := [n1, n2]) (cs := [c1, c2]) (vs := [va, vb]) O hcode hgl hcl rfl (by simp [hne]) hq G3.hp (fun i a ha' => ?_) (.cons (G23.rep ra) (.cons (G23.rep rb) .nil)) hdef fun v g4 s4 G4 r4 => wpAny_bind (wpAny_standAt (wpAny_pure (wpAny_evalAll_nil ⟨O.k.keeps G4.hp.kb, ?_⟩)))))
  · match i, ha' with
    | 0, ha' => simp at ha'; subst ha'; exact ⟨oa, va, G23.up _ _ ga, hda, rfl⟩
    | 1, ha' => simp at ha'; subst ha'; exact ⟨ob, vb, G23.up _ _ gb, hdb, rfl⟩
  · cases r3 using RepL.ccons with
    | cons ru1 r3 => cases r3 using RepL.ccons with
      | cons ru2 r3 =>
        cases r3 using RepL.cnil
        rename_i u1 u2
        refine hc g4 s4 [u1, u2, v] _ E G4.hp (.cons (G4.rep ru1) (.cons (G4.rep ru2) (.cons r4 .nil))) fun w g5 s5 G5 r5 => ?_
        exact q _ _ _ _ _ _ (.ret (r5.ground hgr)) (S.grow (back g5 s5 ((G23.trans G4).trans G5))) hΨ
end

section
variable {C : Cx} {A : Around} {env : Env} {own : List Addr} {ω : Om} {σ : Sg} {Ψ : Post}

/-- a def of the module some of whose variables are cells -/
theorem callV_C (O : C.OK) {k : Nat} (R : Room A (k + 1)) {f c : Addr} {fo oc : Obj} {fvs : Array Value} {ft : Tok} {fd : FuncData} {body : List Stmt} {xs : List Str} {ds : List D} {d : D}
    (hK : C.K.lookup f = some fo) (hfd : fo.data = .func fd) (hbody : fd.body = .stmts body) (hcc : fd.code = .ref c) (hc1 : C.K.lookup c = some oc) (hc2 : oc.data = .fields fvs) (hc3 : fvs[1]? = some (.str fd.qualname ft)) (hclo : fd.closure = [])
    (hb : ∀ vs : List Value, vs.length = ds.length → bindArgs fd ⟨vs, []⟩ = pure (xs.zip vs))
    (hkind : ∀ n, ∀ x ∈ xs, fd.scope.names.lookup x = some .local ∨ (fd.scope.names.lookup x = some .cell ∧ ((cellsFrom n fd.scope.names []).lookup x).isSome = true)) (hnd : ((cellsFrom 0 fd.scope.names []).map (·.1)).Nodup)
    (h : ∀ L A', Room A' k → Ex C A' (callEnvC fd L f) ((cellsFrom (L + 1) fd.scope.names []).map (·.2)) [] (xs.zip ds).reverse body (Ends d))
    (hco : fd.scope.isCoroutine = false := by rfl) (hgen : fd.scope.isGenerator = false := by rfl) (hk : fd.scope.kind = .function := by rfl) : CallV C A (.ref f) ds d := by
  intro g s vs Q E H r q
  refine wpAny_call (code_cells O (k := k) R.lt (fun env => R.deeper) (H.kb _ _ (O.k _ _ hK)) hfd hbody hcc (H.kb _ _ (O.k _ _ hc1)) hc2 hc3 hclo H r (hb vs r.length) hkind hnd (fun A' s' E' R' S => ?_) hco hgen hk)
  refine h _ _ R' g s.heap g s' _ _ S fun fl s'' g'' fd'' ω'' σ'' hf S' e => ?_
  have G : Grow C g s g'' s'' := ⟨S'.vars.hp, S'.up, S'.new, S'.kept⟩
  cases hf with
  | ret rv => cases e; exact q _ g'' s'' G rv
  | next => cases (show d = .none from e); exact q _ g'' s'' G .none
  | brk => exact (show False from e).elim
  | cont => exact (show False from e).elim
end

section
variable {C : Cx} {A : Around} {env : Env} {own : List Addr} {ω : Om} {σ : Sg} {Ψ : Post}

/-- a list of whole numbers, whoever made it -/
noncomputable def Lst (C : Cx) (d : D) (ns : List Int) : Prop := ∀ g s v, Hp C g s → Rep g v d → ∃ l vs, v = .ref l ∧ s.heap.IsList l (List.toArray vs) ∧ IntsAre vs ns
theorem lst_list {ns : List Int} : Lst C (.list (ns.map .int)) ns := fun g s v H r => by
  cases r using Rep.clist with
  | list a vs n e1 e2 => exact ⟨a, vs, rfl, ⟨_, H.sub _ _ e1, rfl, n, rfl⟩, e2.ints⟩
theorem lst_raw {l : Addr} {vs : List Value} {ns : List Int} (h : C.B.IsList l vs.toArray) (hi : IntsAre vs ns) : Lst C (.raw (.ref l)) ns := fun g s v H r => by
  cases r using Rep.craw
  obtain ⟨o, ho, h1, h2⟩ := h
  exact ⟨l, vs, rfl, ⟨o, H.kb _ _ ho, h1, h2⟩, hi⟩
theorem p_sumL (hh : A.handled = none) {d : D} {ns : List Int} (hL : Lst C d ns) : CallV C A (.builtin "sum") [d] (.int ns.sum) := by
  intro g s vs Q E H r k
  cases r using RepL.ccons with
  | cons r rn =>
    cases rn using RepL.cnil
    obtain ⟨l, us, rfl, h1, h2⟩ := hL g s _ H r
    exact sum_at hh H h1 h2 k

/-- a part of a slice -/
noncomputable def EvP (C : Cx) (A : Around) (env : Env) (σ : Sg) (x : Option Expr) (k : Option Int) : Prop :=
  ∀ g s Q E, Vars C env σ g s → (∀ v g' s', Grow C g s g' s' → IsPart v k → Q v s') → wpAny C.M A (evalPart x env) Q E s
theorem evP_none : EvP C A env σ none none := fun g s Q E V k => wpAny_pure (k _ _ _ (Grow.refl V.hp) .none)
theorem evP_some {e : Expr} {i : Int} (h : Ev C A env σ e (.int i)) : EvP C A env σ (some e) (some i) := fun g s Q E V k => by
  rw [evalPart_some]
  exact h g s Q E V fun v g' s' G r => by cases r using Rep.cint; exact k _ _ _ G (.int _ _)

theorem ev_slice3 {value st : Expr} {lower upper : Option Expr} {p pos : Pos} {d : D} {ns : List Int} {lo hi : Option Int} {k : Int} (hv : Ev C A env σ value d) (hL : Lst C d ns) (hlo : EvP C A env σ lower lo) (hhi : EvP C A env σ upper hi) (hst : Ev C A env σ st (.int k)) (h0 : k ≠ 0) (hsz : ns.length ≤ sizeLine)
    (ht : ∀ o r, letTemporaryGo value o r = pure () := by intro _ _; rfl) : Ev C A env σ (.Subscript value (.Slice lower upper (some st) p) pos) (.list ((pickNums ns lo hi (some k)).map .int)) := fun g s Q E V q => by
  refine wpAny_Subscript_Slice_step list_getitem_lookup (hv g s _ E V fun o g1 s1 G1 r1 => wpAny_Slice (hlo g1 s1 _ E (V.grow G1) fun vl g2 s2 G2 p2 => hhi g2 s2 _ E ((V.grow G1).grow G2) fun vu g3 s3 G3 p3 => evP_some hst g3 s3 _ E (((V.grow G1).grow G2).grow G3) fun vk g4 s4 G4 p4 => ?_)) ht
  have G := ((G1.trans G2).trans G3).trans G4
  have G5 := Grow.push G4.hp { cls := .type "slice", data := .fields #[vl, vu, vk] }
  obtain ⟨l, us, rfl, h1, h2⟩ := hL _ _ _ G5.hp (G5.rep (G4.rep (G3.rep (G2.rep r1))))
  obtain ⟨o, ho, h3, h4⟩ := h1
  refine ⟨⟨o, ho, h3⟩, wpAny_getItem_list_slice ⟨o, ho, h3, h4⟩ (Heap.IsSliceOf.new _ _ _ _) p2 p3 p4 (by intro e; cases e; exact h0 rfl) ?_ (kmk_sz h2 hsz)⟩
  have G6 := Grow.push G5.hp { cls := .type "list", data := .seq (slicePick us.toArray lo hi (some k)) }
  refine q _ _ _ ((G.trans G5).trans G6) (.list (vs := (slicePick us.toArray lo hi (some k)).toList) (n := _) (by rw [Array.toArray_toList]; exact Fz.put_self _ _ _) (RepL.of_ints (h2.pick lo hi (some k))))
theorem ev_slice2 {value : Expr} {lower upper : Option Expr} {p pos : Pos} {d : D} {ns : List Int} {lo hi : Option Int} (hv : Ev C A env σ value d) (hL : Lst C d ns) (hlo : EvP C A env σ lower lo) (hhi : EvP C A env σ upper hi) (hsz : ns.length ≤ sizeLine)
    (ht : ∀ o r, letTemporaryGo value o r = pure () := by intro _ _; rfl) : Ev C A env σ (.Subscript value (.Slice lower upper none p) pos) (.list ((pickNums ns lo hi none).map .int)) := fun g s Q E V q => by
  refine wpAny_Subscript_list_slice (hv g s _ E V fun o g1 s1 G1 r1 => hlo g1 s1 _ E (V.grow G1) fun vl g2 s2 G2 p2 => hhi g2 s2 _ E ((V.grow G1).grow G2) fun vu g3 s3 G3 p3 => ?_) ht
  have G := (G1.trans G2).trans G3
  obtain ⟨l, us, rfl, h1, h2⟩ := hL _ _ _ G3.hp (G3.rep (G2.rep r1))
  refine ⟨l, _, lo, hi, rfl, h1, kmk_sz h2 hsz, p2, p3, ?_⟩
  have G5 := Grow.push G3.hp { cls := .type "slice", data := .fields #[vl, vu, .none] }
  have G6 := Grow.push G5.hp { cls := .type "list", data := .seq (slicePick us.toArray lo hi none) }
  have hz : (s3.heap.push { cls := .type "slice", data := .fields #[vl, vu, .none] }).objs.size = s3.heap.objs.size + 1 := by simp [Heap.push]
  refine q _ _ _ ((G.trans G5).trans G6) ?_
  rw [← hz]
  exact .list (vs := (slicePick us.toArray lo hi none).toList) (n := _) (by rw [Array.toArray_toList]; exact Fz.put_self _ _ _) (RepL.of_ints (h2.pick lo hi none))
end

section
variable {C : Cx} {A : Around} {env : Env} {own : List Addr} {ω : Om} {σ σ' : Sg} {Ψ : Post}

noncomputable def compX (scope : Scope) (cl : List (Str × Addr)) (L : Addr) (env : Env) : Env :=
  { scope := relabel scope env, locals := L, globals := env.globals, cells := cellsFrom (L + 1) scope.names cl, qual := env.qual, func := none, code := env.code, frame := env.frame, builtins := env.builtins }
noncomputable def newCells (scope : Scope) (L : Addr) : List Addr := (cellsFrom (L + 1) scope.names []).map (·.2)

theorem cellsFrom_app : ∀ (names : List (Str × NameKind)) (n : Nat) (a b : List (Str × Addr)), cellsFrom n names (a ++ b) = cellsFrom n names a ++ b
  | [], _, _, _ => rfl
  | (x, k) :: r, n, a, b => by
    unfold cellsFrom
    split
    · exact cellsFrom_app r (n + 1) ((x, n) :: a) b
    · exact cellsFrom_app r n a b

/-- the frame's cells that a comprehension sees, and what they hold -/
inductive Caught (scope : Scope) (env : Env) (σ : Sg) : List (Str × Addr) → Sg → Prop where
  | nil : Caught scope env σ [] []
  | cons {y : Str} {c : Addr} {d : D} {cl : List (Str × Addr)} {σ' : Sg} (h : σ.lookup y = some d) (hk : env.kindOf y = some .cell) (hc : env.cells.lookup y = some c) (hr : (relabel scope env).names.lookup y = some .cell) (t : Caught scope env σ cl σ') :
      Caught scope env σ ((y, c) :: cl) ((y, d) :: σ')

theorem Caught.get {scope : Scope} {cl : List (Str × Addr)} (h : Caught scope env σ cl σ') {y : Str} {d : D} (e : σ'.lookup y = some d) :
    ∃ c, cl.lookup y = some c ∧ σ.lookup y = some d ∧ env.kindOf y = some .cell ∧ env.cells.lookup y = some c ∧ (relabel scope env).names.lookup y = some .cell := by
  induction h with
  | nil => cases e
  | @cons z c d' cl σ' h hk hc hr t ih =>
    rw [List.lookup_cons] at e ⊢
    cases hb : y == z with
    | true => rw [hb] at e; cases e; cases eq_of_beq hb; exact ⟨c, rfl, h, hk, hc, hr⟩
    | false => rw [hb] at e; exact ih e
theorem Caught.mem {scope : Scope} {cl : List (Str × Addr)} (h : Caught scope env σ cl σ') {p : Str × Addr} (e : p ∈ cl) : ∃ d, σ.lookup p.1 = some d ∧ env.kindOf p.1 = some .cell ∧ env.cells.lookup p.1 = some p.2 := by
  induction h with
  | nil => cases e
  | cons h hk hc hr t ih =>
    rcases List.mem_cons.mp e with rfl | e
    · exact ⟨_, h, hk, hc⟩
    · exact ih e

theorem newEnv_comp {scope : Scope} {cl : List (Str × Addr)} {s : Shared} {Q : Env → Shared → Prop} {E : Value → Shared → Prop}
    (h : Q (newEnv scope s.heap.objs.size env.globals (cellsFrom (s.heap.objs.size + 1) scope.names cl) env.qual none .none (some env) builtinsNs) { s with heap := pushCells (s.heap.push { cls := .type "dict", data := .dict #[] }) scope.names }) :
    wpAny C.M A (newFunctionEnv scope env.globals cl [] env.qual none .none (some env)) Q E s := by
  simp only [newFunctionEnv, Option.isSome_some, if_true]
  refine wpAny_bind (wpAny_alloc ?_)
  refine wpAny_bind (wpAny_layCells _ (fun name kind cells => by cases hkc : kind == NameKind.cell <;> simp) _ _ _ _ ?_)
  rw [show ({ s with heap := s.heap.push { cls := .type "dict", data := .dict #[] } } : Shared).heap.objs.size = s.heap.objs.size + 1 from Heap.size_push ..]
  rw [List.forIn_nil]
  exact wpAny_bind (wpAny_pure (wpAny_pure h))

/-- the tests of a comprehension -/
noncomputable def EvI (C : Cx) (A : Around) (env : Env) (σ : Sg) (ifs : List Expr) (b : Bool) : Prop :=
  ∀ g s (Q : Bool → Shared → Prop) E, Vars C env σ g s → (∀ g' s', Grow C g s g' s' → Q b s') →
    wpAny C.M A (forIn ifs true fun c r => if r = true then do let ok ← isTrue c env (eval c env); pure (ForInStep.yield ok) else pure (ForInStep.yield r)) Q E s
theorem evI_nil : EvI C A env σ [] true := fun g s Q E V k => wpAny_tests_nil (k _ _ (Grow.refl V.hp))
theorem evI_one {c : Expr} {b : Bool} (h : EvT C A env σ c b) : EvI C A env σ [c] b := fun g s Q E V k => wpAny_tests_one (h g s _ E V fun g' s' G => k g' s' G)

theorem lookup_not_mem : ∀ {l : List (Str × Addr)} {x : Str}, x ∉ l.map (·.1) → l.lookup x = none
  | [], _, _ => rfl
  | (y, b) :: l, x, h => by
    rw [List.lookup_cons]
    cases hb : x == y with
    | true => exact absurd (by rw [eq_of_beq hb]; exact .head _) h
    | false => exact lookup_not_mem fun q => h (.tail _ q)

/-- the frame's end: its one owned list is let go into the frozen part -/
theorem St.thaw {g₀ g : Fz} {s0 s : Shared} {H₀ : Heap} {a : Addr} {ds : List D} (S : St C g₀ H₀ env own [(a, ds)] σ g s) (hH : s0.heap = H₀) :
    ∃ g', Grow C g₀ s0 g' s ∧ Rep g' (.ref a) (.list ds) ∧ ∃ m, s.heap.Ns env.locals m ∧ g' env.locals = none := by
  subst hH
  obtain ⟨⟨vs, n, e1, e4⟩, h1, h2⟩ := S.om (a, ds) (.head _)
  have h8 : a ≠ 128 := S.vars.hp.ne128 e1 fun w q => by cases q
  have nl : env.locals ≠ a := (S.nL e1 fun es ep q => by cases q).symm
  have up := put_up (o := { cls := .type "list", data := .seq vs.toArray n }) h1
  obtain ⟨m, n', b⟩ := S.vars.ns
  refine ⟨g.put a _, ⟨⟨fun b o e => ?_, fun b o e => up b o (S.vars.hp.base b o e), ?_, ?_, S.vars.hp.gens, S.vars.hp.os⟩, fun b o e => up b o (S.up b o e), fun b o e => ?_, S.kept⟩, .list (Fz.put_self _ _ _) (e4.mono up), m, n', ?_⟩
  · by_cases q : b = a
    · subst q; rw [Fz.put_self] at e; cases e; exact e1
    · rw [put_of_ne q] at e; exact S.vars.hp.sub b o e
  · rw [put_of_ne h8.symm]; exact S.vars.hp.t128
  · obtain ⟨ps, e, y⟩ := S.vars.hp.tab
    exact ⟨ps, e, y.mono up⟩
  · by_cases q : b = a
    · subst q; exact .inr h2
    · rw [put_of_ne q] at e; exact S.new b o e
  · rw [put_of_ne nl]; exact S.fL.1

theorem comp_core {elt iter : Expr} {x : Str} {px pos : Pos} {ifs : List Expr} {scope : Scope} {cl : List (Str × Addr)} {d : D} {ds : List D} {p : D → Bool} {F : D → D} {g1 : Fz} {s1 : Shared} {v : Value} {E : Value → Shared → Prop} {RR : Value → Addr → Result → Shared → Prop}
    (hi : Itr C A d ds) (hsz : ds.length ≤ sizeLine) (hC : Caught scope env σ cl σ') (hnd : (cl.map (·.2)).Nodup) (hfr : ∀ y ∈ cl.map (·.1), y ∉ (cellsFrom 0 scope.names []).map (·.1)) (hxσ : σ'.lookup x = none) (hkind : scope.kind = .function)
    (hx : ∀ L, Storable (compX scope cl L env) (newCells scope L) x) (V1 : Vars C env σ g1 s1) (r1 : Rep g1 v d)
    (ht : ∀ L (i : Nat) d, ds[i]? = some d → EvI C A (compX scope cl L env) ((x, d) :: σ') ifs (p d)) (he : ∀ L (i : Nat) d, ds[i]? = some d → p d = true → Ev C A (compX scope cl L env) ((x, d) :: σ') elt (F d))
    (k : ∀ D L m g' s', Grow C g1 s1 g' s' → Rep g' (.ref D) (.list ((ds.filter p).map F)) → s'.heap.Ns L m → s1.heap.get? L = none → g' L = none → RR (.ref D) L (.ok .next) s') :
    wpAny C.M A (pyIter v) (fun it s₂ => wpAny C.M A (newList []) (fun acc s₃ => wpAny C.M A (newFunctionEnv scope env.globals cl [] env.qual none .none (some env)) (fun cenv s₄ =>
      codeAny C.M A (.compStart (.ListComp elt [⟨.Name x px, iter, ifs, 0⟩] scope pos) 0 it acc { cenv with scope := relabel scope env }) (RR acc cenv.locals) s₄) E s₃) E s₂) E s1 := by
  refine hi g1 s1 v _ E V1.hp r1 fun It fp wr P W g2 s2 G2 Wk hst hlive hwr hfp hP => ?_
  refine wpAny_newObj_type (newEnv_comp ?_) (by show 0 ≤ _; omega)
  dsimp only
  generalize hD : s2.heap.objs.size = D
  generalize hh2 : s2.heap.push { cls := .type "list", dict := none, data := .seq ([] : List Value).toArray } = h2
  have hsz2 : h2.objs.size = D + 1 := by rw [← hh2, Heap.size_push, hD]
  rw [hsz2]
  generalize hh3 : pushCells (h2.push { cls := .type "dict", data := .dict #[] }) scope.names = h3
  have kp3 : ∀ b o, h2.get? b = some o → h3.get? b = some o := fun b o e => by rw [← hh3]; exact pushCells_keeps _ _ b o (Heap.get?_push_of_some _ e)
  have kp2 : ∀ b o, s2.heap.get? b = some o → h2.get? b = some o := fun b o e => by rw [← hh2]; exact Heap.get?_push_of_some _ e
  have kp : ∀ b o, s2.heap.get? b = some o → h3.get? b = some o := fun b o e => kp3 b o (kp2 b o e)
  have n2 : ∀ b, D ≤ b → s2.heap.get? b = none := fun b hb => Heap.get?_none_of_le (by rw [hD]; exact hb)
  have n1 : ∀ b, D ≤ b → s1.heap.get? b = none := fun b hb => by
    cases q : s1.heap.get? b with
    | none => rfl
    | some o =>
      have h8 : b ≠ 128 := fun q8 => by
        obtain ⟨ps, e, _⟩ := G2.hp.tab
        rw [← q8, n2 b hb] at e; cases e
      rw [← G2.kept b o q h8, n2 b hb]
  have ng : ∀ b, D ≤ b → g2 b = none := fun b hb => G2.hp.none_g (n2 b hb)
  have ok := cellsFrom_ok scope.names (h2.push { cls := .type "dict", data := .dict #[] }) (D + 2) [] ⟨fun _ _ hm => (nomatch hm), List.Pairwise.nil⟩ (by rw [Heap.size_push, hsz2]; exact Nat.le_refl _)
  rw [Heap.size_push, hsz2, hh3] at ok
  have hcells : cellsFrom (D + 1 + 1) scope.names cl = cellsFrom (D + 1 + 1) scope.names [] ++ cl := by
    have := cellsFrom_app scope.names (D + 1 + 1) [] cl
    rwa [List.nil_append] at this
  have hV2 := V1.grow G2
  obtain ⟨m1, ns1, b1⟩ := hV2.ns
  have hcl : ∀ p ∈ cl, ∃ v d, s2.heap.IsCell p.2 (some v) ∧ σ.lookup p.1 = some d ∧ Rep g2 v d := fun p hp => by
    obtain ⟨d, h1, h2, h3⟩ := hC.mem hp
    rcases b1 _ _ h1 with ⟨q, _⟩ | ⟨_, c, v, hc, hv, r⟩
    · rw [h2] at q; cases q
    · rw [h3] at hc; cases hc; exact ⟨v, d, hv, h1, r⟩
  have hGr : Grow C g2 s2 g2 { s2 with heap := h3 } := Grow.ext G2.hp s2.toks kp
  have S4 : St C g1 s1.heap (compX scope cl (D + 1) env) (newCells scope (D + 1)) [(D, [])] σ' g2 { s2 with heap := h3 } := by
    refine ⟨⟨hGr.hp, fun _ => none, ?_, fun y d e => ?_⟩, G2.up, G2.new, fun b o e h8 => kp b o (G2.kept b o e h8), ⟨ng _ (by show D ≤ D + 1; omega), n1 _ (by show D ≤ D + 1; omega)⟩, fun c hc => ?_, ?_, fun c hc => ?_, fun p hp => ?_, ?_⟩
    · rw [← hh3, ← hsz2]; exact (Heap.Ns.new h2 (.type "dict")).keeps (pushCells_keeps _ _)
    · obtain ⟨c, h1, h2', h3', h4, h5⟩ := hC.get e
      rcases b1 _ _ h2' with ⟨q, _⟩ | ⟨_, c', v, hc, ⟨o, ho, hd⟩, r⟩
      · rw [h3'] at q; cases q
      · rw [h4] at hc; cases hc
        refine .inr ⟨.inl h5, c, v, ?_, ⟨o, kp _ _ ho, hd⟩, r⟩
        show (cellsFrom (D + 1 + 1) scope.names cl).lookup y = some c
        rw [hcells, List.lookup_append, lookup_not_mem (fun q => hfr y (List.mem_map_of_mem (f := fun q : Str × Addr => q.1) (lookup_mem h1)) (cellsFrom_names scope.names 0 (D + 1 + 1) [] [] rfl ▸ q)), Option.none_or]; exact h1
    · obtain ⟨p, hp, rfl⟩ := List.mem_map.mp hc
      have := ok.empty p.1 p.2 hp
      exact ⟨ng _ (by omega), n1 _ (by omega), _, this.1⟩
    · show ((cellsFrom (D + 1 + 1) scope.names cl).map (·.2)).Nodup
      rw [hcells, List.map_append, List.nodup_append]
      refine ⟨by rw [List.Nodup, List.pairwise_map]; exact ok.apart, hnd, fun a ha b hb q => ?_⟩
      obtain ⟨p, hp, rfl⟩ := List.mem_map.mp ha
      obtain ⟨p', hp', rfl⟩ := List.mem_map.mp hb
      obtain ⟨v, d, ⟨o, ho, _⟩, _⟩ := hcl p' hp'
      have h1 := (ok.empty p.1 p.2 hp).2
      rw [n2 _ (by rw [← q]; omega)] at ho; cases ho
    · have hc : c ∈ (cellsFrom (D + 1 + 1) scope.names cl).map (·.2) := hc
      rw [hcells, List.map_append] at hc
      rcases List.mem_append.mp hc with hc | hc
      · obtain ⟨p, hp, rfl⟩ := List.mem_map.mp hc
        exact ⟨_, (ok.empty p.1 p.2 hp).1⟩
      · obtain ⟨p, hp, rfl⟩ := List.mem_map.mp hc
        obtain ⟨v, d, ⟨o, ho, hd⟩, _⟩ := hcl p hp
        exact ⟨_, o, kp _ _ ho, hd⟩
    · rcases List.mem_cons.mp hp with rfl | hp
      · exact ⟨⟨[], 0, kp3 _ _ (by rw [← hh2, ← hD]; exact Heap.get?_push_size _ rfl), .nil⟩, ng _ (Nat.le_refl _), n1 _ (Nat.le_refl _)⟩
      · cases hp
    · simp
  have lv2 : ∀ b ∈ wr, ∃ o, s2.heap.get? b = some o := fun b hb => hlive 0 _ hst b hb
  have al : ∀ b ∈ wr, Alien (compX scope cl (D + 1) env) (newCells scope (D + 1)) [] g2 s1.heap b ∧ b ≠ D := fun b hb => by
    obtain ⟨o, ho⟩ := lv2 b hb
    have hlt : b < D := by rw [← hD]; exact Heap.lt_size ho
    have hnew : b ∉ newCells scope (D + 1) := fun q => by
      obtain ⟨p, hp, rfl⟩ := List.mem_map.mp q
      exact Nat.not_lt.mpr (Nat.le_trans (Nat.le_add_right D 2) (ok.empty p.1 p.2 hp).2) hlt
    refine ⟨⟨(hwr b hb).2, (hwr b hb).1, fun q => ?_, fun q => ?_, fun q => ?_, hnew, by simp⟩, Nat.ne_of_lt hlt⟩
    · obtain ⟨ps, e, _⟩ := V1.hp.tab
      rw [← q, (hwr b hb).1] at e; cases e
    · have q : b = D + 1 := q
      exact Nat.not_lt.mpr (Nat.le_add_right D 1) (q ▸ hlt)
    · have q : b ∈ (cellsFrom (D + 1 + 1) scope.names cl).map (·.2) := q
      rw [hcells, List.map_append] at q
      rcases List.mem_append.mp q with q | q
      · exact hnew q
      · obtain ⟨p, hp, rfl⟩ := List.mem_map.mp q
        obtain ⟨d, h1, h2, h3⟩ := hC.mem hp
        obtain ⟨m, _, bb⟩ := V1.ns
        rcases bb _ _ h1 with ⟨q, _⟩ | ⟨_, c, v, hc, ⟨o, ho, _⟩, r⟩
        · rw [h2] at q; cases q
        · rw [h3] at hc; cases hc; rw [(hwr _ hb).1] at ho; cases ho
  have hkX : (compX scope cl (D + 1) env).scope.kind = .function := hkind
  have loop : codeAny C.M A (.compLoop (.ListComp elt [⟨.Name x px, iter, ifs, 0⟩] scope pos) 0 (.ref It) (.ref D) (compX scope cl (D + 1) env)) (RR (.ref D) (D + 1)) { s2 with heap := h3 } := by
    refine codeAny_compLoop_tests (fun n s => ∃ i g, n = ds.length - i ∧ i ≤ ds.length ∧ St C g1 s1.heap (compX scope cl (D + 1) env) (newCells scope (D + 1)) [(D, ((ds.take i).filter p).map F)] σ' g s ∧ W i s.heap ∧
      (∀ b ∈ wr, g b = none) ∧ (∀ b o, g2 b = some o → g b = some o)) ?_ ds.length ⟨0, g2, rfl, Nat.zero_le _, S4, Wk.frame 0 _ _ hst fun b _ o e => kp b o e, fun b hb => (al b hb).1.g, fun _ _ e => e⟩
    rintro n s ⟨i, g, rfl, hil, S, hst, hal, hup⟩
    have hal' : ∀ b ∈ wr, Alien (compX scope cl (D + 1) env) (newCells scope (D + 1)) [(D, ((ds.take i).filter p).map F)] g s1.heap b := fun b hb => let y := (al b hb).1; ⟨hal b hb, y.H, y.n8, y.nL, y.nc, y.no, by simpa using (al b hb).2⟩
    by_cases hlt : i < ds.length
    · refine Wk.item i s _ _ hlt hst fun v h' tk hPv hst' hkp => ?_
      obtain ⟨d, hd, rd⟩ := hP i v hPv
      have S' := S.other tk hkp hal'
      have lv : ∀ b ∈ wr, ∃ o, h'.get? b = some o := fun b hb => hlive _ _ hst' b hb
      have hs' : ds.take (i + 1) = ds.take i ++ [d] := by rw [List.take_add_one, hd]; rfl
      show wpAny C.M A (assign (.Name x px) (compX scope cl (D + 1) env) v) _ _ _
      refine wpAny_assign_Name (S'.rebase.store hkX (hx _) (rd.mono hup) fun s5 S5 => ?_)
      refine ht (D + 1) i d hd g s5 _ _ S5.vars fun g6 s6 G6 => ?_
      have S6 := S5.grow G6
      have back : ∀ {s7 : Shared} {g7 : Fz} {l : List Mine.D}, St C g (hideAll h' (hid (compX scope cl (D + 1) env) (newCells scope (D + 1)) [(D, ((ds.take i).filter p).map F)])) (compX scope cl (D + 1) env) (newCells scope (D + 1)) [(D, l)] ((x, d) :: σ') g7 s7 → l = ((ds.take (i + 1)).filter p).map F →
          ∃ m, m < ds.length - i ∧ ∃ i' g, m = ds.length - i' ∧ i' ≤ ds.length ∧ St C g1 s1.heap (compX scope cl (D + 1) env) (newCells scope (D + 1)) [(D, ((ds.take i').filter p).map F)] σ' g s7 ∧ W i' s7.heap ∧ (∀ b ∈ wr, g b = none) ∧ (∀ b o, g2 b = some o → g b = some o) := by
        intro s7 g7 l S7 el
        subst el
        have S8 := (S'.back S7).weaken (σ' := σ') fun y d' e => by
          rw [List.lookup_cons]
          cases hb : y == x with
          | true => rw [eq_of_beq hb, hxσ] at e; cases e
          | false => exact e
        refine ⟨ds.length - (i + 1), by omega, i + 1, g7, rfl, by omega, S8, ?_, fun b hb => ?_, fun b o e => S7.up b o (hup b o e)⟩
        · refine Wk.frame (i + 1) h' s7.heap hst' fun b hb o e => ?_
          rcases hfp b hb with hb | ⟨o', e'⟩
          · exact S7.kept b o (hideAll_get _ e (hal' b hb).hid) (hal' b hb).n8
          · have e2 : h'.get? b = some o' := S'.vars.hp.sub b o' (hup b o' e')
            rw [e] at e2; cases e2
            exact S7.vars.hp.sub b o (S7.up b o (hup b o e'))
        · obtain ⟨o, ho⟩ := lv b hb
          have ho := hideAll_get _ ho (hal' b hb).hid
          cases q : g7 b with
          | none => rfl
          | some o' => rcases S7.new b o' q with h | h
                       · rw [hal b hb] at h; cases h
                       · rw [show (hideAll h' _).get? b = none from h] at ho; cases ho
      cases hp : p d with
      | false =>
        simp only [Bool.false_eq_true, if_false]
        exact back S6 (by rw [hs', List.filter_append]; simp [hp])
      | true =>
        simp only [if_true]
        refine he (D + 1) i d hd hp g6 s6 _ _ S6.vars fun y g7 s7 G7 r7 => ?_
        have S7 := S6.grow G7
        obtain ⟨⟨us, k', e1, e4⟩, h1, h2⟩ := S7.om (D, _) (.head _)
        have hus : us.length ≤ sizeLine := by
          rw [e4.length, List.length_map]
          exact Nat.le_trans (List.length_filter_le _ _) (Nat.le_trans (by rw [List.length_take]; omega) hsz)
        refine wpAny_list_append_plain ⟨k', e1⟩ (fun h9 ⟨n', hp9⟩ hsb => ?_) (by rw [List.size_toArray]; exact hus)
        have e : us.toArray.push y = (us ++ [y]).toArray := by simp
        rw [e] at hp9
        exact back (S7.turnL (ω₁ := []) hsb hp9 (e4.append (.cons r7 .nil))) (by rw [hs', List.filter_append, List.map_append]; simp [hp])
    · have hie : i = ds.length := by omega
      subst hie
      refine Wk.done s _ _ hst fun h' tk hkp => ?_
      have S' := S.other tk hkp hal'
      rw [List.take_length] at S'
      obtain ⟨g', G', r', m', n', nl'⟩ := S'.thaw rfl
      exact k D (D + 1) m' g' _ G' r' n' (n1 _ (Nat.le_add_right _ _)) nl'
  exact codeAny_compStart_list loop (Wk.self 0 _ _ _ (Wk.frame 0 _ _ hst fun b _ o e => kp b o e) loop)
end

section
variable {C : Cx} {A : Around} {env : Env} {own : List Addr} {ω : Om} {σ σ' : Sg} {Ψ : Post}

theorem ev_comp {elt iter : Expr} {x : Str} {px pos : Pos} {ifs : List Expr} {scope : Scope} {cl : List (Str × Addr)} {d : D} {ds : List D} (p : D → Bool) (F : D → D)
    (hit : Ev C A env σ iter d) (hi : Itr C A d ds) (hsz : ds.length ≤ sizeLine) (hclos : closureFor scope env = pure cl) (hC : Caught scope env σ cl σ') (hnd : (cl.map (·.2)).Nodup) (hfr : ∀ y ∈ cl.map (·.1), y ∉ (cellsFrom 0 scope.names []).map (·.1)) (hxσ : σ'.lookup x = none) (hkind : scope.kind = .function)
    (hnames : ∀ y ∈ scope.names, y.2 = .local → scope.names.lookup y.1 = some .local)
    (hx : ∀ L, Storable (compX scope cl L env) (newCells scope L) x)
    (ht : ∀ L (i : Nat) d, ds[i]? = some d → EvI C A (compX scope cl L env) ((x, d) :: σ') ifs (p d)) (he : ∀ L (i : Nat) d, ds[i]? = some d → p d = true → Ev C A (compX scope cl L env) ((x, d) :: σ') elt (F d))
    (hs : ∀ x, foldedSetIterable iter env x = pure x := by intro _; rfl) :
    Ev C A env σ (.ListComp elt [⟨.Name x px, iter, ifs, 0⟩] scope pos) (.list ((ds.filter p).map F)) := fun g s Q E V q => by
  rw [eval_ListComp]
  refine wpAny_comprehension_free (use := none) rfl hs hclos hkind hnames (hit g s _ E V fun v g1 s1 G1 r1 => comp_core (RR := fun acc L => compPost C.M A E none Q acc L) hi hsz hC hnd hfr hxσ hkind hx (V.grow G1) r1 ht he fun D L m g' s' G r n nl1 nl2 => ⟨m, n, fun h' hs' => ?_⟩)
  have h8 : L ≠ 128 := fun q8 => by
    obtain ⟨ps, e, _⟩ := G1.hp.tab
    rw [← q8, nl1] at e; cases e
  refine q _ _ _ (G1.trans ⟨G.hp.turn s'.toks hs' nl2 h8, G.up, G.new, fun b o e hb => ?_⟩) r
  exact (hs'.2 b (fun q => by rw [q, nl1] at e; cases e)).trans (G.kept b o e hb)

theorem ex_comp {elt iter : Expr} {x y : Str} {px py pos spos : Pos} {ifs : List Expr} {scope : Scope} {cl : List (Str × Addr)} {d : D} {ds : List D} (p : D → Bool) (F : D → D)
    (hit : Ev C A env σ iter d) (hi : Itr C A d ds) (hsz : ds.length ≤ sizeLine) (hclos : closureFor scope env = pure cl) (hC : Caught scope env σ cl σ') (hnd : (cl.map (·.2)).Nodup) (hfr : ∀ y ∈ cl.map (·.1), y ∉ (cellsFrom 0 scope.names []).map (·.1)) (hxσ : σ'.lookup x = none) (hkind : scope.kind = .function)
    (hnames : ∀ y ∈ scope.names, y.2 = .local → scope.names.lookup y.1 = some .local)
    (hx : ∀ L, Storable (compX scope cl L env) (newCells scope L) x)
    (ht : ∀ L (i : Nat) d, ds[i]? = some d → EvI C A (compX scope cl L env) ((x, d) :: σ') ifs (p d)) (he : ∀ L (i : Nat) d, ds[i]? = some d → p d = true → Ev C A (compX scope cl L env) ((x, d) :: σ') elt (F d))
    (h : Ψ .next ω ((y, .list ((ds.filter p).map F)) :: σ))
    (hy : Storable env own y := by exact .inl rfl) (hk : env.scope.kind = .function := by rfl)
    (hsw : swapsWith (.ListComp elt [⟨.Name x px, iter, ifs, 0⟩] scope pos) (some (.Name y py)) spos.line env = pure true := by rfl)
    (hs : ∀ x, foldedSetIterable iter env x = pure x := by intro _; rfl) :
    Ex1 C A env own ω σ (.Assign [.Name y py] (.ListComp elt [⟨.Name x px, iter, ifs, 0⟩] scope pos) spos) Ψ := fun g₀ H₀ g s Q E S q => by
  rw [exec_Assign_Name_used _ _ _ _ hsw]
  refine wpAny_bind (wpAny_standAt (wpAny_bind ?_))
  show wpAny _ A (do let _ ← comprehension (.ListComp elt [⟨.Name x px, iter, ifs, 0⟩] scope pos) scope env _ (newList []) false (eval iter env) (some (assign (.Name y py) env))) _ _ s
  refine wpAny_bind (wpAny_mono (Q := fun _ s' => Q .next s') ?_ (fun _ s' hq => wpAny_pure (wpAny_pure hq)) fun _ _ e => e)
  refine wpAny_comprehension_free rfl hs hclos hkind hnames (hit g s _ E S.vars fun v g1 s1 G1 r1 => comp_core (RR := fun acc L => compPost C.M A E (some (assign (.Name y py) env)) (fun _ s' => Q .next s') acc L) hi hsz hC hnd hfr hxσ hkind hx (S.vars.grow G1) r1 ht he fun D L m g' s' G r n nl1 nl2 => ?_)
  have S1 := S.grow G1
  have al := S1.alien nl1
  have S2 := S1.grow G
  have al2 : Alien env own ω g' H₀ L := ⟨nl2, al.H, al.n8, al.nL, al.nc, al.no, al.nw⟩
  show wpAny C.M A (assign (.Name y py) env (.ref D)) _ E s'
  refine wpAny_assign_Name (S2.rebase.store hk hy r fun s'' S3 => ?_)
  have S4 := S2.back S3
  have n' : s''.heap.Ns L m := by
    obtain ⟨o, es, ep, e, r⟩ := n
    exact ⟨o, es, ep, S3.kept L o (hideAll_get _ e al2.hid) al2.n8, r⟩
  refine ⟨m, n', fun h' hs' => q _ _ _ _ _ _ .next (S4.other (wr := [L]) s''.toks (fun b o hb e => (hs'.2 b (fun q => hb (by simp [q]))).trans e) (fun b hb => ?_)) h⟩
  simp at hb; subst hb; exact al2
end

-- the walk of expressions
local macro_rules | `(tactic| walk_at "side") => `(tactic| first | with_reducible assumption | omega | (simp only [List.length_map]; omega) | (simp; omega) | (simp only [PySem.sizeLine_eq, List.length_cons, List.length_nil, List.length_append, List.length_map, List.length_replicate]; omega) | decide)
local macro_rules | `(tactic| walk_at "prim") => `(tactic| first
  | (with_reducible first | exact p_add | exact p_sub | exact p_neg | exact p_lt | exact p_le | exact p_gt | exact p_ge | exact p_eq | exact p_ltb | exact p_eqs | exact p_not)
  | ((with_reducible refine p_mul ?_); first | exact IntMulOk.of_left (intBits_le_64 (by omega) (by omega)) | exact IntMulOk.of_right (intBits_le_64 (by omega) (by omega)) | with_reducible assumption)
  | ((with_reducible first | apply p_mod | apply p_div | apply p_adds | apply p_muls | apply p_addl | apply p_mull) <;> walk_at "side"))
local macro_rules | `(tactic| walk_at "fill") => `(tactic| first | rfl | assumption)
local macro_rules | `(tactic| walk_at "gname") => `(tactic| ((with_reducible first | refine ev_b_len ?_ ?_ ?_ ?_ ?_ | refine ev_b_max ?_ ?_ ?_ ?_ ?_ | refine ev_b_min ?_ ?_ ?_ ?_ ?_ | refine ev_b_sum ?_ ?_ ?_ ?_ ?_ | refine ev_b_range ?_ ?_ ?_ ?_ ?_ | refine ev_b_list ?_ ?_ ?_ ?_ ?_ | refine ev_b_tuple ?_ ?_ ?_ ?_ ?_ | refine ev_g_Whitespace ?_ ?_ ?_ ?_ | refine ev_g_bisect_left ?_ ?_ ?_ ?_ | refine ev_g_bisect_right ?_ ?_ ?_ ?_ | refine ev_g_law_lead ?_ ?_ ?_ ?_ | refine ev_g_law_column ?_ ?_ ?_ ?_ | refine ev_g_law_plain ?_ ?_ ?_ ?_ | refine ev_g_law_room ?_ ?_ ?_ ?_ | refine ev_g_law_touching ?_ ?_ ?_ ?_) <;> walk_at "fill"))
local macro_rules | `(tactic| walk_at "name") => `(tactic| first | exact ev_var (by rfl) | walk_at "gname")
local macro_rules | `(tactic| walk_at "ev") => `(tactic| first
  | ((with_reducible show Ev _ _ _ _ (Expr.Name _ _) _); walk_at "name")
  | ((with_reducible show Ev _ _ _ _ (Expr.Constant _ _ _) _); with_reducible first | exact ev_int | exact ev_str | exact ev_bool | exact ev_none)
  | ((with_reducible show Ev _ _ _ _ (Expr.BinOp _ _ _ _) _); exact ev_bin (by walk_at "ev") (by walk_at "ev") (by walk_at "prim"))
  | ((with_reducible show Ev _ _ _ _ (Expr.UnaryOp _ _ _) _); exact ev_un (by walk_at "ev") (by walk_at "prim"))
  | ((with_reducible show Ev _ _ _ _ (Expr.Compare _ _ _ _) _); exact ev_cmp (by walk_at "ev") (by walk_at "ev") (by walk_at "prim"))
  | ((with_reducible show Ev _ _ _ _ (Expr.Attribute _ _ _) _); exact ev_attrI (by assumption) (by walk_at "ev") (by rfl) (by rfl) (by rfl) (by rfl) (by rfl) (by rfl))
  | ((with_reducible show Ev _ _ _ _ (Expr.Call (Expr.Name _ _) _ _ _) _); first
    | exact ev_callB (by walk_at "name") (by walk_at "evl") (by walk_at "call")
    | exact ev_callT (by walk_at "name") (by walk_at "evl") (by walk_at "call")
    | exact ev_call (by assumption) (by walk_at "name") (by rfl) (by walk_at "evl") (by walk_at "call") ⟨_, _, rfl, rfl, rfl⟩)
  | ((with_reducible show Ev _ _ _ _ (Expr.Call (Expr.Attribute _ _ _) _ _ _) _); exact ev_method (by assumption) (by walk_at "ev") (by decide) (by rfl) (by rfl) (by rfl) (by rfl) (by walk_at "evl") (by walk_at "call"))
  | ((with_reducible show Ev _ _ _ _ (Expr.Tuple _ _ _) _); exact ev_tuple (by walk_at "evl") (by walk_at "side"))
  | ((with_reducible show Ev _ _ _ _ (Expr.List _ _) _); exact ev_list (by walk_at "evl") (by walk_at "side")))
local macro_rules | `(tactic| walk_at "evl") => `(tactic| first | with_reducible exact evL_nil | exact evL_cons (by walk_at "ev") (by walk_at "evl"))
local macro_rules | `(tactic| walk_at "evt") => `(tactic| first
  | ((with_reducible show EvT _ _ _ _ (Expr.Compare _ _ _ _) _); exact evT_cmp (by walk_at "ev") (by walk_at "ev") (by walk_at "prim"))
  | exact evT_val (by walk_at "ev"))
local macro_rules | `(tactic| walk_at "call") => `(tactic| first
  | ((with_reducible refine p_max2 ?_); assumption) | with_reducible exact p_range1 | with_reducible exact p_range2
  | ((with_reducible refine p_len ?_); walk_at "side") | ((with_reducible refine p_len_tup ?_); walk_at "side"))

section
variable {C : Cx} {A : Around} {env : Env} {own : List Addr} {ω : Om} {σ : Sg} {Ψ : Post}

noncomputable abbrev wsN : List Str := [Str.ofString "raw", Str.ofString "n", Str.ofString "nt", Str.ofString "norm", Str.ofString "is_simple"]
/-- a Whitespace -/
noncomputable abbrev wsD (raw : Str) (n nt : Int) (cnt : List Int) (b : Int) : D := .inst 83 wsN [.str raw, .int n, .int nt, .tup [.tup (cnt.map .int), .int b], .bool (decide ((cnt.length : Int) ≤ 1))]

theorem longest_ok (O : C.OK) (R : Room A 1) {raw : Str} {n nt b : Int} {cnt : List Int} (hl : (cnt.length : Int) < 2 ^ 62) :
    CallV C A (.ref 45) [wsD raw n nt cnt b] (.int (max ((cnt.length : Int) - 1) b)) := by
  refine callV_K (xs := [Str.ofString "self"]) O R (by rfl) (by rfl) (by rfl) (by rfl) (fun vs h => ?_) (by decide) (by decide) (fun L A R => ?_)
  · obtain ⟨v, rfl⟩ := List.length_eq_one_iff.mp h
    rfl
  · have hh := R.handled
    refine ex_cons (ex_unpack2 hh (by walk_at "ev") ?_)
    refine ex_cons (ex_ret (by walk_at "ev") ?_)
    simp [Ends]
end

section
variable {C : Cx} {A : Around} {env : Env} {own : List Addr} {ω : Om} {σ : Sg} {Ψ : Post}

/-- the inner sum of indent_level -/
noncomputable def ilF (cnt : List Int) (ts : Int) (is : List Int) : Int := is.foldl (fun il i => il + i.fdiv ts * cnt.getD i.toNat 0) 0
noncomputable def indentF (cnt : List Int) (nt b ts : Int) : Int := b + ts * (ilF cnt ts (upto ts cnt.length) + nt)

theorem upto_get {lo hi : Int} {i : Nat} {d : D} (h : ((upto lo hi).map D.int)[i]? = some d) : d = .int (lo + i) ∧ lo + i < hi ∧ (upto lo hi).take (i + 1) = (upto lo hi).take i ++ [lo + (i : Int)] := by
  have h1 : i < (hi - lo).toNat := by
    by_cases q : i < (hi - lo).toNat
    · exact q
    · rw [List.getElem?_eq_none (by simp [upto]; omega)] at h; cases h
  have h2 : (upto lo hi)[i]? = some (lo + (i : Int)) := by simp [upto, h1]
  refine ⟨?_, by omega, ?_⟩
  · rw [List.getElem?_map, h2] at h; cases h; rfl
  · rw [List.take_add_one, h2]; rfl
theorem upto_len {lo hi : Int} : (upto lo hi).length = (hi - lo).toNat := by simp [upto]

theorem ilF_snoc (cnt : List Int) (ts : Int) (is : List Int) (i : Int) : ilF cnt ts (is ++ [i]) = ilF cnt ts is + i.fdiv ts * cnt.getD i.toNat 0 := by simp [ilF]
theorem ints_at {ns : List Int} {i : Nat} (h : i < ns.length) : (ns.map D.int)[i]? = some (.int (ns.getD i 0)) := by simp [h]
theorem fdiv_bound {a b : Int} (ha : 0 ≤ a) (hb : 1 ≤ b) (hu : a < 2 ^ 24) : 0 ≤ a.fdiv b ∧ a.fdiv b < 2 ^ 24 := by
  rw [Int.fdiv_eq_ediv_of_nonneg _ (by omega)]
  have h1 : 0 ≤ a / b := Int.ediv_nonneg ha (by omega)
  have h2 : a / b ≤ a := Int.ediv_le_self _ ha
  omega

theorem indent_ok (O : C.OK) (R : Room A 1) {raw : Str} {n nt b ts : Int} {cnt : List Int} (hl : cnt.length < 2 ^ 24) (h1 : 1 ≤ ts) (h2 : ts < 2 ^ 24) :
    CallV C A (.ref 52) [wsD raw n nt cnt b, .int ts] (.int (indentF cnt nt b ts)) := by
  refine callV_K (xs := [Str.ofString "self", Str.ofString "tabsize"]) O R (by rfl) (by rfl) (by rfl) (by rfl) (fun vs h => ?_) (by decide) (by decide) (fun L A R => ?_)
  · obtain ⟨v, u, rfl⟩ := two_of h
    rfl
  · have hh := R.handled
    refine ex_cons (ex_unpack2 hh (by walk_at "ev") ?_)
    refine ex_cons (ex_assign (by walk_at "ev") ?_)
    refine ex_cons (ex_for (by walk_at "ev") (itr_rng hh (small_one (by omega) (by omega) (by omega) (by simp; omega)))
      (fun k ω σ => ω = [] ∧ Sub [(Str.ofString "il", .int (ilF cnt ts ((upto ts (cnt.map D.int).length).take k))), (Str.ofString "count", .tup (cnt.map D.int)), (Str.ofString "tabsize", .int ts), (Str.ofString "trailing", .int b), (Str.ofString "self", wsD raw n nt cnt b)] σ)
      ⟨rfl, .cons rfl (.cons rfl (.cons rfl (.cons rfl (.cons rfl .nil))))⟩ ?_ ?_)
    · rintro k d ω σ hd ⟨rfl, hσ⟩
      obtain ⟨rfl, hk, ht⟩ := upto_get hd
      rw [List.length_map] at hk
      refine Ex.weaken ?_ hσ.push
      have hb := fdiv_bound (a := ts + k) (b := ts) (by omega) h1 (by omega)
      refine ex_cons (ex_assign (Ev.to (ev_bin (by walk_at "ev") (ev_bin (by walk_at "ev") (ev_itemT (by walk_at "ev") (by walk_at "ev") (by omega) (by omega) (ints_at (by omega))) (by walk_at "prim")) (by walk_at "prim"))
        (congrArg D.int ((ilF_snoc cnt ts _ _).symm.trans (congrArg (ilF cnt ts) ht.symm)))) ?_)
      exact ex_nil ⟨rfl, .cons rfl (.cons rfl (.cons rfl (.cons rfl (.cons rfl .nil))))⟩
    · rintro ω σ ⟨rfl, hσ⟩
      refine Ex.weaken ?_ hσ
      refine ex_cons (ex_ret (by walk_at "ev") ?_)
      simp only [Ends, indentF, List.length_map, List.take_length]
end

local macro_rules | `(tactic| walk_at "call") => `(tactic| first
  | ((with_reducible refine longest_ok ?_ ?_ ?_) <;> first | with_reducible assumption | exact Room.less (by assumption) (by decide) | walk_at "side")
  | ((with_reducible refine indent_ok ?_ ?_ ?_ ?_ ?_) <;> first | with_reducible assumption | exact Room.less (by assumption) (by decide) | walk_at "side"))
section
variable {C : Cx} {A : Around} {env : Env} {own : List Addr} {ω : Om} {σ : Sg} {Ψ : Post}

/-- a Whitespace's data -/
structure Wd where
  raw : Str
  n : Int
  nt : Int
  cnt : List Int
  b : Int
noncomputable abbrev Wd.d (w : Wd) : D := wsD w.raw w.n w.nt w.cnt w.b
noncomputable def Wd.at (w : Wd) (ts : Int) : Int := indentF w.cnt w.nt w.b ts
noncomputable def Wd.long (w : Wd) : Int := max ((w.cnt.length : Int) - 1) w.b
noncomputable def Wd.simple (w : Wd) : Bool := decide ((w.cnt.length : Int) ≤ 1)
structure Wd.ok (w : Wd) : Prop where
  len : w.cnt.length < 2 ^ 20
  b : w.b < 2 ^ 20

noncomputable def lessF (v w : Wd) : Bool :=
  if v.n ≥ w.n then false
  else if v.simple && w.simple then decide (v.nt ≤ w.nt)
  else (upto 2 (max v.long w.long + 1 + 1)).all fun ts => !decide (v.at ts ≥ w.at ts)

theorem upto_mem {lo hi x : Int} : x ∈ upto lo hi ↔ lo ≤ x ∧ x < hi := by
  simp only [upto, List.mem_map, List.mem_range]
  constructor
  · rintro ⟨i, hi, rfl⟩; omega
  · rintro ⟨h1, h2⟩; exact ⟨(x - lo).toNat, by omega, by omega⟩

theorem less_ok (O : C.OK) (R : Room A 2) (v w : Wd) (hv : v.ok) (hw : w.ok) : CallV C A (.ref 73) [v.d, w.d] (.bool (lessF v w)) := by
  obtain ⟨raw, n, nt, cnt, b⟩ := v
  obtain ⟨raw', n', nt', cnt', b'⟩ := w
  obtain ⟨v1, v2⟩ := hv
  obtain ⟨w1, w2⟩ := hw
  simp only at v1 v2 w1 w2
  simp only [Wd.d]
  refine callV_K (xs := [Str.ofString "self", Str.ofString "other"]) O R (by rfl) (by rfl) (by rfl) (by rfl) (fun vs h => ?_) (by decide) (by decide) (fun L A R => ?_)
  · obtain ⟨v, u, rfl⟩ := two_of h
    rfl
  · have hh := R.handled
    refine ex_cons (ex_if (by walk_at "evt") (fun h1 => ?_) (fun h1 => ex_nil ?_))
    · refine ex_cons (ex_ret (by walk_at "ev") ?_)
      simp only [decide_eq_true_eq] at h1
      simp [Ends, lessF, h1]
    simp only [decide_eq_false_iff_not] at h1
    refine ex_cons (ex_if (evT_and (evT_val (by walk_at "ev")) (fun _ => evT_val (by walk_at "ev"))) (fun h2 => ?_) (fun h2 => ex_nil ?_))
    · refine ex_cons (ex_ret (by walk_at "ev") ?_)
      simp only [Ends, lessF, Wd.simple, if_neg h1, h2, if_true]
    refine ex_cons (ex_assign (by walk_at "ev") ?_)
    have hm1 : max (max ((cnt.length : Int) - 1) b) (max ((cnt'.length : Int) - 1) b') + 1 + 1 < 2 ^ 24 := by omega
    refine ex_cons (ex_for (by walk_at "ev") (itr_rng hh (small_one (by omega) (by omega) (by omega) (by omega)))
      (fun k ω σ => ω = [] ∧ (∀ ts, 2 ≤ ts → ts < 2 + (k : Int) → ¬ indentF cnt nt b ts ≥ indentF cnt' nt' b' ts) ∧ Sub [(Str.ofString "self", wsD raw n nt cnt b), (Str.ofString "other", wsD raw' n' nt' cnt' b')] σ)
      ⟨rfl, (fun ts h1 h2 => by omega), .cons rfl (.cons rfl .nil)⟩ ?_ ?_)
    · rintro k d ω σ hd ⟨rfl, hI, hσ⟩
      obtain ⟨rfl, hk, ht⟩ := upto_get hd
      refine Ex.weaken ?_ hσ.push
      refine ex_cons (ex_if (by walk_at "evt") (fun h3 => ?_) (fun h3 => ex_nil (ex_nil ?_)))
      · refine ex_cons (ex_ret (by walk_at "ev") ?_)
        simp only [decide_eq_true_eq] at h3
        simp only [Ends, lessF, if_neg h1, Wd.simple, h2, Bool.false_eq_true, if_false]
        refine congrArg D.bool (Eq.symm ?_)
        rw [List.all_eq_false]
        exact ⟨2 + (k : Int), upto_mem.mpr ⟨by omega, by simpa [Wd.long] using hk⟩, by simpa [Wd.at] using h3⟩
      · simp only [decide_eq_false_iff_not] at h3
        refine ⟨rfl, fun ts h1 h2 => ?_, .cons rfl (.cons rfl .nil)⟩
        by_cases q : ts < 2 + (k : Int)
        · exact hI ts h1 q
        · have : ts = 2 + (k : Int) := by push_cast at h2; omega
          rw [this]; exact h3
    · rintro ω σ ⟨rfl, hI, hσ⟩
      refine ex_cons (ex_ret (by walk_at "ev") ?_)
      simp only [Ends, lessF, if_neg h1, Wd.simple, h2, Bool.false_eq_true, if_false]
      refine congrArg D.bool (Eq.symm ?_)
      rw [List.all_eq_true]
      intro ts hts
      have hts := upto_mem.mp hts
      have := hI ts hts.1 (by simp only [Wd.long, List.length_map, upto_len] at hts ⊢; omega)
      simpa [Wd.at] using this

/-- what not_less_witness gives -/
noncomputable def witF (v w : Wd) : List (Int × Int × Int) := ((upto 1 (max v.long w.long + 1 + 1)).filter fun ts => decide (v.at ts ≥ w.at ts)).map fun ts => (ts, v.at ts, w.at ts)
noncomputable def tri (p : Int × Int × Int) : D := .tup [.int p.1, .int p.2.1, .int p.2.2]

theorem wit_ok (O : C.OK) (R : Room A 2) (v w : Wd) (hv : v.ok) (hw : w.ok) : CallV C A (.ref 80) [v.d, w.d] (.list ((witF v w).map tri)) := by
  obtain ⟨raw, n, nt, cnt, b⟩ := v
  obtain ⟨raw', n', nt', cnt', b'⟩ := w
  obtain ⟨v1, v2⟩ := hv
  obtain ⟨w1, w2⟩ := hw
  simp only at v1 v2 w1 w2
  simp only [Wd.d]
  refine callV_K (xs := [Str.ofString "self", Str.ofString "other"]) O R (by rfl) (by rfl) (by rfl) (by rfl) (fun vs h => ?_) (by decide) (by decide) (fun L A R => ?_)
  · obtain ⟨v, u, rfl⟩ := two_of h
    rfl
  · have hh := R.handled
    refine ex_cons (ex_assign (by walk_at "ev") ?_)
    refine ex_cons (ex_own (by walk_at "evl") (by walk_at "side") fun a => ?_)
    have hm1 : max (max ((cnt.length : Int) - 1) b) (max ((cnt'.length : Int) - 1) b') + 1 + 1 < 2 ^ 24 := by omega
    generalize hN : max (max ((cnt.length : Int) - 1) b) (max ((cnt'.length : Int) - 1) b') + 1 + 1 = N at hm1
    refine ex_cons (ex_for (d := .rng 1 N) (Ev.to (by walk_at "ev") (by rw [hN])) (itr_rng hh (small_one (by omega) (by omega) (by omega) (by omega)))
      (fun k ω σ => ω = [(a, ((((upto 1 N).take k).filter fun ts => decide (indentF cnt nt b ts ≥ indentF cnt' nt' b' ts)).map fun ts => tri (ts, indentF cnt nt b ts, indentF cnt' nt' b' ts)))] ∧
        Sub [(Str.ofString "a", .raw (.ref a)), (Str.ofString "self", wsD raw n nt cnt b), (Str.ofString "other", wsD raw' n' nt' cnt' b')] σ)
      ⟨rfl, .cons rfl (.cons rfl (.cons rfl .nil))⟩ ?_ ?_)
    · rintro k d ω σ hd ⟨rfl, hσ⟩
      obtain ⟨rfl, hk, ht⟩ := upto_get hd
      refine Ex.weaken ?_ hσ.push
      refine ex_cons (ex_if (by walk_at "evt") (fun h3 => ?_) (fun h3 => ex_nil (ex_nil ?_)))
      · refine ex_cons (ex_append (ω₁ := []) (ω₂ := []) (by rfl) (by walk_at "ev") ?_ (ex_nil (ex_nil ⟨?_, .cons rfl (.cons rfl (.cons rfl .nil))⟩)))
        · have h5 := List.length_filter_le (fun ts => decide (indentF cnt nt b ts ≥ indentF cnt' nt' b' ts)) ((upto 1 N).take k)
          have h6 := List.length_take_le k (upto 1 N)
          rw [List.length_map, PySem.sizeLine_eq]
          omega
        · rw [ht, List.filter_append, List.map_append]
          simp [h3, tri]
      · refine ⟨?_, .cons rfl (.cons rfl (.cons rfl .nil))⟩
        rw [ht, List.filter_append, List.map_append]
        simp [h3]
    · rintro ω σ ⟨rfl, hσ⟩
      refine Ex.weaken ?_ hσ
      refine ex_freeze (x := Str.ofString "a") (by rfl) ?_
      refine ex_cons (ex_ret (by walk_at "ev") ?_)
      simp only [Ends, witF, Wd.long, hN, List.length_map, List.take_length, List.map_map]
      rfl
end

section
open PySem.SeqAt
section
variable {C : Cx} {A : Around} {env : Env} {own : List Addr} {ω : Om} {σ σ' : Sg} {Ψ : Post}

theorem all_eq {α : Type} [BEq α] [LawfulBEq α] {xs ys : List α} (h : xs.length = ys.length) : (List.range xs.length).all (fun j => xs[j]? == ys[j]?) = (xs == ys) := by
  rw [Bool.eq_iff_iff, List.all_eq_true, beq_iff_eq]
  constructor
  · intro q
    apply List.ext_getElem? 
    intro i
    by_cases hi : i < xs.length
    · simpa using q i (by simpa using hi)
    · rw [List.getElem?_eq_none (by omega), List.getElem?_eq_none (by omega)]
  · intro q; subst q; simp

/-- an item's sameness -/
noncomputable def EqI (C : Cx) (A : Around) {α : Type} [BEq α] (f : α → D) : Prop := ∀ g s v u x y, Hp C g s → Rep g v (f x) → Rep g u (f y) → EqAt A s v u (x == y)
theorem eqI_int : EqI C A D.int := fun g s v u x y H r1 r2 => by cases r1 using Rep.cint; cases r2 using Rep.cint; exact EqAt.int_int _ _ _ _
theorem ints_inj {vs : List Value} {ns : List Int} (h : IntsAre vs ns) : ∀ {ms : List Int}, IntsAre vs ms → ns = ms := by
  induction h with
  | nil => intro ms k; cases k; rfl
  | cons n t h ih => intro ms k; cases k with | cons _ _ k => rw [ih k]
theorem tri_of {g : Fz} {v : Value} {x : Int × Int × Int} (r : Rep g v (tri x)) : ∃ (a : Addr) (vs : List Value) (n : Nat), v = .ref a ∧ g a = some { cls := .type "tuple", data := .seq vs.toArray n } ∧ IntsAre vs [x.1, x.2.1, x.2.2] := by
  cases r using Rep.ctup with
  | tup a vs n e1 e4 => exact ⟨a, vs, n, rfl, e1, RepL.ints (ns := [x.1, x.2.1, x.2.2]) e4⟩
theorem all3_eq (a b c a' b' c' : Int) : ((List.range (min 3 3)).all (fun j => [a, b, c].getD j 0 == [a', b', c'].getD j 0) && 3 == 3) = ([a, b, c] == [a', b', c']) := by
  show (((a == a') && ((b == b') && ((c == c') && true))) && true) = ((a == a') && ((b == b') && ((c == c') && true)))
  rw [Bool.and_true]
theorem eqI_tri (hu : A.units < cLine) : EqI C A tri := fun g s v u x y H r1 r2 => by
  obtain ⟨a, vs, n, rfl, e1, e4⟩ := tri_of r1
  obtain ⟨b, us, m, rfl, f1, f4⟩ := tri_of r2
  have hx : (x == y) = ([x.1, x.2.1, x.2.2] == [y.1, y.2.1, y.2.2]) := by
    rw [Bool.eq_iff_iff, beq_iff_eq, beq_iff_eq]
    constructor
    · rintro rfl; rfl
    · intro e
      injection e with e1 e; injection e with e2 e; injection e with e3 _
      exact Prod.ext e1 (Prod.ext e2 e3)
  rw [hx]
  by_cases hab : a = b
  · subst hab
    rw [e1] at f1
    have hv : vs = us := by
      injection f1 with f1; injection f1 with _ _ f1 _; injection f1 with f1 _
      simpa using f1
    subst hv
    rw [ints_inj e4 f4, beq_self_eq_true]; exact EqAt.same _
  · refine EqAt.of_refs hab ?_
    have hl : s.heap.IsTuple a vs.toArray := ⟨_, H.sub _ _ e1, rfl, n, rfl⟩
    have hb : s.heap.IsTuple b us.toArray := ⟨_, H.sub _ _ f1, rfl, m, rfl⟩
    have lv := e4.length
    have lu := f4.length
    have := RcAt.tuples (e := fun j => [x.1, x.2.1, x.2.2].getD j 0 == [y.1, y.2.1, y.2.2].getD j 0) hl hb hu (fun j h1 h2 => by
      obtain ⟨t1, q1⟩ := IntsAre.int_at e4 j (vs[j]'(by simpa using h1)) (List.getElem?_eq_getElem _)
      obtain ⟨t2, q2⟩ := IntsAre.int_at f4 j (us[j]'(by simpa using h2)) (List.getElem?_eq_getElem _)
      rw [List.getElem_toArray, List.getElem_toArray, q1, q2]; exact EqAt.int_int _ _ _ _)
    rw [show vs.toArray.size = 3 from lv, show us.toArray.size = 3 from lu, all3_eq] at this
    exact this

theorem lists_at {α : Type} [BEq α] [LawfulBEq α] {f : α → D} (hu : A.units < cLine) (he : EqI C A.in1 f) {xs ys : List α} {g : Fz} {s : Shared} {v u : Value} (H : Hp C g s) (r1 : Rep g v (.list (xs.map f))) (r2 : Rep g u (.list (ys.map f))) : RcAt A s v u (xs == ys) ∧ RcNeAt A s v u (xs != ys) := by
  cases r1 using Rep.clist with
  | list a vs n e1 e4 => cases r2 using Rep.clist with
    | list b us m f1 f4 =>
      have hl : s.heap.IsList a vs.toArray := ⟨_, H.sub _ _ e1, rfl, n, rfl⟩
      have hb : s.heap.IsList b us.toArray := ⟨_, H.sub _ _ f1, rfl, m, rfl⟩
      have l1 := e4.length
      have l2 := f4.length
      rw [List.length_map] at l1 l2
      by_cases hs : xs.length = ys.length
      · have hsz : vs.toArray.size = us.toArray.size := by simp; omega
        have hj : ∀ j (h1 : j < vs.toArray.size) (h2 : j < us.toArray.size), EqAt A.in1 s vs.toArray[j] us.toArray[j] (xs[j]? == ys[j]?) := fun j h1 h2 => by
          simp at h1 h2
          obtain ⟨v', hv, rv⟩ := e4.get (i := j) (d := f (xs[j]'(by omega))) (by rw [List.getElem?_map, List.getElem?_eq_getElem (by omega)]; rfl)
          obtain ⟨u', hu', ru⟩ := f4.get (i := j) (d := f (ys[j]'(by omega))) (by rw [List.getElem?_map, List.getElem?_eq_getElem (by omega)]; rfl)
          rw [List.getElem?_eq_getElem h1] at hv; cases hv
          rw [List.getElem?_eq_getElem h2] at hu'; cases hu'
          have := he g s _ _ _ _ H rv ru
          rw [List.getElem?_eq_getElem (by omega), List.getElem?_eq_getElem (by omega)]
          exact this
        have ea := all_eq hs
        have h1 := RcAt.lists hl hb hsz hu hj
        have h2 := RcNeAt.lists hl hb hsz hu hj
        have esz : vs.toArray.size = xs.length := by simp [l1]
        rw [esz, ea] at h1 h2
        exact ⟨h1, h2⟩
      · have hne : (vs.toArray.size != us.toArray.size) = true := by simp; omega
        have hx : (xs == ys) = false := by
          cases q : xs == ys with
          | false => rfl
          | true => rw [eq_of_beq q] at hs; exact absurd rfl hs
        rw [bne, hx]
        exact ⟨RcAt.lists_lengths hl hb hne hu, RcNeAt.lists_lengths hl hb hne hu⟩

theorem p_eqL {α : Type} [BEq α] [LawfulBEq α] {f : α → D} (hu : A.units < cLine) (he : EqI C A.in1 f) {xs ys : List α} : Prim C A (fun vs => compareOp .Eq (vs.getD 0 .none) (vs.getD 1 .none)) [.list (xs.map f), .list (ys.map f)] (.bool (xs == ys)) := Prim.two fun g s v u Q E H r1 r2 k =>
  (lists_at hu he H r1 r2).1 _ _ _ _ (k _ _ _ (Grow.refl H) (.bool _))
theorem p_neL {α : Type} [BEq α] [LawfulBEq α] {f : α → D} (hu : A.units < cLine) (he : EqI C A.in1 f) {xs ys : List α} : Prim C A (fun vs => compareOp .NotEq (vs.getD 0 .none) (vs.getD 1 .none)) [.list (xs.map f), .list (ys.map f)] (.bool (xs != ys)) := Prim.two fun g s v u Q E H r1 r2 k =>
  (lists_at hu he H r1 r2).2 _ _ _ _ (k _ _ _ (Grow.refl H) (.bool _))

theorem p_inL {i : Int} {ns : List Int} : Prim C A (fun vs => compareOp .In (vs.getD 0 .none) (vs.getD 1 .none)) [.int i, .list (ns.map .int)] (.bool (ns.any (· == i))) := Prim.two fun g s v u Q E H r1 r2 k => by
  cases r1; cases r2 using Rep.clist with
  | list a vs n e1 e4 =>
    refine in_listAt (fun v => match v with | .int j _ => j == i | _ => false) ⟨_, H.sub _ _ e1, rfl, n, rfl⟩ (fun y hy => ?_) ?_
    · have hi := e4.ints
      simp at hy
      obtain ⟨j, hj, rfl⟩ := List.getElem_of_mem hy
      have := IntsAre.int_at hi j _ (List.getElem?_eq_getElem hj)
      obtain ⟨t, e⟩ := this
      rw [e]; exact EqAt.int_int _ _ _ _
    · have : (vs.toArray.any fun v => match v with | .int j _ => j == i | _ => false) = ns.any (· == i) := by
        have hi := e4.ints
        simp only [List.any_toArray]
        clear e1 e4 k
        induction hi with
        | nil => rfl
        | cons m t h ih => rw [List.any_cons, List.any_cons, ih]
      rw [this]
      exact k _ _ _ (Grow.refl H) (.bool _)
end

end

section
variable {C : Cx} {A : Around} {env : Env} {own : List Addr} {ω : Om} {σ σ' : Sg} {Ψ : Post}

theorem RepL.strs {g : Fz} : ∀ {vs : List Value} {ys : List Str}, RepL g vs (ys.map .str) → StrsAre vs ys
  | [], [], _ => .nil
  | _ :: _, [], h => by cases h
  | [], _ :: _, h => by cases h
  | _ :: _, _ :: _, h => by
    cases h with
    | cons r h => cases r; exact .cons _ _ h.strs

theorem ev_join {sep : Str} {kc : Nat} {apos pos cpos : Pos} {e : Expr} {ys : List Str} (he : Ev C A env σ e (.list (ys.map .str))) (hsep : sep.length ≤ 16) (hw : (ys.map (·.length)).sum + ys.length ≤ 1048576) {pl : Sem Bool}
    (hst : starEach [e] env = (false, eval e env) :: starEach [] env := by rfl)
    (hev : eval (.Call (.Attribute (.Constant (.str sep) kc cpos) (Str.ofString "join") apos) [e] [] pos) env = (do
      let ov ← eval (.Constant (.str sep) kc cpos) env
      standAt apos.atName
      let (f, first) ← holding [ov] (getMethod ov (Str.ofString "join") pl)
      callWith pos f first (backTo pos (starEach [e] env)) (backToKw pos (keywordEach [] env))) := by rfl) :
    Ev C A env σ (.Call (.Attribute (.Constant (.str sep) kc cpos) (Str.ofString "join") apos) [e] [] pos) (.str (Txt.join sep ys)) := fun g s Q E V k => by
  refine methodCall_KW (ev_str g s _ E V fun v g1 s1 G1 r1 => ?_) hev
  cases r1 using Rep.cstr with
  | str tk =>
    refine GM.join ?_
    have hargs := evL_cons (pos := pos) he (evL_nil) hst
    have hargs' := hargs g1 s1 (fun vs s₁ => wpAny C.M A (call (.builtin "str.join") ([.str sep tk] ++ vs)) Q E s₁) E (V.grow G1) fun vs g2 s2 G2 r => by
      cases r using RepL.ccons with
      | cons r rn =>
        cases rn using RepL.cnil
        cases r using Rep.clist with
        | list a us n e1 e4 =>
          exact join_listW ⟨_, G2.hp.sub _ _ e1, rfl, n, rfl⟩ (by simpa using e4.strs) hsep hw fun t' k' => k _ _ _ ((G1.trans G2).trans (Grow.toks G2.hp _)) (.str _ _)
    rw [hst] at hargs' ⊢
    exact callWith_builtin (by rfl) (evalArgs_plain hargs')
end

section
variable {C : Cx} {A : Around} {env : Env} {own : List Addr} {ω : Om} {σ : Sg} {Ψ : Post}

theorem sign_eq (k c : Nat) (x : Str) (hx : x = ⟨#[c]⟩) : ((⟨#[k]⟩ : Str) == x) = decide (k = c) := by
  subst hx
  by_cases h : k = c
  · subst h; simp
  · rw [decide_eq_false h]
    refine beq_eq_false_iff_ne.mpr fun q => h ?_
    have := congrArg (fun s : Str => s.cps.toList) q
    simpa using this
theorem str_x : Str.ofString "x" = ⟨#[120]⟩ := by decide +kernel
theorem str_sp : Str.ofString " " = ⟨#[32]⟩ := by decide +kernel
theorem str_tab : Str.ofString "\t" = ⟨#[9]⟩ := by decide +kernel

/-- _law_column -/
noncomputable def colG (size : Int) : Int → List Nat → Int
  | c, [] => c
  | c, k :: r => if k = 120 then c else colG size (if k = 32 then c + 1 else c + size - c.fmod size) r

theorem signs_get {x : Str} {i : Nat} {d : D} (h : (signs x)[i]? = some d) : ∃ k, d = .str ⟨#[k]⟩ ∧ x.cps.toList.drop i = k :: x.cps.toList.drop (i + 1) := by
  unfold signs at h
  rw [List.getElem?_map, Option.map_eq_some_iff] at h
  obtain ⟨k, hk, rfl⟩ := h
  refine ⟨k, rfl, ?_⟩
  obtain ⟨h1, h2⟩ := List.getElem?_eq_some_iff.mp hk
  rw [List.drop_eq_getElem_cons h1, h2]

theorem column_ok (O : C.OK) (R : Room A 1) {x : Str} {size : Int} (h1 : 1 ≤ size) : CallV C A (.ref 119) [.str x, .int size] (.int (colG size 0 x.cps.toList)) := by
  refine callV_K (xs := [Str.ofString "text", Str.ofString "size"]) O R (by rfl) (by rfl) (by rfl) (by rfl) (fun vs h => ?_) (by decide) (by decide) (fun L A R => ?_)
  · obtain ⟨v, u, rfl⟩ := two_of h
    rfl
  · have hh := R.handled
    refine ex_cons (ex_assign (by walk_at "ev") ?_)
    refine ex_cons (ex_for (by walk_at "ev") (itr_str hh)
      (fun k ω σ => ω = [] ∧ ∃ c, colG size c (x.cps.toList.drop k) = colG size 0 x.cps.toList ∧ Sub [(Str.ofString "column", .int c), (Str.ofString "size", .int size)] σ)
      ⟨rfl, 0, rfl, .cons rfl (.cons rfl .nil)⟩ ?_ ?_)
    · rintro k d ω σ hd ⟨rfl, c, hc, hσ⟩
      obtain ⟨n, rfl, hn⟩ := signs_get hd
      rw [hn, colG] at hc
      refine Ex.weaken ?_ hσ.push
      refine ex_cons (ex_if (by walk_at "evt") (fun h3 => ?_) (fun h3 => ex_nil ?_))
      · rw [sign_eq n 120 _ str_x, decide_eq_true_eq] at h3
        rw [if_pos h3] at hc
        refine ex_cons (ex_break ?_)
        refine ex_cons (ex_ret (by walk_at "ev") ?_)
        simp [Ends, hc]
      · rw [sign_eq n 120 _ str_x, decide_eq_false_iff_not] at h3
        rw [if_neg h3] at hc
        refine ex_cons (ex_assign (d := .int (if n = 32 then c + 1 else c + size - c.fmod size)) ?_ ?_)
        · refine ev_if (by walk_at "evt") (fun h4 => ?_) (fun h4 => ?_)
          · rw [sign_eq n 32 _ str_sp, decide_eq_true_eq] at h4
            rw [if_pos h4]; walk_at "ev"
          · rw [sign_eq n 32 _ str_sp, decide_eq_false_iff_not] at h4
            rw [if_neg h4]; walk_at "ev"
        · exact ex_nil ⟨rfl, _, hc, .cons rfl (.cons rfl .nil)⟩
    · rintro ω σ ⟨rfl, c, hc, hσ⟩
      refine Ex.weaken ?_ hσ
      refine ex_cons (ex_ret (by walk_at "ev") ?_)
      rw [List.drop_eq_nil_of_le (by simp [signs]), colG] at hc
      simp [Ends, hc]
end

section
variable {C : Cx} {A : Around} {env : Env} {own : List Addr} {ω : Om} {σ : Sg} {Ψ : Post}

theorem bestI_mem (r : Int → Int → Bool) {ns : List Int} (h : 0 < ns.length) : bestI r ns ∈ ns := by
  unfold bestI
  have := best_lt (fun i j => r (ns.getD i 0) (ns.getD j 0)) (ns.length - 1)
  rw [List.getD_eq_getElem?_getD, List.getElem?_eq_getElem (by omega)]
  exact List.getElem_mem _
theorem fdiv_abs {x y B : Int} (hy : 1 ≤ y) (h1 : -B ≤ x) (h2 : x ≤ B) (hB : 0 ≤ B) : -B ≤ x.fdiv y ∧ x.fdiv y ≤ B := by
  rw [Int.fdiv_eq_ediv_of_nonneg _ (by omega)]
  constructor
  · have := Int.ediv_le_ediv (c := y) (by omega) h1
    have h3 : -B ≤ -B / y := by
      rw [Int.le_ediv_iff_mul_le (by omega)]
      have := Int.mul_le_mul_of_nonneg_left hy hB
      rw [Int.neg_mul]
      omega
    omega
  · have := Int.ediv_le_ediv (c := y) (by omega) h2
    have := Int.ediv_le_self (a := B) y hB
    omega

noncomputable def atC (cols : List Int) (s : Int) : Int := cols.getD (s - 1).toNat 0
noncomputable def steepF (cols : List Int) (t : Int) (ss : List Int) : List Int := 0 :: (ss.filter fun s => decide (s < t)).map fun s => -((atC cols s - atC cols t).fdiv (t - s))
noncomputable def flatF (cols : List Int) (t tabs : Int) (ss : List Int) : List Int := tabs :: (ss.filter fun s => decide (s > t)).map fun s => (atC cols s - atC cols t).fdiv (s - t)
noncomputable def touchF (cols : List Int) (t tabs : Int) : List Int :=
  upto (bestI (fun a b => decide (a > b)) (steepF cols t (upto 1 (cols.length + 1)))) (bestI (fun a b => decide (a < b)) (flatF cols t tabs (upto 1 (cols.length + 1))) + 1)

theorem atC_mem {cols : List Int} {s : Int} (h1 : 1 ≤ s) (h2 : s ≤ cols.length) : atC cols s ∈ cols := by
  unfold atC
  rw [List.getD_eq_getElem?_getD, List.getElem?_eq_getElem (by omega)]
  exact List.getElem_mem _

theorem touching_ok (O : C.OK) (R : Room A 1) {cols : List Int} {t tabs : Int} (hl : cols.length < 2 ^ 20) (hc : ∀ c ∈ cols, 0 ≤ c ∧ c < 2 ^ 20) (h1 : 1 ≤ t) (h2 : t ≤ cols.length) (h3 : 0 ≤ tabs) (h4 : tabs < 2 ^ 20) :
    CallV C A (.ref 140) [.list (cols.map .int), .int t, .int tabs] (.list ((touchF cols t tabs).map .int)) := by
  refine callV_K (xs := [Str.ofString "columns", Str.ofString "t", Str.ofString "tabs"]) O R (by rfl) (by rfl) (by rfl) (by rfl) (fun vs h => ?_) (by decide) (by decide) (fun L A R => ?_)
  · obtain ⟨v, u, w, rfl⟩ := three_of h
    rfl
  · have hh := R.handled
    have ht := hc _ (atC_mem (s := t) h1 h2)
    refine ex_cons (ex_assign (d := .int (atC cols t)) (ev_item (by walk_at "ev") (by walk_at "ev") (by omega) (by omega) (ints_at (by omega))) ?_)
    refine ex_cons (ex_own (by walk_at "evl") (by walk_at "side") fun a1 => ?_)
    refine ex_cons (ex_own (by walk_at "evl") (by walk_at "side") fun a2 => ?_)
    generalize hN : ((cols.map D.int).length : Int) + 1 = N
    have hN' : N = cols.length + 1 := by rw [← hN, List.length_map]
    have bS : ∀ ss : List Int, (∀ s ∈ ss, 1 ≤ s ∧ s < N) → ∀ x ∈ steepF cols t ss, -(2 ^ 20) ≤ x ∧ x ≤ 2 ^ 20 := fun ss hss x hx => by
      rcases List.mem_cons.mp hx with rfl | hx
      · omega
      · obtain ⟨s, hs, rfl⟩ := List.mem_map.mp hx
        have hs' := (List.mem_filter.mp hs).2
        simp only [decide_eq_true_eq] at hs'
        have hs2 := hss s (List.mem_filter.mp hs).1
        have := hc _ (atC_mem (s := s) hs2.1 (by omega))
        have := fdiv_abs (x := atC cols s - atC cols t) (y := t - s) (B := 2 ^ 20) (by omega) (by omega) (by omega) (by omega)
        omega
    have bF : ∀ ss : List Int, (∀ s ∈ ss, 1 ≤ s ∧ s < N) → ∀ x ∈ flatF cols t tabs ss, -(2 ^ 20) ≤ x ∧ x ≤ 2 ^ 20 := fun ss hss x hx => by
      rcases List.mem_cons.mp hx with rfl | hx
      · omega
      · obtain ⟨s, hs, rfl⟩ := List.mem_map.mp hx
        have hs' := (List.mem_filter.mp hs).2
        simp only [decide_eq_true_eq] at hs'
        have hs2 := hss s (List.mem_filter.mp hs).1
        have := hc _ (atC_mem (s := s) hs2.1 (by omega))
        exact fdiv_abs (x := atC cols s - atC cols t) (y := s - t) (B := 2 ^ 20) (by omega) (by omega) (by omega) (by omega)
    refine ex_cons (ex_for (d := .rng 1 N) (Ev.to (by walk_at "ev") (by rw [hN])) (itr_rng hh (small_one (by omega) (by omega) (by omega) (by omega)))
      (fun k ω σ => ω = [(a2, (flatF cols t tabs ((upto 1 N).take k)).map .int), (a1, (steepF cols t ((upto 1 N).take k)).map .int)] ∧
        Sub [(Str.ofString "steep", .raw (.ref a1)), (Str.ofString "flat", .raw (.ref a2)), (Str.ofString "here", .int (atC cols t)), (Str.ofString "columns", .list (cols.map .int)), (Str.ofString "t", .int t)] σ)
      ⟨rfl, .cons rfl (.cons rfl (.cons rfl (.cons rfl (.cons rfl .nil))))⟩ ?_ ?_)
    · rintro k d ω σ hd ⟨rfl, hσ⟩
      obtain ⟨rfl, hk, ht'⟩ := upto_get hd
      refine Ex.weaken ?_ hσ.push
      have hlen : ((upto 1 N).take k).length ≤ 2 ^ 20 := by
        rw [List.length_take, upto_len]; omega
      -- the two tests
      refine ex_cons (ex_if (by walk_at "evt") (fun q => ?_) (fun q => ex_nil ?_))
      · simp only [decide_eq_true_eq] at q
        refine ex_cons (ex_append (ω₁ := [(a2, _)]) (ω₂ := []) (by rfl) (ev_un (ev_bin (ev_bin (ev_item (by walk_at "ev") (by walk_at "ev") (by omega) (by omega) (ints_at (by omega))) (by walk_at "ev") (by walk_at "prim")) (by walk_at "ev") (by walk_at "prim")) (by walk_at "prim")) ?_ (ex_nil ?_))
        · rw [List.length_map, PySem.sizeLine_eq]
          have := List.length_filter_le (fun s => decide (s < t)) ((upto 1 N).take k)
          simp only [steepF, List.length_cons, List.length_map]; omega
        refine ex_cons (ex_if (by walk_at "evt") (fun q' => ?_) (fun q' => ex_nil (ex_nil ?_)))
        · simp only [decide_eq_true_eq] at q'; omega
        · refine ⟨?_, .cons rfl (.cons rfl (.cons rfl (.cons rfl (.cons rfl .nil))))⟩
          rw [ht']
          simp only [decide_eq_false_iff_not] at q'
          simp [flatF, steepF, List.filter_append, q, q', atC]
      · simp only [decide_eq_false_iff_not] at q
        refine ex_cons (ex_if (by walk_at "evt") (fun q' => ?_) (fun q' => ex_nil (ex_nil ?_)))
        · simp only [decide_eq_true_eq] at q'
          refine ex_cons (ex_append (ω₁ := []) (ω₂ := [(a1, _)]) (by rfl) (ev_bin (ev_bin (ev_item (by walk_at "ev") (by walk_at "ev") (by omega) (by omega) (ints_at (by omega))) (by walk_at "ev") (by walk_at "prim")) (by walk_at "ev") (by walk_at "prim")) ?_ (ex_nil (ex_nil ?_)))
          · rw [List.length_map, PySem.sizeLine_eq]
            have := List.length_filter_le (fun s => decide (s > t)) ((upto 1 N).take k)
            simp only [flatF, List.length_cons, List.length_map]; omega
          · refine ⟨?_, .cons rfl (.cons rfl (.cons rfl (.cons rfl (.cons rfl .nil))))⟩
            rw [ht']
            simp [flatF, steepF, List.filter_append, q, q', atC]
        · refine ⟨?_, .cons rfl (.cons rfl (.cons rfl (.cons rfl (.cons rfl .nil))))⟩
          simp only [decide_eq_false_iff_not] at q'
          rw [ht']
          simp [flatF, steepF, List.filter_append, q, q']
    · rintro ω σ ⟨rfl, hσ⟩
      rw [List.length_map, List.take_length]
      have hall : ∀ s ∈ upto 1 N, 1 ≤ s ∧ s < N := fun s hs => upto_mem.mp hs
      have hS := bS _ hall _ (bestI_mem (fun a b => decide (a > b)) (ns := steepF cols t (upto 1 N)) (by simp [steepF]))
      have hF := bF _ hall _ (bestI_mem (fun a b => decide (a < b)) (ns := flatF cols t tabs (upto 1 N)) (by simp [flatF]))
      refine Ex.weaken ?_ hσ
      refine ex_freeze (x := Str.ofString "flat") (by rfl) (ex_freeze (x := Str.ofString "steep") (by rfl) ?_)
      refine ex_cons (ex_ret (ev_callT (by walk_at "name") (evL_cons (ev_callT (by walk_at "name") (evL_cons (ev_callB (by walk_at "name") (by walk_at "evl") (p_max hh (by simp [steepF])))
        (evL_cons (ev_bin (ev_callB (by walk_at "name") (by walk_at "evl") (p_min hh (by simp [flatF]))) (by walk_at "ev") (by walk_at "prim")) evL_nil)) p_range2) evL_nil) (p_list_rng hh (small_one (by omega) (by omega) (by omega) (by omega)) (by omega))) ?_)
      simp only [Ends, touchF, hN']
end

section
variable {C : Cx} {A : Around} {env : Env} {own : List Addr} {ω : Om} {σ : Sg} {Ψ : Post}

/-- the halving -/
noncomputable def bisG (p : Int → Bool) : Nat → Int → Int → Int
  | 0, lo, _ => lo
  | f + 1, lo, hi => if lo < hi then (if p ((lo + hi).fdiv 2) then bisG p f lo ((lo + hi).fdiv 2) else bisG p f ((lo + hi).fdiv 2 + 1) hi) else lo
noncomputable def bisF (p : Int → Bool) (n : Nat) : Int := bisG p n 0 n

theorem mid_le {lo hi : Int} (h : lo < hi) : lo ≤ (lo + hi).fdiv 2 ∧ (lo + hi).fdiv 2 < hi := by
  rw [Int.fdiv_eq_ediv_of_nonneg _ (by omega)]
  omega

theorem getD_mem {ns : List Int} {i : Nat} (h : i < ns.length) : ns.getD i 0 ∈ ns := by
  rw [List.getD_eq_getElem?_getD, List.getElem?_eq_getElem h]; exact List.getElem_mem _
theorem bisR_ok (O : C.OK) (R : Room A 1) {ns : List Int} {x : Int} (hl : ns.length < 2 ^ 24) :
    CallV C A (.ref 96) [.list (ns.map .int), .int x] (.int (bisF (fun m => decide (x < ns.getD m.toNat 0)) ns.length)) := by
  refine callV_gen (args := fun vs => ⟨vs, []⟩) (binds := fun vs => [(Str.ofString "a", vs.getD 0 .none), (Str.ofString "x", vs.getD 1 .none), (Str.ofString "lo", .int 0 301), (Str.ofString "hi", .none), (Str.ofString "key", .none)])
    (bd := [(Str.ofString "a", .list (ns.map .int)), (Str.ofString "x", .int x), (Str.ofString "lo", .int 0), (Str.ofString "hi", .none), (Str.ofString "key", .none)]) O R (by rfl) (by rfl) (by rfl) (by rfl) (fun M vs h => ?_) (fun g vs r => ?_) (by decide) (by simp only [List.map_cons, List.map_nil]; decide) (fun L A R => ?_)
  · obtain ⟨v, u, rfl⟩ := two_of h
    rfl
  · cases r using RepL.ccons with
    | cons r1 r => cases r using RepL.ccons with
      | cons r2 r => cases r using RepL.cnil; exact .cons r1 (.cons r2 (.cons (.int _ _) (.cons .none (.cons .none .nil))))
  · have hh := R.handled
    refine ex_cons (ex_if (by walk_at "evt") (fun q => by simp at q) (fun _ => ex_nil ?_))
    refine ex_cons (ex_if (evT_cmp (by walk_at "ev") (by walk_at "ev") p_is_none) (fun _ => ex_cons (ex_assign (d := .int ns.length) (Ev.to (by walk_at "ev") (by rw [List.length_map])) (ex_nil ?_))) (fun q => by cases q))
    refine ex_cons (ex_if (evT_cmp (by walk_at "ev") (by walk_at "ev") p_is_none) (fun _ => ?_) (fun q => by cases q))
    refine ex_cons (ex_while (fun m ω σ => ω = [] ∧ ∃ (lo hi : Int) (f : Nat), 0 ≤ lo ∧ lo ≤ hi ∧ hi ≤ ns.length ∧ hi - lo ≤ (f : Int) ∧ m = (hi - lo).toNat ∧ bisG (fun m => decide (x < ns.getD m.toNat 0)) f lo hi = bisF (fun m => decide (x < ns.getD m.toNat 0)) ns.length ∧
      Sub [(Str.ofString "lo", .int lo), (Str.ofString "hi", .int hi), (Str.ofString "a", .list (ns.map .int)), (Str.ofString "x", .int x)] σ) ns.length
      ⟨rfl, 0, ns.length, ns.length, by omega, by omega, by omega, by omega, by omega, rfl, .cons rfl (.cons rfl (.cons rfl (.cons rfl .nil)))⟩ ?_)
    rintro m ω σ ⟨rfl, lo, hi, f, h1, h2, h3, h4, rfl, h6, hσ⟩
    refine ⟨decide (lo < hi), ?_, fun q => ?_, fun q => ex_nil ?_⟩
    · exact fun g s Q E V k => (show EvT C A _ [(Str.ofString "lo", .int lo), (Str.ofString "hi", .int hi), (Str.ofString "a", .list (ns.map .int)), (Str.ofString "x", .int x)] _ _ by walk_at "evt") g s Q E (V.weaken hσ) k
    · simp only [decide_eq_true_eq] at q
      obtain ⟨f, rfl⟩ : ∃ f', f = f' + 1 := ⟨f - 1, by omega⟩
      rw [bisG, if_pos q] at h6
      have hm := mid_le q
      refine Ex.weaken ?_ hσ
      refine ex_cons (ex_assign (by walk_at "ev") ?_)
      refine ex_cons (ex_if (evT_cmp (by walk_at "ev") (ev_item (by walk_at "ev") (by walk_at "ev") (by omega) (by omega) (ints_at (by omega))) (by walk_at "prim")) (fun q' => ?_) (fun q' => ?_))
      · rw [if_pos q'] at h6
        refine ex_cons (ex_assign (by walk_at "ev") (ex_nil (ex_nil ⟨_, ?_, rfl, lo, (lo + hi).fdiv 2, f, h1, by omega, by omega, by omega, rfl, h6, .cons rfl (.cons rfl (.cons rfl (.cons rfl .nil)))⟩)))
        omega
      · rw [if_neg (by rw [q']; exact Bool.false_ne_true)] at h6
        refine ex_cons (ex_assign (by walk_at "ev") (ex_nil (ex_nil ⟨_, ?_, rfl, (lo + hi).fdiv 2 + 1, hi, f, by omega, by omega, by omega, by omega, rfl, h6, .cons rfl (.cons rfl (.cons rfl (.cons rfl .nil)))⟩)))
        omega
    · simp only [decide_eq_false_iff_not] at q
      refine Ex.weaken ?_ hσ
      refine ex_cons (ex_ret (by walk_at "ev") ?_)
      cases f with
      | zero => rw [bisG] at h6; simp [Ends, h6]
      | succ f => rw [bisG, if_neg q] at h6; simp [Ends, h6]

theorem bisL_ok (O : C.OK) (R : Room A 1) {ns : List Int} {x : Int} (hl : ns.length < 2 ^ 24) :
    CallV C A (.ref 105) [.list (ns.map .int), .int x] (.int (bisF (fun m => !decide (ns.getD m.toNat 0 < x)) ns.length)) := by
  refine callV_gen (args := fun vs => ⟨vs, []⟩) (binds := fun vs => [(Str.ofString "a", vs.getD 0 .none), (Str.ofString "x", vs.getD 1 .none), (Str.ofString "lo", .int 0 315), (Str.ofString "hi", .none), (Str.ofString "key", .none)])
    (bd := [(Str.ofString "a", .list (ns.map .int)), (Str.ofString "x", .int x), (Str.ofString "lo", .int 0), (Str.ofString "hi", .none), (Str.ofString "key", .none)]) O R (by rfl) (by rfl) (by rfl) (by rfl) (fun M vs h => ?_) (fun g vs r => ?_) (by decide) (by simp only [List.map_cons, List.map_nil]; decide) (fun L A R => ?_)
  · obtain ⟨v, u, rfl⟩ := two_of h
    rfl
  · cases r using RepL.ccons with
    | cons r1 r => cases r using RepL.ccons with
      | cons r2 r => cases r using RepL.cnil; exact .cons r1 (.cons r2 (.cons (.int _ _) (.cons .none (.cons .none .nil))))
  · have hh := R.handled
    refine ex_cons (ex_if (by walk_at "evt") (fun q => by simp at q) (fun _ => ex_nil ?_))
    refine ex_cons (ex_if (evT_cmp (by walk_at "ev") (by walk_at "ev") p_is_none) (fun _ => ex_cons (ex_assign (d := .int ns.length) (Ev.to (by walk_at "ev") (by rw [List.length_map])) (ex_nil ?_))) (fun q => by cases q))
    refine ex_cons (ex_if (evT_cmp (by walk_at "ev") (by walk_at "ev") p_is_none) (fun _ => ?_) (fun q => by cases q))
    refine ex_cons (ex_while (fun m ω σ => ω = [] ∧ ∃ (lo hi : Int) (f : Nat), 0 ≤ lo ∧ lo ≤ hi ∧ hi ≤ ns.length ∧ hi - lo ≤ (f : Int) ∧ m = (hi - lo).toNat ∧ bisG (fun m => !decide (ns.getD m.toNat 0 < x)) f lo hi = bisF (fun m => !decide (ns.getD m.toNat 0 < x)) ns.length ∧
      Sub [(Str.ofString "lo", .int lo), (Str.ofString "hi", .int hi), (Str.ofString "a", .list (ns.map .int)), (Str.ofString "x", .int x)] σ) ns.length
      ⟨rfl, 0, ns.length, ns.length, by omega, by omega, by omega, by omega, by omega, rfl, .cons rfl (.cons rfl (.cons rfl (.cons rfl .nil)))⟩ ?_)
    rintro m ω σ ⟨rfl, lo, hi, f, h1, h2, h3, h4, rfl, h6, hσ⟩
    refine ⟨decide (lo < hi), ?_, fun q => ?_, fun q => ex_nil ?_⟩
    · exact fun g s Q E V k => (show EvT C A _ [(Str.ofString "lo", .int lo), (Str.ofString "hi", .int hi), (Str.ofString "a", .list (ns.map .int)), (Str.ofString "x", .int x)] _ _ by walk_at "evt") g s Q E (V.weaken hσ) k
    · simp only [decide_eq_true_eq] at q
      obtain ⟨f, rfl⟩ : ∃ f', f = f' + 1 := ⟨f - 1, by omega⟩
      rw [bisG, if_pos q] at h6
      have hm := mid_le q
      refine Ex.weaken ?_ hσ
      refine ex_cons (ex_assign (by walk_at "ev") ?_)
      refine ex_cons (ex_if (evT_cmp (ev_item (by walk_at "ev") (by walk_at "ev") (by omega) (by omega) (ints_at (by omega))) (by walk_at "ev") (by walk_at "prim")) (fun q' => ?_) (fun q' => ?_))
      · rw [if_neg (by rw [q']; decide)] at h6
        refine ex_cons (ex_assign (by walk_at "ev") (ex_nil (ex_nil ⟨_, ?_, rfl, (lo + hi).fdiv 2 + 1, hi, f, by omega, by omega, by omega, by omega, rfl, h6, .cons rfl (.cons rfl (.cons rfl (.cons rfl .nil)))⟩)))
        omega
      · rw [if_pos (by rw [q']; rfl)] at h6
        refine ex_cons (ex_assign (by walk_at "ev") (ex_nil (ex_nil ⟨_, ?_, rfl, lo, (lo + hi).fdiv 2, f, h1, by omega, by omega, by omega, rfl, h6, .cons rfl (.cons rfl (.cons rfl (.cons rfl .nil)))⟩)))
        omega
    · simp only [decide_eq_false_iff_not] at q
      refine Ex.weaken ?_ hσ
      refine ex_cons (ex_ret (by walk_at "ev") ?_)
      cases f with
      | zero => rw [bisG] at h6; simp [Ends, h6]
      | succ f => rw [bisG, if_neg q] at h6; simp [Ends, h6]

theorem bisRK_ok (O : C.OK) {k : Nat} (R : Room A (k + 1)) {ns : List Int} {x : Bool} (hl : ns.length < 2 ^ 24) {params : Arguments} {body : Expr} {scope : Scope} {qual : Str} {cns : List Str} {cds : List D} {kf : Int → Bool}
    (hkey : ∀ A b, Room A k → b ∈ ns → Prim C A (fun vs => call (vs.getD 0 .none) (vs.drop 1)) [.lam params body scope qual cns cds, .int b] (.bool (kf b))) :
    Prim C A (fun vs => call (.ref 96) [vs.getD 0 .none, vs.getD 1 .none] [(Str.ofString "key", vs.getD 2 .none)]) [.list (ns.map .int), .bool x, .lam params body scope qual cns cds] (.int (bisF (fun m => !x && kf (ns.getD m.toNat 0)) ns.length)) := by
  refine callV_gen (args := fun vs => ⟨[vs.getD 0 .none, vs.getD 1 .none], [(Str.ofString "key", vs.getD 2 .none)]⟩) (binds := fun vs => [(Str.ofString "a", vs.getD 0 .none), (Str.ofString "x", vs.getD 1 .none), (Str.ofString "lo", .int 0 301), (Str.ofString "hi", .none), (Str.ofString "key", vs.getD 2 .none)])
    (bd := [(Str.ofString "a", .list (ns.map .int)), (Str.ofString "x", .bool x), (Str.ofString "lo", .int 0), (Str.ofString "hi", .none), (Str.ofString "key", .lam params body scope qual cns cds)]) O R (by rfl) (by rfl) (by rfl) (by rfl) (fun M vs h => ?_) (fun g vs r => ?_) (by decide) (by simp only [List.map_cons, List.map_nil]; decide) (fun L A R => ?_)
  · obtain ⟨v, u, w, rfl⟩ := three_of h
    rfl
  · cases r using RepL.ccons with
    | cons r1 r => cases r using RepL.ccons with
      | cons r2 r => cases r using RepL.ccons with
        | cons r3 r => cases r using RepL.cnil; exact .cons r1 (.cons r2 (.cons (.int _ _) (.cons .none (.cons r3 .nil))))
  · have hh := R.handled
    refine ex_cons (ex_if (by walk_at "evt") (fun q => by simp at q) (fun _ => ex_nil ?_))
    refine ex_cons (ex_if (evT_cmp (by walk_at "ev") (by walk_at "ev") p_is_none) (fun _ => ex_cons (ex_assign (d := .int ns.length) (Ev.to (by walk_at "ev") (by rw [List.length_map])) (ex_nil ?_))) (fun q => by cases q))
    refine ex_cons (ex_if (evT_cmp (by walk_at "ev") (by walk_at "ev") p_is_lam) (fun q => by cases q) (fun _ => ?_))
    refine ex_cons (ex_while (fun m ω σ => ω = [] ∧ ∃ (lo hi : Int) (f : Nat), 0 ≤ lo ∧ lo ≤ hi ∧ hi ≤ ns.length ∧ hi - lo ≤ (f : Int) ∧ m = (hi - lo).toNat ∧ bisG (fun m => !x && kf (ns.getD m.toNat 0)) f lo hi = bisF (fun m => !x && kf (ns.getD m.toNat 0)) ns.length ∧
      Sub [(Str.ofString "lo", .int lo), (Str.ofString "hi", .int hi), (Str.ofString "a", .list (ns.map .int)), (Str.ofString "x", .bool x), (Str.ofString "key", .lam params body scope qual cns cds)] σ) ns.length
      ⟨rfl, 0, ns.length, ns.length, by omega, by omega, by omega, by omega, by omega, rfl, .cons rfl (.cons rfl (.cons rfl (.cons rfl (.cons rfl .nil))))⟩ ?_)
    rintro m ω σ ⟨rfl, lo, hi, f, h1, h2, h3, h4, rfl, h6, hσ⟩
    refine ⟨decide (lo < hi), ?_, fun q => ?_, fun q => ex_nil ?_⟩
    · exact fun g s Q E V k => (show EvT C A _ [(Str.ofString "lo", .int lo), (Str.ofString "hi", .int hi), (Str.ofString "a", .list (ns.map .int)), (Str.ofString "x", .bool x), (Str.ofString "key", .lam params body scope qual cns cds)] _ _ by walk_at "evt") g s Q E (V.weaken hσ) k
    · simp only [decide_eq_true_eq] at q
      obtain ⟨f, rfl⟩ : ∃ f', f = f' + 1 := ⟨f - 1, by omega⟩
      rw [bisG, if_pos q] at h6
      have hm := mid_le q
      refine Ex.weaken ?_ hσ
      refine ex_cons (ex_assign (by walk_at "ev") ?_)
      refine ex_cons (ex_if (evT_cmp (by walk_at "ev") (ev_callL (by walk_at "name") (evL_cons (ev_item (by walk_at "ev") (by walk_at "ev") (by omega) (by omega) (ints_at (by omega))) evL_nil) (hkey _ _ R (getD_mem (by omega)))) (by walk_at "prim")) (fun q' => ?_) (fun q' => ?_))
      · rw [if_pos q'] at h6
        refine ex_cons (ex_assign (by walk_at "ev") (ex_nil (ex_nil ⟨_, ?_, rfl, lo, (lo + hi).fdiv 2, f, h1, by omega, by omega, by omega, rfl, h6, .cons rfl (.cons rfl (.cons rfl (.cons rfl (.cons rfl .nil))))⟩)))
        omega
      · rw [if_neg (by rw [q']; exact Bool.false_ne_true)] at h6
        refine ex_cons (ex_assign (by walk_at "ev") (ex_nil (ex_nil ⟨_, ?_, rfl, (lo + hi).fdiv 2 + 1, hi, f, by omega, by omega, by omega, by omega, rfl, h6, .cons rfl (.cons rfl (.cons rfl (.cons rfl (.cons rfl .nil))))⟩)))
        omega
    · simp only [decide_eq_false_iff_not] at q
      refine Ex.weaken ?_ hσ
      refine ex_cons (ex_ret (by walk_at "ev") ?_)
      cases f with
      | zero => rw [bisG] at h6; simp [Ends, h6]
      | succ f => rw [bisG, if_neg q] at h6; simp [Ends, h6]

theorem bisLK_ok (O : C.OK) {k : Nat} (R : Room A (k + 1)) {ns : List Int} {x : Bool} (hl : ns.length < 2 ^ 24) {params : Arguments} {body : Expr} {scope : Scope} {qual : Str} {cns : List Str} {cds : List D} {kf : Int → Bool}
    (hkey : ∀ A b, Room A k → b ∈ ns → Prim C A (fun vs => call (vs.getD 0 .none) (vs.drop 1)) [.lam params body scope qual cns cds, .int b] (.bool (kf b))) :
    Prim C A (fun vs => call (.ref 105) [vs.getD 0 .none, vs.getD 1 .none] [(Str.ofString "key", vs.getD 2 .none)]) [.list (ns.map .int), .bool x, .lam params body scope qual cns cds] (.int (bisF (fun m => !(!kf (ns.getD m.toNat 0) && x)) ns.length)) := by
  refine callV_gen (args := fun vs => ⟨[vs.getD 0 .none, vs.getD 1 .none], [(Str.ofString "key", vs.getD 2 .none)]⟩) (binds := fun vs => [(Str.ofString "a", vs.getD 0 .none), (Str.ofString "x", vs.getD 1 .none), (Str.ofString "lo", .int 0 315), (Str.ofString "hi", .none), (Str.ofString "key", vs.getD 2 .none)])
    (bd := [(Str.ofString "a", .list (ns.map .int)), (Str.ofString "x", .bool x), (Str.ofString "lo", .int 0), (Str.ofString "hi", .none), (Str.ofString "key", .lam params body scope qual cns cds)]) O R (by rfl) (by rfl) (by rfl) (by rfl) (fun M vs h => ?_) (fun g vs r => ?_) (by decide) (by simp only [List.map_cons, List.map_nil]; decide) (fun L A R => ?_)
  · obtain ⟨v, u, w, rfl⟩ := three_of h
    rfl
  · cases r using RepL.ccons with
    | cons r1 r => cases r using RepL.ccons with
      | cons r2 r => cases r using RepL.ccons with
        | cons r3 r => cases r using RepL.cnil; exact .cons r1 (.cons r2 (.cons (.int _ _) (.cons .none (.cons r3 .nil))))
  · have hh := R.handled
    refine ex_cons (ex_if (by walk_at "evt") (fun q => by simp at q) (fun _ => ex_nil ?_))
    refine ex_cons (ex_if (evT_cmp (by walk_at "ev") (by walk_at "ev") p_is_none) (fun _ => ex_cons (ex_assign (d := .int ns.length) (Ev.to (by walk_at "ev") (by rw [List.length_map])) (ex_nil ?_))) (fun q => by cases q))
    refine ex_cons (ex_if (evT_cmp (by walk_at "ev") (by walk_at "ev") p_is_lam) (fun q => by cases q) (fun _ => ?_))
    refine ex_cons (ex_while (fun m ω σ => ω = [] ∧ ∃ (lo hi : Int) (f : Nat), 0 ≤ lo ∧ lo ≤ hi ∧ hi ≤ ns.length ∧ hi - lo ≤ (f : Int) ∧ m = (hi - lo).toNat ∧ bisG (fun m => !(!kf (ns.getD m.toNat 0) && x)) f lo hi = bisF (fun m => !(!kf (ns.getD m.toNat 0) && x)) ns.length ∧
      Sub [(Str.ofString "lo", .int lo), (Str.ofString "hi", .int hi), (Str.ofString "a", .list (ns.map .int)), (Str.ofString "x", .bool x), (Str.ofString "key", .lam params body scope qual cns cds)] σ) ns.length
      ⟨rfl, 0, ns.length, ns.length, by omega, by omega, by omega, by omega, by omega, rfl, .cons rfl (.cons rfl (.cons rfl (.cons rfl (.cons rfl .nil))))⟩ ?_)
    rintro m ω σ ⟨rfl, lo, hi, f, h1, h2, h3, h4, rfl, h6, hσ⟩
    refine ⟨decide (lo < hi), ?_, fun q => ?_, fun q => ex_nil ?_⟩
    · exact fun g s Q E V k => (show EvT C A _ [(Str.ofString "lo", .int lo), (Str.ofString "hi", .int hi), (Str.ofString "a", .list (ns.map .int)), (Str.ofString "x", .bool x), (Str.ofString "key", .lam params body scope qual cns cds)] _ _ by walk_at "evt") g s Q E (V.weaken hσ) k
    · simp only [decide_eq_true_eq] at q
      obtain ⟨f, rfl⟩ : ∃ f', f = f' + 1 := ⟨f - 1, by omega⟩
      rw [bisG, if_pos q] at h6
      have hm := mid_le q
      refine Ex.weaken ?_ hσ
      refine ex_cons (ex_assign (by walk_at "ev") ?_)
      refine ex_cons (ex_if (evT_cmp (ev_callL (by walk_at "name") (evL_cons (ev_item (by walk_at "ev") (by walk_at "ev") (by omega) (by omega) (ints_at (by omega))) evL_nil) (hkey _ _ R (getD_mem (by omega)))) (by walk_at "ev") (by walk_at "prim")) (fun q' => ?_) (fun q' => ?_))
      · rw [if_neg (by rw [q']; decide)] at h6
        refine ex_cons (ex_assign (by walk_at "ev") (ex_nil (ex_nil ⟨_, ?_, rfl, (lo + hi).fdiv 2 + 1, hi, f, by omega, by omega, by omega, by omega, rfl, h6, .cons rfl (.cons rfl (.cons rfl (.cons rfl (.cons rfl .nil))))⟩)))
        omega
      · rw [if_pos (by rw [q']; rfl)] at h6
        refine ex_cons (ex_assign (by walk_at "ev") (ex_nil (ex_nil ⟨_, ?_, rfl, lo, (lo + hi).fdiv 2, f, h1, by omega, by omega, by omega, rfl, h6, .cons rfl (.cons rfl (.cons rfl (.cons rfl (.cons rfl .nil))))⟩)))
        omega
    · simp only [decide_eq_false_iff_not] at q
      refine Ex.weaken ?_ hσ
      refine ex_cons (ex_ret (by walk_at "ev") ?_)
      cases f with
      | zero => rw [bisG] at h6; simp [Ends, h6]
      | succ f => rw [bisG, if_neg q] at h6; simp [Ends, h6]
end

section
variable {C : Cx} {A : Around} {env : Env} {own : List Addr} {ω : Om} {σ : Sg} {Ψ : Post}

theorem set_attr (O : C.OK) {g : Fz} {s : Shared} (H : Hp C g s) {x dx : Addr} {es es' : List DictEntry} {n n' : Nat} {name : Str} {v : Value} {Q : Unit → Shared → Prop} {E : Value → Shared → Prop} (hx : s.heap.get? x = some (instObj 83 dx)) (hd : s.heap.get? dx = some (dictOf es n))
    (ht : takerIn C.K 83 name = some none) (hl : (getL name es).isSome = true) (e : (putL name (PyData.keyHash C.w.params name) (.str name (s.toks + 1)) v es, putN name es n) = (es', n')) (hz : es'.length ≤ 1000)
    (h : ∀ h' tk, h'.get? dx = some (dictOf es' n') → Heap.SameBut dx s.heap h' → Q () { s with heap := h', toks := tk }) : wpAny C.M A (setAttr (.ref x) name v) Q E s := by
  have X : C.K.In s.heap := O.k.keeps H.kb
  have I : InstAt s.heap x (instObj 83 dx) 83 (some (dictOf es n)) := ⟨hx, rfl, rfl, hd⟩
  refine set_plain X I (by rfl) (osa_open (s := { s with toks := s.toks + 1 }) X I (by rfl) ht fun b => ?_)
  obtain ⟨cd, hc, hcd⟩ : ∃ cd, clsIn C.K 83 = some cd ∧ cd.hasDict = true := ⟨_, rfl, rfl⟩
  obtain ⟨e1, e2⟩ := Prod.mk.inj e
  have hu : Obj.putName name (PyData.keyHash C.w.params name) (.str name (s.toks + 1)) v (dictOf es n) = dictOf es' n' := by rw [putName_dict, e1, e2]
  have hs : Heap.SameBut dx s.heap (s.heap.update dx (Obj.putName name (PyData.keyHash C.w.params name) (.str name (s.toks + 1)) v)) := Heap.SameBut.update ..
  have hg : (s.heap.update dx (Obj.putName name (PyData.keyHash C.w.params name) (.str name (s.toks + 1)) v)).get? dx = some (dictOf es' n') := by
    rw [Heap.get?_update_self _ hd (by rw [hu]; rfl), hu]
  refine wpAny_bind (wpAny_pure (wpAny_bind (wpAny_bind (wpAny_loadPart hx (wpAny_bind ((looks_clsIn (M := C.M) X hc) _ _ _ _ (fun _ _ e => e) ?_))))))
  rw [hcd]
  refine wpAny_pure (a := some dx) (wpAny_bind (wpAny_pure (wpAny_bind ?_)))
  unfold nsSet
  refine wpAny_bind (wpAny_bind (wpAny_askSetting (wpAny_pure (wpAny_bind (wpAny_mkText (wpAny_bind (wpAny_loadPart hd ?_)))))))
  dsimp only
  have c : (!es.toArray.any (·.key.isStr name) && es.toArray.any (·.refKey)) = false := by
    rw [List.any_toArray, List.any_toArray]
    unfold getL at hl
    split at hl
    · rename_i en he
      rw [List.any_eq_true.mpr ⟨en, List.mem_of_find?_eq_some he, List.find?_some he⟩]; rfl
    · split at hl
      · cases hl
      · rename_i z; rw [Bool.not_eq_true] at z; rw [z, Bool.and_false]
  rw [aRefKeyMayBeTheName_at, c]
  refine wpAny_updatePart hd ?_
  refine wpAny_bind (wpAny_lookBehind hg (pastItsLine_dict (by rw [List.size_toArray, sizeLine_eq]; omega)) ?_)
  exact wpAny_pure (h _ _ hg hs)

/-- Whitespace.__init__ -/
noncomputable def growF (cnt : List Int) (b : Int) : List Int := if b ≥ cnt.length then cnt ++ List.replicate (b - cnt.length + 1).toNat 0 else cnt
noncomputable def initG : List Nat → List Int → Int → Int → Int → List Int × Int × Int × Int
  | [], cnt, b, n, nt => (cnt, b, n, nt)
  | k :: r, cnt, b, n, nt => if k = 32 then initG r cnt (b + 1) (n + 1) nt else if k = 9 then initG r ((growF cnt b).set b.toNat ((growF cnt b).getD b.toNat 0 + 1)) 0 (n + 1) (nt + 1) else (cnt, b, n, nt)
noncomputable def initW (x : Str) : Wd := let q := initG x.cps.toList [] 0 0 0; { raw := x, cnt := q.1, b := q.2.1, n := q.2.2.1, nt := q.2.2.2 }

theorem growF_len (cnt : List Int) (b : Int) (h : 0 ≤ b) : b < (growF cnt b).length ∧ ((growF cnt b).length : Int) ≤ max (cnt.length : Int) (b + 1) := by
  unfold growF
  split
  · rw [List.length_append, List.length_replicate]; omega
  · omega

noncomputable abbrev initSelf (x : Str) : D := .inst 83 [Str.ofString "raw"] [.str x]

section
variable {g₀ g g' : Fz} {H₀ : Heap} {s s' : Shared} {σ' : Sg} {ω' : Om}
/-- two objects of the frame's making, held as frozen -/
theorem St.hold (S : St C g₀ H₀ env own ω σ g s) {x dx : Addr} {ox od : Obj} (hx : s.heap.get? x = some ox) (hd : s.heap.get? dx = some od) (ax : Alien env own ω g H₀ x) (ad : Alien env own ω g H₀ dx) (hne : x ≠ dx) :
    St C ((g.put x ox).put dx od) (hideAll s.heap (Mine.hid env own ω)) env own ω σ ((g.put x ox).put dx od) s ∧ (∀ b o, g b = some o → ((g.put x ox).put dx od) b = some o) := by
  have up1 := put_up (o := ox) ax.g
  have gd : g.put x ox dx = none := by rw [put_of_ne hne.symm]; exact ad.g
  have up2 := put_up (o := od) gd
  have up : ∀ b o, g b = some o → ((g.put x ox).put dx od) b = some o := fun b o e => up2 b o (up1 b o e)
  have S1 := S.rebase
  have nx : ∀ b, b ≠ x → b ≠ dx → ((g.put x ox).put dx od) b = g b := fun b h1 h2 => by rw [put_of_ne h2, put_of_ne h1]
  obtain ⟨m, n', b⟩ := S.vars.ns
  refine ⟨⟨⟨⟨fun b o e => ?_, fun b o e => up b o (S.vars.hp.base b o e), ?_, ?_, S.vars.hp.gens, S.vars.hp.os⟩, m, n', fun y d e => ?_⟩, fun _ _ e => e, fun _ _ e => .inl e, S1.kept, ⟨?_, S1.fL.2⟩, fun c hc => ?_, S.nd, S.ec, fun p hp => ?_, S.ond⟩, up⟩
  · by_cases q : b = dx
    · subst q; rw [Fz.put_self] at e; cases e; exact hd
    · rw [put_of_ne q] at e
      by_cases q' : b = x
      · subst q'; rw [Fz.put_self] at e; cases e; exact hx
      · rw [put_of_ne q'] at e; exact S.vars.hp.sub b o e
  · rw [nx 128 ax.n8.symm ad.n8.symm]; exact S.vars.hp.t128
  · obtain ⟨ps, e, y⟩ := S.vars.hp.tab
    exact ⟨ps, e, y.mono up⟩
  · rcases b y d e with ⟨k, v, hv, r⟩ | ⟨k, c, v, hc, hv, r⟩
    · exact .inl ⟨k, v, hv, r.mono up⟩
    · exact .inr ⟨k, c, v, hc, hv, r.mono up⟩
  · rw [nx _ ax.nL.symm ad.nL.symm]; exact S.fL.1
  · obtain ⟨c1, c2, c3⟩ := S1.fC c hc
    refine ⟨?_, c2, c3⟩
    rw [nx c (fun q => ax.no (q ▸ hc)) (fun q => ad.no (q ▸ hc))]; exact c1
  · obtain ⟨⟨ws, k, f1, f4⟩, k1, k2⟩ := S1.om p hp
    refine ⟨⟨ws, k, f1, f4.mono up⟩, ?_, k2⟩
    have hm := List.mem_map_of_mem (f := fun q : Addr × List D => q.1) hp
    rw [nx p.1 (fun q => ax.nw (q ▸ hm)) (fun q => ad.nw (q ▸ hm))]; exact k1
/-- and let go again: what lies on no heap stays known -/
theorem St.unhold (S : St C g₀ H₀ env own ω σ g s) {x dx : Addr} {ox od : Obj} (hx : s.heap.get? x = some ox) (hd : s.heap.get? dx = some od) (ax : Alien env own ω g H₀ x) (ad : Alien env own ω g H₀ dx) (hne : x ≠ dx) (fx : ∀ vs, ox.data ≠ .fields vs) (fd : ∀ vs, od.data ≠ .fields vs)
    (S' : St C ((g.put x ox).put dx od) (hideAll s.heap (Mine.hid env own ω)) env own ω' σ' g' s') {σ'' : Sg} (hs : Sub σ'' σ') (hg : ∀ y d, σ''.lookup y = some d → d.gr = true) (hw : ∀ p ∈ ω', ∀ d ∈ p.2, d.gr = true) :
    ∃ g'', St C g₀ H₀ env own ω' σ'' g'' s' ∧ s'.heap.get? x = some ox ∧ s'.heap.get? dx = some od ∧ Alien env own ω' g'' H₀ x ∧ Alien env own ω' g'' H₀ dx := by
  have e1 : g' x = some ox := S'.up _ _ (by rw [put_of_ne hne, Fz.put_self])
  have e2 : g' dx = some od := S'.up _ _ (Fz.put_self _ _ _)
  have dn : ∀ {b : Addr}, g' b = none → (g'.del x).del dx b = none := fun {b} h => by
    cases q : (g'.del x).del dx b with
    | none => rfl
    | some o => have := (Fz.del_some (Fz.del_some q).2).2; rw [h] at this; cases this
  have ds : ∀ {b : Addr} {o : Obj}, g' b = some o → b ≠ x → b ≠ dx → (g'.del x).del dx b = some o := fun {b o} h h1 h2 => by rw [Fz.del_ne h2, Fz.del_ne h1]; exact h
  have gne : ∀ {b : Addr} {o : Obj}, g b = some o → b ≠ x ∧ b ≠ dx := fun {b o} e => ⟨(fun q => by rw [q, ax.g] at e; cases e), (fun q => by rw [q, ad.g] at e; cases e)⟩
  have gup : ∀ b o, g b = some o → g' b = some o := fun b o e => S'.up b o (by rw [put_of_ne (gne e).2, put_of_ne (gne e).1]; exact e)
  have S'' : St C g (hideAll s.heap (Mine.hid env own ω)) env own ω' σ'' ((g'.del x).del dx) s' := by
    obtain ⟨m, n', b⟩ := S'.vars.ns
    refine ⟨⟨⟨fun b o e => S'.vars.hp.sub b o (Fz.del_some (Fz.del_some e).2).2, fun b o e => ?_, dn S'.vars.hp.t128, ?_, S'.vars.hp.gens, S'.vars.hp.os⟩, m, n', fun y d e => ?_⟩, fun b o e => ds (gup b o e) (gne e).1 (gne e).2, fun b o e => ?_, S'.kept, ⟨dn S'.fL.1, S'.fL.2⟩, fun c hc => ?_, S'.nd, S'.ec, fun p hp => ?_, S'.ond⟩
    · have h := S.vars.hp.base b o e
      exact ds (gup b o h) (gne h).1 (gne h).2
    · obtain ⟨ps, e, y⟩ := S'.vars.hp.tab
      refine ⟨ps, e, (y.del fun o vs e q => ?_).del fun o vs e q => ?_⟩
      · rw [e1] at e; cases e; exact fx _ q
      · rw [Fz.del_ne hne.symm, e2] at e; cases e; exact fd _ q
    · rcases b y d (hs y d e) with ⟨k, v, hv, r⟩ | ⟨k, c, v, hc, hv, r⟩
      · exact .inl ⟨k, v, hv, r.ground (hg y d e)⟩
      · exact .inr ⟨k, c, v, hc, hv, r.ground (hg y d e)⟩
    · obtain ⟨h2, h⟩ := Fz.del_some e
      obtain ⟨h1, h⟩ := Fz.del_some h
      rcases S'.new b o h with h | h
      · rw [put_of_ne h2, put_of_ne h1] at h; exact .inl h
      · exact .inr h
    · obtain ⟨c1, c2, c3⟩ := S'.fC c hc
      exact ⟨dn c1, c2, c3⟩
    · obtain ⟨⟨ws, k, f1, f4⟩, k1, k2⟩ := S'.om p hp
      exact ⟨⟨ws, k, f1, f4.ground (hw p hp)⟩, dn k1, k2⟩
  have S3 := S.back S''
  have k1 : s'.heap.get? x = some ox := S'.vars.hp.sub _ _ e1
  have k2 : s'.heap.get? dx = some od := S'.vars.hp.sub _ _ e2
  have al : ∀ {b : Addr} {o : Obj}, Alien env own ω g H₀ b → s.heap.get? b = some o → (g'.del x).del dx b = none → Alien env own ω' ((g'.del x).del dx) H₀ b := fun {b o} a e h => by
    refine ⟨h, a.H, a.n8, a.nL, a.nc, a.no, fun q => ?_⟩
    obtain ⟨p, hp, rfl⟩ := List.mem_map.mp q
    have := (S'.om p hp).fresh
    rw [hideAll_get _ e a.hid] at this; cases this
  exact ⟨_, S3, k1, k2, al ax hx (by
    cases q : (g'.del x).del dx x with
    | none => rfl
    | some o => exact absurd rfl (Fz.del_some (Fz.del_some q).2).1), al ad hd (Fz.del_self _ _)⟩

/-- self.name = e -/
theorem st_setattr (O : C.OK) (S : St C g₀ H₀ env own ω σ g s) {x dx : Addr} {es : List DictEntry} {n : Nat} {name : Str} {xp ap pos : Pos} {e : Expr} {d : D} {Q : Flow → Shared → Prop} {E : Value → Shared → Prop} (hx : s.heap.get? x = some (instObj 83 dx)) (hd : s.heap.get? dx = some (dictOf es n))
    (ax : Alien env own ω g H₀ x) (ad : Alien env own ω g H₀ dx) (hself : σ.lookup (Str.ofString "self") = some (.raw (.ref x))) (he : Ev C A env σ e d) (ht : takerIn C.K 83 name = some none) (hl : (getL name es).isSome = true) (hz : ∀ tk v, (putL name (PyData.keyHash C.w.params name) (.str name tk) v es).length ≤ 1000)
    (k : ∀ v tk g' s', St C g₀ H₀ env own ω σ g' s' → s'.heap.get? x = some (instObj 83 dx) → s'.heap.get? dx = some (dictOf (putL name (PyData.keyHash C.w.params name) (.str name tk) v es) (putN name es n)) →
      Alien env own ω g' H₀ x → Alien env own ω g' H₀ dx → (∀ b o, g b = some o → g' b = some o) → Rep g' v d → Q .next s')
    (hk : env.scope.kind = .function := by rfl) (hs : swapsWith e (some (.Attribute (.Name (Str.ofString "self") xp) name ap)) pos.line env = pure false := by rfl) :
    wpAny C.M A (exec (.Assign [.Attribute (.Name (Str.ofString "self") xp) name ap] e pos) env) Q E s := by
  have al : ∀ {b : Addr} {o : Obj} {g1 : Fz} {s1 : Shared}, Grow C g s g1 s1 → Alien env own ω g H₀ b → s.heap.get? b = some o → Alien env own ω g1 H₀ b := fun {b o g1 s1} G a e => by
    refine ⟨?_, a.H, a.n8, a.nL, a.nc, a.no, a.nw⟩
    cases q : g1 b with
    | none => rfl
    | some o' => rcases G.new _ _ q with h | h
                 · rw [a.g] at h; cases h
                 · rw [e] at h; cases h
  refine plainObj_wpAny_Assign_Attribute (he g s _ E S.vars fun v g1 s1 G1 r1 => ev_var hself hk (by decide) (by decide) g1 s1 _ E (S.vars.grow G1) fun u g2 s2 G2 r2 => ?_) hs
  cases r2 using Rep.craw
  have G := G1.trans G2
  have S2 := S.grow G
  have ax2 := al G ax hx
  have ad2 := al G ad hd
  refine set_attr O S2.vars.hp (G.kept _ _ hx ax.n8) (G.kept _ _ hd ad.n8) ht hl rfl (hz _ _) fun h' tk e' hsb => ?_
  have S3 := S2.other (wr := [dx]) tk (fun b o hb e => (hsb.2 b (fun q => hb (by simp [q]))).trans e) (fun b hb => by simp at hb; subst hb; exact ad2)
  have hxd : x ≠ dx := fun q => by rw [q, hd] at hx; cases hx
  exact k v _ g2 _ S3 ((hsb.2 x hxd).trans (G.kept _ _ hx ax.n8)) e' ax2 ad2 G.up (G2.rep r1)
end
end

local macro_rules | `(tactic| walk_at "call") => `(tactic| first
  | ((with_reducible refine p_tuple ?_); walk_at "side"))
section
variable {C : Cx} {A : Around} {env : Env} {own : List Addr} {ω : Om} {σ : Sg} {Ψ : Post}

theorem Room.make {k : Nat} (R : Room A (k + 2)) {Cl : Addr} {vals : List Value} {env : Env} : Room ((A.under (.builtin "type.__call__" ⟨.ref Cl :: vals, []⟩)).deeper env) k := by
  refine ⟨R.handled, ?_, ?_⟩
  · have := R.depth; show A.depth + 1 + 1 + k < _; omega
  · have := R.units
    rw [units_deeper, units_under_make]
    omega
theorem Room.make' {k : Nat} (R : Room A (k + 2)) {Cl : Addr} {vals : List Value} : (A.under (.builtin "type.__call__" ⟨.ref Cl :: vals, []⟩)).depth < recursionLimit := by
  have := R.depth; show A.depth + 1 < _; omega

section
variable {g₀ g : Fz} {H₀ : Heap} {s : Shared}
theorem St.retype (S : St C g₀ H₀ env own ω σ g s) {y : Str} {d d' : D} (hy : σ.lookup y = some d) (h : ∀ v, Rep g v d → Rep g v d') : St C g₀ H₀ env own ω ((y, d') :: σ) g s :=
  { S with vars := ⟨S.vars.hp, by
      obtain ⟨m, n, b⟩ := S.vars.ns
      refine ⟨m, n, fun z e he => ?_⟩
      rcases lookup_cons_ne he with ⟨rfl, rfl⟩ | ⟨_, he⟩
      · rcases b _ _ hy with ⟨k, v, hv, r⟩ | ⟨k, c, v, hc, hv, r⟩
        · exact .inl ⟨k, v, hv, h v r⟩
        · exact .inr ⟨k, c, v, hc, hv, h v r⟩
      · exact b z e he⟩ }
end
theorem ev_lies {e : Expr} {a : Addr} {d : D} (h : Ev C A env σ e (.lies a d)) : Ev C A env σ e d := fun g s Q E V k => h g s Q E V fun v g' s' G r => by
  cases r with
  | lies r => exact k _ _ _ G r

theorem code_K (O : C.OK) {k : Nat} (hroom : A.depth < recursionLimit) (hR : ∀ env, Room (A.deeper env) k) {f c : Addr} {oc : Obj} {fvs : Array Value} {ft : Tok} {od : Option Addr} {sl : Array (Option Value)} {ocl : Value} {name qual : Str} {params : Arguments} {body : List Stmt} {scope : Scope} {pm doc : Value} {an : Option Addr} {ct : Value}
    {s : Shared} {vs : List Value} {ds : List D} {xs : List Str} {Rr : Result → Shared → Prop} {g : Fz} {H₀ : Heap}
    (hK : C.K.lookup f = some ⟨ocl, od, .func (fnX name qual params body scope [] .none .none doc pm an (.ref c) ct), sl⟩)
    (hc1 : C.K.lookup c = some oc) (hc2 : oc.data = .fields fvs) (hc3 : fvs[1]? = some (.str qual ft)) (H : Hp C g s) (hH : ∀ b o, H₀.get? b = some o → s.heap.get? b = some o) (r : RepL g vs ds)
    (hb : bindArgs (fnX name qual params body scope [] .none .none doc pm an (.ref c) ct) ⟨vs, []⟩ = pure (xs.zip vs)) (hcell : ∀ x ∈ scope.names, x.2 ≠ .cell) (hloc : ∀ x ∈ xs, scope.names.lookup x = some .local)
    (h : ∀ A' s' E, Room A' k → St C g H₀ (envX qual scope s.heap.objs.size f (.ref c) []) [] [] (xs.zip ds).reverse g s' → (∀ b o, s.heap.get? b = some o → s'.heap.get? b = some o) →
      (∀ b, H₀.get? b = none → (∃ o, s.heap.get? b = some o) → b ≠ 128 → Alien (envX qual scope s.heap.objs.size f (.ref c) []) [] [] g H₀ b ∨ ∃ o, g b = some o) →
      wpAny C.M A' (execs body (envX qual scope s.heap.objs.size f (.ref c) [])) (fun fl s' => Rr (.ok (.ret (match fl with | .ret v => v | _ => .none))) s') E s')
    (hco : scope.isCoroutine = false := by rfl) (hgen : scope.isGenerator = false := by rfl) (hk : scope.kind = .function := by rfl) : codeAny C.M A (.call (.ref f) ⟨vs, []⟩) Rr s := by
  have X : C.K.In s.heap := O.k.keeps H.kb
  refine codeAny_call_def hroom (X _ _ hK) rfl (O.nolimit.keeps H.kb) ⟨c, oc, fvs, ft, rfl, X _ _ hc1, hc2, hc3⟩ rfl (BindsTo.of_eq hb) hcell (fun x hx => hloc x.1 (List.of_mem_zip hx).1) (fun h₀ hn hkp => ?_) hco hgen hk
  have hL : s.heap.get? s.heap.objs.size = none := Heap.none_at _
  have hL0 : H₀.get? s.heap.objs.size = none := by
    cases q : H₀.get? s.heap.objs.size with
    | none => rfl
    | some o => rw [hH _ _ q] at hL; cases hL
  refine h _ _ _ (hR _) ?_ hkp ?_
  · refine ⟨⟨⟨fun b o e => hkp b o (H.sub b o e), H.base, H.t128, ?_, H.gens, H.os⟩, _, hn, fun x d e => ?_⟩, fun _ _ e => e, fun _ _ e => .inl e, fun b o e _ => hkp b o (hH b o e), ⟨H.none_g hL, hL0⟩, (fun c hc => by cases hc), List.nodup_nil, (fun c hc => by cases hc), (fun p hp => by cases hp), List.nodup_nil⟩
    · obtain ⟨ps, e, x⟩ := H.tab; exact ⟨ps, hkp _ _ e, x⟩
    · obtain ⟨v, hv, rv⟩ := (RepA.zip xs r).reverse.lookup e
      exact .inl ⟨hloc x (List.of_mem_zip (List.mem_reverse.mp (lookup_memV hv))).1, v, hv, rv⟩
  · rintro b h1 ⟨o, h2⟩ h8
    cases q : g b with
    | some o => exact .inr ⟨o, rfl⟩
    | none => exact .inl ⟨q, h1, h8, Nat.ne_of_lt (Heap.lt_size h2), List.not_mem_nil, List.not_mem_nil, List.not_mem_nil⟩

theorem Ex1.run {st : Stmt} {g₀ g : Fz} {H₀ : Heap} {s : Shared} {Q : Flow → Shared → Prop} {E : Value → Shared → Prop} (Ψ : Post) (S : St C g₀ H₀ env own ω σ g s) (h : Ex1 C A env own ω σ st Ψ)
    (k : ∀ f s' g' fd ω' σ', FlowIs g' f fd → St C g₀ H₀ env own ω' σ' g' s' → Ψ fd ω' σ' → Q f s') : wpAny C.M A (exec st env) Q E s := h g₀ H₀ g s Q E S k
theorem nsFind_nil (y : Str) : nsFind ([] : List DictEntry).toArray y = none := rfl
theorem nsFind_cons (n y : Str) (hsh : Int) (tk : Tok) (v : Value) (es : List DictEntry) : nsFind (⟨hsh, .str n tk, v⟩ :: es).toArray y = if y = n then some v else nsFind es.toArray y := by
  unfold nsFind findBy
  simp only [List.find?_toArray, List.find?_cons]
  by_cases h : y = n
  · subst h
    have : (Value.str y tk).isStr y = true := by simp [Value.isStr]
    rw [this, if_pos rfl]; rfl
  · have : (Value.str n tk).isStr y = false := by simp only [Value.isStr]; exact beq_eq_false_iff_ne.mpr fun q => h q.symm
    rw [this, if_neg h]
theorem strKeys_nil : StrKeys ([] : List DictEntry).toArray := fun e he => by simp at he
theorem strKeys_cons {n : Str} {hsh : Int} {tk : Tok} {v : Value} {es : List DictEntry} (h : StrKeys es.toArray) : StrKeys (⟨hsh, .str n tk, v⟩ :: es).toArray := fun e he => by
  simp at he
  rcases he with rfl | he
  · exact ⟨n, tk, rfl⟩
  · exact h e (by simpa using he)

theorem growF_set_len (cnt : List Int) (b : Int) (v : Int) : ((growF cnt b).set b.toNat v).length = (growF cnt b).length := List.length_set ..

theorem ws_ok (O : C.OK) (R : Room A 2) {x : Str} (hx : x.cps.size < 2 ^ 19) : CallV C A (.ref 83) [.str x] (initW x).d := by
  intro g s vs Q E H r k
  cases r using RepL.ccons with
  | cons r rs =>
    cases rs using RepL.cnil
    cases r using Rep.cstr with
    | str t =>
      show wpAny C.M A (call (.ref 83) [.str x t]) Q E s
      have X : C.K.In s.heap := O.k.keeps H.kb
      obtain ⟨hp, gens, drawn, toks, os⟩ := s
      refine wpAny_call (make_core (init := .ref 38) (makes_of X (by rfl)) (looks_findIn X (by rfl)) (fun self => bind_fn X self (by rfl)) (.inl rfl) ?_)
      -- the state in which __init__ is called
      have hsz : (hp.push emptyDict).objs.size = hp.objs.size + 1 := Heap.size_push ..
      have kp : ∀ b o, hp.get? b = some o → ((hp.push emptyDict).push (instObj 83 hp.objs.size)).get? b = some o := fun b o e => Heap.get?_push_of_some _ (Heap.get?_push_of_some _ e)
      have hX : ((hp.push emptyDict).push (instObj 83 hp.objs.size)).get? (hp.objs.size + 1) = some (instObj 83 hp.objs.size) := by rw [← hsz]; exact Heap.get?_push_size _ rfl
      have hD : ((hp.push emptyDict).push (instObj 83 hp.objs.size)).get? hp.objs.size = some (dictOf [] 0) := Heap.get?_push_of_some _ (Heap.get?_push_size _ rfl)
      generalize hh1 : (hp.push emptyDict).push (instObj 83 hp.objs.size) = h1 at kp hX hD
      have X1 : C.K.In h1 := X.keeps kp
      have H1 : Hp C g ⟨h1, gens, drawn, toks, os⟩ := ⟨fun b o e => kp b o (H.sub b o e), H.base, H.t128, (let ⟨ps, e, y⟩ := H.tab; ⟨ps, kp _ _ e, y⟩), H.gens, H.os⟩
      refine code_K (k := 0) (xs := [Str.ofString "self", Str.ofString "ws"]) (ds := [.raw (.ref (hp.objs.size + 1)), .str x]) (g := g) (H₀ := hp) O R.make' (fun env => R.make) (by rfl) (by rfl) (by rfl) (by rfl) H1 kp (.cons (.raw _) (.cons (.str _ _) .nil)) (by rfl) (by decide) (by decide) (fun A2 s0 E' R2 S0 hkp al => ?_)
      have hh2 := R2.handled
      have hXn : hp.get? (hp.objs.size + 1) = none := Heap.get?_none_of_le (by omega)
      have hDn : hp.get? hp.objs.size = none := Heap.none_at _
      have n8 : ∀ b, hp.get? b = none → b ≠ 128 := fun b h q => by
        obtain ⟨ps, e, _⟩ := H.tab
        rw [q] at h; dsimp only at e; rw [e] at h; cases h
      have axx := (al _ hXn ⟨_, hX⟩ (n8 _ hXn)).resolve_right (fun ⟨o, e⟩ => by rw [H.none_g hXn] at e; cases e)
      have add := (al _ hDn ⟨_, hD⟩ (n8 _ hDn)).resolve_right (fun ⟨o, e⟩ => by rw [H.none_g hDn] at e; cases e)
      -- self.raw = ws
      refine wpAny_execs_cons (st_setattr O S0 (hkp _ _ hX) (hkp _ _ hD) axx add (by rfl) (ev_var (by rfl)) (by rfl) (by rfl) (fun tk v => by show 1 ≤ 1000; omega) fun v1 tk1 g1 s1 S1 hx1 hd1 ax1 ad1 up1 r1 => ?_)
      have hd1 : s1.heap.get? hp.objs.size = some (dictOf [⟨PyData.keyHash C.w.params (Str.ofString "raw"), .str (Str.ofString "raw") tk1, v1⟩] 1) := hd1
      have hne : hp.objs.size + 1 ≠ hp.objs.size := by omega
      obtain ⟨Sh, uph⟩ := S1.hold hx1 hd1 ax1 ad1 hne
      have Sm := Sh.retype (y := Str.ofString "self") (d' := .lies (hp.objs.size + 1) (initSelf x)) (by rfl) (fun v r => by
        cases r
        refine .lies (.inst (vs := [v1]) (by rw [put_of_ne hne, Fz.put_self]) (Fz.put_self _ _ _) rfl (strKeys_cons strKeys_nil) ?_ (fun y hy => ?_) (.cons (r1.mono uph) .nil))
        · simp only [List.map_cons, List.map_nil, nsFind_cons, if_true]
        · rw [nsFind_cons, if_neg (by simpa using hy)]; rfl)
      dsimp only
      -- S, T = Whitespace.S, Whitespace.T
      refine wpAny_execs_cons (Ex1.run (fun f ω σ => f = .next ∧ ω = [] ∧ σ = _) Sm (ex_swap2 hh2 (ev_tuple (evL_cons (ev_clsattr (mc := .type "type") O (by walk_at "name") (by rfl) (by rfl)) (evL_cons (ev_clsattr (mc := .type "type") O (by walk_at "name") (by rfl) (by rfl)) evL_nil)) (by walk_at "side")) ⟨rfl, rfl, rfl⟩) fun f s2 g2 fd ω2 σ2 hf S2 hΨ => ?_)
      obtain ⟨rfl, rfl, rfl⟩ := hΨ
      cases hf
      dsimp only
      -- count = []
      refine wpAny_execs_cons (Ex1.run (fun f ω σ => f = .next ∧ ∃ a, ω = [(a, ([] : List Int).map .int)] ∧ σ = (Str.ofString "count", .raw (.ref a)) :: _) S2 (ex_own evL_nil (by walk_at "side") (fun a => ⟨rfl, a, rfl, rfl⟩)) fun f s3 g3 fd ω3 σ3 hf S3 hΨ => ?_)
      obtain ⟨rfl, a, rfl, rfl⟩ := hΨ
      cases hf
      dsimp only
      -- b = n = nt = 0
      refine wpAny_execs_cons (Ex1.run (fun f ω σ => f = .next ∧ ω = [(a, ([] : List Int).map .int)] ∧ σ = _) S3 (ex_three ev_int ⟨rfl, rfl, rfl⟩) fun f s4 g4 fd ω4 σ4 hf S4 hΨ => ?_)
      obtain ⟨rfl, rfl, rfl⟩ := hΨ
      cases hf
      dsimp only
      -- the loop
      refine wpAny_execs_cons (Ex1.run (fun f ω σ => f = .next ∧ ∃ a cnt b n nt, ω = [(a, cnt.map .int)] ∧ initG x.cps.toList [] 0 0 0 = (cnt, b, n, nt) ∧ 0 ≤ b ∧ b ≤ 2 ^ 19 ∧ cnt.length ≤ 2 ^ 19 + 1 ∧
          Sub [(Str.ofString "count", .raw (.ref a)), (Str.ofString "b", .int b), (Str.ofString "n", .int n), (Str.ofString "nt", .int nt), (Str.ofString "self", .lies (hp.objs.size + 1) (initSelf x))] σ) S4
        (ex_for (ev_attr (i := 0) O (ev_lies (ev_var (by rfl))) (by rfl) (by rfl) (by rfl) (by rfl) (by rfl) (by rfl)) (itr_str hh2)
        (fun k ω σ => ∃ a cnt b n nt, ω = [(a, cnt.map .int)] ∧ initG (x.cps.toList.drop k) cnt b n nt = initG x.cps.toList [] 0 0 0 ∧ 0 ≤ b ∧ b ≤ k ∧ cnt.length ≤ k + 1 ∧
          Sub [(Str.ofString "count", .raw (.ref a)), (Str.ofString "b", .int b), (Str.ofString "n", .int n), (Str.ofString "nt", .int nt), (Str.ofString "self", .lies (hp.objs.size + 1) (initSelf x)), (Str.ofString "S", .str (Str.ofString " ")), (Str.ofString "T", .str (Str.ofString "\t"))] σ)
        ⟨a, [], 0, 0, 0, rfl, rfl, by omega, by omega, by simp, .cons rfl (.cons rfl (.cons rfl (.cons rfl (.cons rfl (.cons rfl (.cons rfl .nil))))))⟩ ?_ ?_) fun f s5 g5 fd ω5 σ5 hf S5 hΨ => ?_)
      · rintro i d ω σ hd ⟨a, cnt, b, n, nt, rfl, hi, hb0, hbi, hcl, hσ⟩
        obtain ⟨c, rfl, hc⟩ := signs_get hd
        have hil : i < x.cps.size := by
          have := List.getElem?_eq_some_iff.mp hd
          obtain ⟨h, _⟩ := this
          simpa [signs] using h
        rw [hc, initG] at hi
        refine Ex.weaken ?_ hσ.push
        refine ex_cons (ex_if (by walk_at "evt") (fun h1 => ?_) (fun h1 => ?_))
        · rw [sign_eq c 32 _ str_sp, decide_eq_true_eq] at h1
          rw [if_pos h1] at hi
          refine ex_cons (ex_assign (by walk_at "ev") (ex_cons (ex_assign (by walk_at "ev") (ex_nil (ex_nil ⟨a, cnt, b + 1, n + 1, nt, rfl, hi, by omega, by omega, by omega, .cons rfl (.cons rfl (.cons rfl (.cons rfl (.cons rfl (.cons rfl (.cons rfl .nil))))))⟩)))))
        · rw [sign_eq c 32 _ str_sp, decide_eq_false_iff_not] at h1
          rw [if_neg h1] at hi
          refine ex_cons (ex_if (by walk_at "evt") (fun h2 => ?_) (fun h2 => ?_))
          · rw [sign_eq c 9 _ str_tab, decide_eq_true_eq] at h2
            rw [if_pos h2] at hi
            have hgl := growF_len cnt b hb0
            refine ex_cons (ex_assign (by walk_at "ev") (ex_cons (ex_assign (by walk_at "ev") ?_)))
            refine ex_cons (ex_if_view (x := Str.ofString "count") (by rfl) (by walk_at "evt") (fun h3 => ?_) (fun h3 => ex_nil ?_))
            · simp only [List.length_map, decide_eq_true_eq] at h3
              have hg : growF cnt b = cnt ++ List.replicate (b - cnt.length + 1).toNat 0 := by rw [growF, if_pos h3]
              refine ex_cons (ex_concat (ms := List.replicate (b - cnt.length + 1).toNat 0) (by rfl) (Ev.to (ev_bin (by walk_at "ev") (by walk_at "ev") (p_mull (by simp only [List.length_map]; omega) (by simp only [List.length_map]; omega) (by simp only [List.length_map]; omega))) (by rw [List.map_replicate, List.length_map])) (by rw [PySem.sizeLine_eq, List.length_replicate]; omega) fun a' => ex_nil ?_)
              rw [← hg]
              refine ex_cons (ex_setitem (by rfl) (ev_bin (ev_item (ev_var (by rfl)) (by walk_at "ev") (by omega) (by omega) (ints_at (by omega))) (by walk_at "ev") (by walk_at "prim")) (by walk_at "ev") (by omega) (by omega) (by omega) ?_)
              refine ex_cons (ex_assign (by walk_at "ev") (ex_nil (ex_nil (ex_nil ⟨_, _, 0, _, _, rfl, hi, by omega, by omega, by rw [List.length_set]; omega, .cons rfl (.cons rfl (.cons rfl (.cons rfl (.cons rfl (.cons rfl (.cons rfl .nil))))))⟩))))
            · simp only [List.length_map, decide_eq_false_iff_not] at h3
              have hg : growF cnt b = cnt := by rw [growF, if_neg h3]
              rw [hg] at hi hgl
              refine ex_cons (ex_setitem (by rfl) (ev_bin (ev_item (ev_var (by rfl)) (by walk_at "ev") (by omega) (by omega) (ints_at (by omega))) (by walk_at "ev") (by walk_at "prim")) (by walk_at "ev") (by omega) (by omega) (by omega) ?_)
              refine ex_cons (ex_assign (by walk_at "ev") (ex_nil (ex_nil (ex_nil ⟨_, _, 0, _, _, rfl, hi, by omega, by omega, by rw [List.length_set]; omega, .cons rfl (.cons rfl (.cons rfl (.cons rfl (.cons rfl (.cons rfl (.cons rfl .nil))))))⟩))))
          · rw [sign_eq c 9 _ str_tab, decide_eq_false_iff_not] at h2
            rw [if_neg h2] at hi
            exact ex_cons (ex_break ⟨rfl, a, cnt, b, n, nt, rfl, hi.symm, hb0, by omega, by omega, .cons rfl (.cons rfl (.cons rfl (.cons rfl (.cons rfl .nil))))⟩)
      · rintro ω σ ⟨a, cnt, b, n, nt, rfl, hi, hb0, hbi, hcl, hσ⟩
        have hl : (signs x).length = x.cps.size := by simp [signs]
        rw [List.drop_eq_nil_of_le (by rw [hl]; simp), initG] at hi
        refine ⟨rfl, a, cnt, b, n, nt, rfl, hi.symm, hb0, by omega, by omega, ?_⟩
        exact .cons (hσ _ _ rfl) (.cons (hσ _ _ rfl) (.cons (hσ _ _ rfl) (.cons (hσ _ _ rfl) (.cons (hσ _ _ rfl) .nil))))
      obtain ⟨rfl, a, cnt, b, n, nt, rfl, hin, hb0, hb1, hcl, hσ⟩ := hΨ
      cases hf
      dsimp only
      have S5r := (S5.weaken hσ).retype (y := Str.ofString "self") (d' := .raw (.ref (hp.objs.size + 1))) (by rfl) (fun v r => by cases r; exact .raw _)
      obtain ⟨g6, S6, hx6, hd6, ax6, ad6⟩ := S1.unhold hx1 hd1 ax1 ad1 hne (fun vs q => by cases q) (fun vs q => by cases q) S5r
        (σ'' := [(Str.ofString "self", .raw (.ref (hp.objs.size + 1))), (Str.ofString "count", .raw (.ref a)), (Str.ofString "b", .int b), (Str.ofString "n", .int n), (Str.ofString "nt", .int nt)])
        (.cons rfl (.cons rfl (.cons rfl (.cons rfl (.cons rfl .nil))))) (fun y d e => by
          have := lookup_memV e
          simp at this
          rcases this with ⟨_, rfl⟩ | ⟨_, rfl⟩ | ⟨_, rfl⟩ | ⟨_, rfl⟩ | ⟨_, rfl⟩ <;> rfl) (fun p hp => by
          simp at hp; subst hp; exact ints_gr cnt)
      obtain ⟨g7, S7, g67⟩ := S6.freeze (x := Str.ofString "count") (by rfl)
      have al7 : ∀ {env : Env} {b : Addr}, Alien env [] [(a, cnt.map .int)] g6 hp b → Alien env [] [] g7 hp b := fun {env b} h => ⟨by rw [g67 b (fun q => h.nw (by simp [q]))]; exact h.g, h.H, h.n8, h.nL, h.nc, h.no, List.not_mem_nil⟩
      -- self.n, self.nt, self.norm, self.is_simple
      refine wpAny_execs_cons (st_setattr O S7 hx6 hd6 (al7 ax6) (al7 ad6) (by rfl) (by walk_at "ev") (by rfl) (by rfl) (fun tk v => by show 2 ≤ 1000; omega) fun v8 tk8 g8 s8 S8 hx8 hd8 ax8 ad8 up8 r8 => ?_)
      dsimp only
      have hd8 : s8.heap.get? hp.objs.size = some (dictOf [⟨PyData.keyHash C.w.params (Str.ofString "raw"), .str (Str.ofString "raw") tk1, v1⟩, ⟨PyData.keyHash C.w.params (Str.ofString "n"), .str (Str.ofString "n") tk8, v8⟩] 2) := hd8
      refine wpAny_execs_cons (st_setattr O S8 hx8 hd8 ax8 ad8 (by rfl) (by walk_at "ev") (by rfl) (by rfl) (fun tk v => by show 3 ≤ 1000; omega) fun v9 tk9 g9 s9 S9 hx9 hd9 ax9 ad9 up9 r9 => ?_)
      dsimp only
      have hd9 : s9.heap.get? hp.objs.size = some (dictOf [⟨PyData.keyHash C.w.params (Str.ofString "raw"), .str (Str.ofString "raw") tk1, v1⟩, ⟨PyData.keyHash C.w.params (Str.ofString "n"), .str (Str.ofString "n") tk8, v8⟩, ⟨PyData.keyHash C.w.params (Str.ofString "nt"), .str (Str.ofString "nt") tk9, v9⟩] 3) := hd9
      refine wpAny_execs_cons (st_setattr O S9 hx9 hd9 ax9 ad9 (by rfl) (by walk_at "ev") (by rfl) (by rfl) (fun tk v => by show 4 ≤ 1000; omega) fun va tka ga sa Sa hxa hda axa ada upa ra => ?_)
      dsimp only
      have hda : sa.heap.get? hp.objs.size = some (dictOf [⟨PyData.keyHash C.w.params (Str.ofString "raw"), .str (Str.ofString "raw") tk1, v1⟩, ⟨PyData.keyHash C.w.params (Str.ofString "n"), .str (Str.ofString "n") tk8, v8⟩, ⟨PyData.keyHash C.w.params (Str.ofString "nt"), .str (Str.ofString "nt") tk9, v9⟩, ⟨PyData.keyHash C.w.params (Str.ofString "norm"), .str (Str.ofString "norm") tka, va⟩] 4) := hda
      refine wpAny_execs_cons (st_setattr O Sa hxa hda axa ada (by rfl) (by walk_at "ev") (by rfl) (by rfl) (fun tk v => by show 5 ≤ 1000; omega) fun vb tkb gb sb Sb hxb hdb axb adb upb rb => ?_)
      dsimp only
      have hdb : sb.heap.get? hp.objs.size = some (dictOf [⟨PyData.keyHash C.w.params (Str.ofString "raw"), .str (Str.ofString "raw") tk1, v1⟩, ⟨PyData.keyHash C.w.params (Str.ofString "n"), .str (Str.ofString "n") tk8, v8⟩, ⟨PyData.keyHash C.w.params (Str.ofString "nt"), .str (Str.ofString "nt") tk9, v9⟩, ⟨PyData.keyHash C.w.params (Str.ofString "norm"), .str (Str.ofString "norm") tka, va⟩, ⟨PyData.keyHash C.w.params (Str.ofString "is_simple"), .str (Str.ofString "is_simple") tkb, vb⟩] 5) := hdb
      refine wpAny_execs_nil ⟨rfl, ?_⟩
      obtain ⟨Sf, upf⟩ := Sb.hold hxb hdb axb adb hne
      refine k (.ref (hp.objs.size + 1)) _ sb ⟨Sf.vars.hp, fun b o e => upf b o (Sb.up b o e), fun b o e => ?_, Sb.kept⟩ ?_
      · by_cases q : b = hp.objs.size
        · exact .inr (by rw [q]; exact hDn)
        · rw [put_of_ne q] at e
          by_cases q' : b = hp.objs.size + 1
          · exact .inr (by rw [q']; exact hXn)
          · rw [put_of_ne q'] at e
            exact Sb.new b o e
      · have hw : (initW x) = ⟨x, n, nt, cnt, b⟩ := by simp only [initW, hin]
        rw [hw]
        refine .inst (vs := [v1, v8, v9, va, vb]) (by rw [put_of_ne hne, Fz.put_self]) (Fz.put_self _ _ _) rfl (strKeys_cons (strKeys_cons (strKeys_cons (strKeys_cons (strKeys_cons strKeys_nil))))) (by rfl) (fun y hy => ?_)
          (.cons (r1.ground rfl) (.cons (r8.ground rfl) (.cons (r9.ground rfl) (.cons ((ra.mono upb).mono upf) (.cons ?_ .nil)))))
        · simp only [wsN, List.mem_cons, List.not_mem_nil, or_false, not_or] at hy
          rw [nsFind_cons, if_neg hy.1, nsFind_cons, if_neg hy.2.1, nsFind_cons, if_neg hy.2.2.1, nsFind_cons, if_neg hy.2.2.2.1, nsFind_cons, if_neg hy.2.2.2.2]; rfl
        · rw [List.length_map] at rb
          exact rb.ground rfl
end

local macro_rules | `(tactic| walk_at "call") => `(tactic| first
  | ((with_reducible refine longest_ok ?_ ?_ ?_) <;> first | with_reducible assumption | exact Room.less (by assumption) (by decide) | walk_at "side")
  | ((with_reducible refine indent_ok ?_ ?_ ?_ ?_ ?_) <;> first | with_reducible assumption | exact Room.less (by assumption) (by decide) | walk_at "side"))
section
variable {C : Cx} {A : Around} {env : Env} {own : List Addr} {ω : Om} {σ : Sg} {Ψ : Post}

theorem mul_ok1 {x : Str} {c : Nat} {n : Int} (hx : x = ⟨#[c]⟩) (h0 : 0 ≤ n) (h : n < 2 ^ 16) : MulOk x n := by
  subst hx
  have hl : (⟨#[c]⟩ : Str).length = 1 := rfl
  refine ⟨by simp; omega, fun h1 _ => ?_, fun _ _ => ?_⟩
  · rw [hl]
    have : (1 : Int) ≤ (2 ^ 63 - 1) / n := by rw [Int.le_ediv_iff_mul_le (by omega)]; omega
    omega
  · unfold PySem.Builtin.Str.tooLong; rw [hl]
    simp [sizeLine_eq]
    omega
theorem mul_len1 {x : Str} {c : Nat} {n : Int} (hx : x = ⟨#[c]⟩) : (Txt.mul x n).length = n.toNat := by
  subst hx
  show (Txt.mul ⟨#[c]⟩ n).cps.size = _
  rw [← Array.length_toList, mul_one_list, List.length_replicate]
noncomputable def plainS (a b : Int) : Str := Txt.mul (Str.ofString "\t") a ++ Txt.mul (Str.ofString " ") b ++ Str.ofString "y\t "
theorem str_yts : Str.ofString "y\t " = ⟨#[121, 9, 32]⟩ := by decide +kernel
theorem plainS_codes (a b : Int) : (plainS a b).cps.toList = List.replicate a.toNat 9 ++ List.replicate b.toNat 32 ++ [121, 9, 32] := by
  unfold plainS
  rw [Str.cps_append, Str.cps_append, Array.toList_append, Array.toList_append, str_tab, str_sp, mul_one_list, mul_one_list, str_yts]
noncomputable def plainW (a b : Int) : Wd := initW (plainS a b)

theorem initG_bound : ∀ (l : List Nat) (cnt : List Int) (b n nt : Int), 0 ≤ b → 0 ≤ (initG l cnt b n nt).2.1 ∧ (initG l cnt b n nt).2.1 ≤ b + l.length ∧ ((initG l cnt b n nt).1.length : Int) ≤ max (cnt.length : Int) (b + l.length + 1)
  | [], cnt, b, n, nt, h => by simp only [initG, List.length_nil]; omega
  | k :: r, cnt, b, n, nt, h => by
    rw [initG]
    split
    · have := initG_bound r cnt (b + 1) (n + 1) nt (by omega)
      simp only [List.length_cons]; omega
    · split
      · have h1 := initG_bound r ((growF cnt b).set b.toNat ((growF cnt b).getD b.toNat 0 + 1)) 0 (n + 1) (nt + 1) (by omega)
        have h2 := growF_len cnt b h
        rw [List.length_set] at h1
        simp only [List.length_cons]; omega
      · simp only [List.length_cons]; omega
theorem initW_ok {x : Str} (h : x.cps.size < 2 ^ 19) : (initW x).ok := by
  have := initG_bound x.cps.toList [] 0 0 0 (by omega)
  rw [Array.length_toList] at this
  simp only [List.length_nil] at this
  exact ⟨by show (initG x.cps.toList [] 0 0 0).1.length < _; omega, by show (initG x.cps.toList [] 0 0 0).2.1 < _; omega⟩

theorem plain_ok (O : C.OK) (R : Room A 3) {a b : Int} (ha : 0 ≤ a) (ha' : a < 2 ^ 16) (hb : 0 ≤ b) (hb' : b < 2 ^ 16) : CallV C A (.ref 126) [.int a, .int b] (plainW a b).d := by
  refine callV_K (xs := [Str.ofString "a", Str.ofString "b"]) O R (by rfl) (by rfl) (by rfl) (by rfl) (fun vs h => ?_) (by decide) (by decide) (fun L A R => ?_)
  · obtain ⟨v, u, rfl⟩ := two_of h
    rfl
  · have hh := R.handled
    have l1 := mul_len1 (n := a) str_tab
    have l2 := mul_len1 (n := b) str_sp
    have l3 : (Str.ofString "y\t ").length = 3 := by rw [str_yts]; rfl
    have hs : (plainS a b).cps.size < 2 ^ 19 := by rw [← Array.length_toList, plainS_codes]; simp; omega
    refine ex_cons (ex_ret (ev_call O (by walk_at "name") (by rfl) (evL_cons (ev_bin (ev_bin (ev_bin (by walk_at "ev") (by walk_at "ev") (p_muls (mul_ok1 str_tab ha ha'))) (ev_bin (by walk_at "ev") (by walk_at "ev") (p_muls (mul_ok1 str_sp hb hb'))) (p_adds (by rw [l1, l2, sizeLine_eq]; omega)))
      (by walk_at "ev") (p_adds (by rw [Str.length_append, l1, l2, l3, sizeLine_eq]; omega))) evL_nil) (ws_ok O R hs) ⟨_, _, rfl, rfl, rfl⟩) ?_)
    rfl
end

section
variable {C : Cx} {A : Around} {env : Env} {own : List Addr} {ω : Om} {σ : Sg} {Ψ : Post}

noncomputable def roomP (w : Wd) (a b : Int) : Bool := !lessF (plainW a b) w
noncomputable def roomF (w : Wd) (a : Int) : Int :=
  if a.fmod 2 = 0 then bisF (fun m => !(!roomP w a ((upto 0 (w.n - a)).getD m.toNat 0) && true)) (upto 0 (w.n - a)).length
  else bisF (fun m => !false && roomP w a ((upto 0 (w.n - a)).getD m.toNat 0)) (upto 0 (w.n - a)).length

theorem plainW_ok {a b : Int} (ha : 0 ≤ a) (ha' : a < 2 ^ 16) (hb : 0 ≤ b) (hb' : b < 2 ^ 16) : (plainW a b).ok := by
  refine initW_ok ?_
  rw [← Array.length_toList, plainS_codes]; simp; omega

theorem room_ok (O : C.OK) (R : Room A 6) {w : Wd} (hw : w.ok) (hn0 : 0 ≤ w.n) (hn : w.n < 2 ^ 15) {a : Int} (ha : 0 ≤ a) (ha' : a < 2 ^ 15) : CallV C A (.ref 133) [w.d, .int a] (.int (roomF w a)) := by
  refine callV_C (xs := [Str.ofString "lead", Str.ofString "a"]) O R (by rfl) (by rfl) (by rfl) (by rfl) (by rfl) (by rfl) (by rfl) (by rfl) (fun vs h => ?_) (fun n => ?_) (by decide) (fun L A R => ?_)
  · obtain ⟨v, u, rfl⟩ := two_of h
    rfl
  · intro x hx
    simp only [List.mem_cons, List.not_mem_nil, or_false] at hx
    rcases hx with rfl | rfl
    · exact .inr ⟨by rfl, by rfl⟩
    · exact .inr ⟨by rfl, by rfl⟩
  · have hh := R.handled
    have hl : (upto 0 (w.n - a)).length < 2 ^ 24 := by rw [upto_len]; omega
    have hsm : Builtin.Range.small 0 (w.n - a) 1 = true := small_one (by omega) (by omega) (by omega) (by omega)
    refine ex_cons (ex_assign (ev_callT (by walk_at "name") (evL_cons (ev_callT (by walk_at "name") (evL_cons (ev_bin (by walk_at "ev") (by walk_at "ev") p_sub) evL_nil) p_range1) evL_nil) (p_list_rng hh hsm (by omega))) ?_)
    refine ex_cons (ex_if (evT_cmp (ev_bin (by walk_at "ev") (by walk_at "ev") (p_mod (by decide))) (by walk_at "ev") p_eq) (fun q => ?_) (fun q => ex_nil ?_))
    · refine ex_cons (ex_ret_kwlam (c1 := L + 1) (c2 := L + 1 + 1) (n1 := Str.ofString "lead") (n2 := Str.ofString "a") O (by walk_at "name") (by rfl) (evL_cons (by walk_at "ev") (evL_cons (by walk_at "ev") evL_nil)) (by rfl) (by rfl) (by rfl) (by rfl) (by rfl) (Nat.ne_of_lt (Nat.lt_succ_self _)) (List.mem_cons_of_mem _ (List.mem_cons_self ..)) (List.mem_cons_self ..) (by rfl) (by rfl) (by rfl) (by rfl) (by rfl) (by rfl) (bisLK_ok (kf := roomP w a) O R hl fun A b R hb => ?_) (by rfl) ?_)
      · have hb := upto_mem.mp hb
        refine lam_call (xs := [Str.ofString "b"]) O R (fun fd vs h1 h2 h3 h => ?_) (by decide) (by decide) (by decide) (by decide) (fun L A q c cs R hcs => ?_)
        · obtain ⟨v, rfl⟩ := one_of h
          cases fd; simp only at h1 h2 h3; subst h1 h2 h3; rfl
        · obtain ⟨c1, c2, rfl⟩ := two_of hcs
          exact ev_un (ev_method O (ev_call O (by walk_at "name") (by rfl) (by walk_at "evl") (plain_ok O R ha (by omega) (by omega) (by omega)) ⟨_, _, rfl, rfl, rfl⟩) (by decide) (by rfl) (by rfl) (by rfl) (by rfl) (by walk_at "evl") (less_ok O (R.less (by decide)) _ _ (plainW_ok ha (by omega) (by omega) (by omega)) hw)) p_not
      · simp [Ends, roomF]
    · refine ex_cons (ex_ret_kwlam (c1 := L + 1) (c2 := L + 1 + 1) (n1 := Str.ofString "lead") (n2 := Str.ofString "a") O (by walk_at "name") (by rfl) (evL_cons (by walk_at "ev") (evL_cons (by walk_at "ev") evL_nil)) (by rfl) (by rfl) (by rfl) (by rfl) (by rfl) (Nat.ne_of_lt (Nat.lt_succ_self _)) (List.mem_cons_of_mem _ (List.mem_cons_self ..)) (List.mem_cons_self ..) (by rfl) (by rfl) (by rfl) (by rfl) (by rfl) (by rfl) (bisRK_ok (kf := roomP w a) O R hl fun A b R hb => ?_) (by rfl) ?_)
      · have hb := upto_mem.mp hb
        refine lam_call (xs := [Str.ofString "b"]) O R (fun fd vs h1 h2 h3 h => ?_) (by decide) (by decide) (by decide) (by decide) (fun L A q c cs R hcs => ?_)
        · obtain ⟨v, rfl⟩ := one_of h
          cases fd; simp only at h1 h2 h3; subst h1 h2 h3; rfl
        · obtain ⟨c1, c2, rfl⟩ := two_of hcs
          exact ev_un (ev_method O (ev_call O (by walk_at "name") (by rfl) (by walk_at "evl") (plain_ok O R ha (by omega) (by omega) (by omega)) ⟨_, _, rfl, rfl, rfl⟩) (by decide) (by rfl) (by rfl) (by rfl) (by rfl) (by walk_at "evl") (less_ok O (R.less (by decide)) _ _ (plainW_ok ha (by omega) (by omega) (by omega)) hw)) p_not
      · simp [Ends, roomF]
end

section
variable {C : Cx} {A : Around} {env : Env} {own : List Addr} {ω : Om} {σ : Sg} {Ψ : Post}

noncomputable def leadS (ns : List Int) (k : Int) : Int := (pickNums ns (some k) none (some 4)).sum
noncomputable def lead3 (ns : List Int) : List Int := [(leadS ns 0 + 5).fmod 6, (leadS ns 1 + 1).fmod 4, (leadS ns 2).fmod 2]
noncomputable def leadC (ns : List Int) : List Int := pickNums (lead3 ns) none (some (1 + (ns.sum + 1).fmod 3)) none
noncomputable def leadR (ns : List Int) : List Int := if (ns.sum.fmod 2 == 1) = true then pickNums (leadC ns) none none (some (-1)) else leadC ns
noncomputable def leadT (ns : List Int) : Int := (leadS ns 3 + 2).fmod 3

theorem pick_len (ns : List Int) (lo hi st : Option Int) : (pickNums ns lo hi st).length ≤ ns.length :=
  length_pickNums_le (vs := ns.map fun i => .int i 0) (by induction ns with | nil => exact .nil | cons i ns ih => exact .cons _ _ ih) lo hi st

theorem ev_sumS (O : C.OK) (hh : A.handled = none) {d : D} {ns : List Int} {p1 : Pos} {k : Int} {a1 a2 a3 a4 a5 a6 : Pos} {i j : Nat} (hx : env.kindOf (Str.ofString "sum") = some .globalImplicit) (hg : env.globals = mainGlobals) (hb : env.builtins = builtinsNs) (hk : env.scope.kind = .function) (hσ : σ.lookup (Str.ofString "script") = some d) (hL : Lst C d ns) (hsz : ns.length ≤ sizeLine) :
    Ev C A env σ (.Call (.Name (Str.ofString "sum") a1) [.Subscript (.Name (Str.ofString "script") a2) (.Slice (some (.Constant (.int k) i a3)) none (some (.Constant (.int 4) j a4)) a5) a6] [] p1) (.int (leadS ns k)) :=
  ev_callB (ev_b_sum O hx hg hb hk) (evL_cons (ev_slice3 (ev_var hσ hk) hL (evP_some ev_int) evP_none ev_int (by decide) hsz) evL_nil) (p_sumL hh lst_list)

theorem lead_ok (O : C.OK) (R : Room A 1) {d : D} {ns : List Int} (hL : Lst C d ns) (hsz : ns.length ≤ sizeLine) : CallV C A (.ref 112) [d] (.tup [.list ((leadR ns).map .int), .int (leadT ns)]) := by
  refine callV_K (xs := [Str.ofString "script"]) O R (by rfl) (by rfl) (by rfl) (by rfl) (fun vs h => ?_) (by decide) (by decide) (fun L A R => ?_)
  · obtain ⟨v, rfl⟩ := one_of h
    rfl
  · have hh := R.handled
    refine ex_cons (ex_assign (d := .list ((lead3 ns).map .int)) (ev_list (evL_cons (ev_bin (ev_bin (ev_sumS O hh rfl rfl rfl rfl rfl hL hsz) (by walk_at "ev") p_add) (by walk_at "ev") (p_mod (by decide))) (evL_cons (ev_bin (ev_bin (ev_sumS O hh rfl rfl rfl rfl rfl hL hsz) (by walk_at "ev") p_add) (by walk_at "ev") (p_mod (by decide))) (evL_cons (ev_bin (ev_sumS O hh rfl rfl rfl rfl rfl hL hsz) (by walk_at "ev") (p_mod (by decide))) evL_nil))) (by show 3 ≤ _; rw [sizeLine_eq]; omega)) ?_)
    refine ex_cons (ex_assign (d := .list ((leadC ns).map .int)) (ev_slice2 (by walk_at "ev") lst_list evP_none (evP_some (ev_bin (by walk_at "ev") (ev_bin (ev_bin (ev_callB (by walk_at "name") (by walk_at "evl") (p_sumL hh hL)) (by walk_at "ev") p_add) (by walk_at "ev") (p_mod (by decide))) p_add)) (by show 3 ≤ _; rw [sizeLine_eq]; omega)) ?_)
    have hcl : (leadC ns).length ≤ sizeLine := Nat.le_trans (pick_len _ _ _ _) (by show 3 ≤ _; rw [sizeLine_eq]; omega)
    refine ex_cons (ex_if (evT_cmp (ev_bin (ev_callB (by walk_at "name") (by walk_at "evl") (p_sumL hh hL)) (by walk_at "ev") (p_mod (by decide))) (by walk_at "ev") p_eq) (fun q => ?_) (fun q => ex_nil ?_))
    · refine ex_cons (ex_assign (ev_slice3 (by walk_at "ev") lst_list evP_none evP_none (by walk_at "ev") (by decide) hcl) (ex_nil ?_))
      refine ex_cons (ex_ret (ev_tuple (evL_cons (by walk_at "ev") (evL_cons (ev_bin (ev_bin (ev_sumS O hh rfl rfl rfl rfl rfl hL hsz) (by walk_at "ev") p_add) (by walk_at "ev") (p_mod (by decide))) evL_nil)) (by walk_at "side")) ?_)
      rw [leadR, if_pos q]; rfl
    · refine ex_cons (ex_ret (ev_tuple (evL_cons (by walk_at "ev") (evL_cons (ev_bin (ev_bin (ev_sumS O hh rfl rfl rfl rfl rfl hL hsz) (by walk_at "ev") p_add) (by walk_at "ev") (p_mod (by decide))) evL_nil)) (by walk_at "side")) ?_)
      rw [leadR, if_neg (by rw [q]; exact Bool.false_ne_true)]; rfl
end

section
variable {C : Cx} {A : Around} {env : Env} {own : List Addr} {ω : Om} {σ σ' : Sg} {Ψ : Post}

theorem stor_cell {x : Str} {c : Addr} (hk : env.kindOf x = some .cell) (hc : env.cells.lookup x = some c) (ho : env.cells.map (·.2) = own) : Storable env own x :=
  .inr ⟨hk, c, ho ▸ List.mem_map_of_mem (f := fun q : Str × Addr => q.2) (lookup_mem hc), hc⟩

noncomputable def asInt : D → Int
  | .int i => i
  | _ => 0
theorem filter_int (is : List Int) (p : Int → Bool) : (is.map D.int).filter (fun d => p (asInt d)) = (is.filter p).map D.int := by
  induction is with
  | nil => rfl
  | cons i is ih =>
    rw [List.map_cons, List.filter_cons, List.filter_cons, ih]
    show (if p i = true then _ else _) = _
    split <;> rfl
theorem filter_all (l : List D) : l.filter (fun _ => true) = l := by simp
theorem map_int {α : Type} (is : List Int) (G : Int → α) (f : α → D) : (is.map D.int).map (fun d => f (G (asInt d))) = (is.map G).map f := by
  simp [List.map_map, Function.comp_def, asInt]
theorem int_of_at {is : List Int} {i : Nat} {d : D} (h : (is.map D.int)[i]? = some d) : ∃ t, d = .int t ∧ t ∈ is := by
  rw [List.getElem?_map, Option.map_eq_some_iff] at h
  obtain ⟨t, ht, rfl⟩ := h
  exact ⟨t, rfl, List.mem_of_getElem? ht⟩

/-- what a comprehension asks of its scope -/
structure CompOK (C : Cx) (env : Env) (σ σ' : Sg) (scope : Scope) (cl : List (Str × Addr)) (x : Str) : Prop where
  clos : closureFor scope env = pure cl
  cau : Caught scope env σ cl σ'
  nd : ∀ g s, Vars C env σ g s → (cl.map (·.2)).Nodup
  fr : ∀ y ∈ σ'.map (·.1), y ∉ (cellsFrom 0 scope.names []).map (·.1)
  xs : σ'.lookup x = none
  kind : scope.kind = .function
  names : ∀ y ∈ scope.names, y.2 = .local → scope.names.lookup y.1 = some .local
  st : ∀ L, Storable (compX scope cl L env) (newCells scope L) x

theorem Caught.keys {scope : Scope} {cl : List (Str × Addr)} (h : Caught scope env σ cl σ') : cl.map (·.1) = σ'.map (·.1) := by
  induction h with
  | nil => rfl
  | cons _ _ _ _ _ ih => simp [ih]

/-- [e for x in is if c], over ints -/
theorem ev_compP {α : Type} {elt iter c : Expr} {x : Str} {px pos : Pos} {scope : Scope} {cl : List (Str × Addr)} {d : D} {is : List Int} (p : Int → Bool) (G : Int → α) (f : α → D)
    (K : CompOK C env σ σ' scope cl x) (hit : Ev C A env σ iter d) (hi : Itr C A d (is.map .int)) (hsz : is.length ≤ sizeLine)
    (ht : ∀ L t, t ∈ is → EvT C A (compX scope cl L env) ((x, .int t) :: σ') c (p t)) (he : ∀ L t, t ∈ is → p t = true → Ev C A (compX scope cl L env) ((x, .int t) :: σ') elt (f (G t)))
    (hs : ∀ x, foldedSetIterable iter env x = pure x := by intro _; rfl) :
    Ev C A env σ (.ListComp elt [⟨.Name x px, iter, [c], 0⟩] scope pos) (.list (((is.filter p).map G).map f)) := fun g s Q E V q => by
  have := ev_comp (A := A) (px := px) (pos := pos) (fun d => p (asInt d)) (fun d => f (G (asInt d))) hit hi (by rw [List.length_map]; exact hsz) K.clos K.cau (K.nd g s V) (K.cau.keys ▸ K.fr) K.xs K.kind K.names K.st
    (ifs := [c]) (elt := elt) (fun L i d hd => by obtain ⟨t, rfl, hm⟩ := int_of_at hd; exact evI_one (ht L t hm)) (fun L i d hd hp => by obtain ⟨t, rfl, hm⟩ := int_of_at hd; exact he L t hm hp) hs g s Q E V
  rw [filter_int, map_int] at this
  exact this q
theorem ev_compG {α : Type} {elt iter : Expr} {x : Str} {px pos : Pos} {scope : Scope} {cl : List (Str × Addr)} {d : D} {is : List Int} (G : Int → α) (f : α → D)
    (K : CompOK C env σ σ' scope cl x) (hit : Ev C A env σ iter d) (hi : Itr C A d (is.map .int)) (hsz : is.length ≤ sizeLine)
    (he : ∀ L t, t ∈ is → Ev C A (compX scope cl L env) ((x, .int t) :: σ') elt (f (G t)))
    (hs : ∀ x, foldedSetIterable iter env x = pure x := by intro _; rfl) :
    Ev C A env σ (.ListComp elt [⟨.Name x px, iter, [], 0⟩] scope pos) (.list ((is.map G).map f)) := fun g s Q E V q => by
  have := ev_comp (A := A) (px := px) (pos := pos) (fun d => true) (fun d => f (G (asInt d))) hit hi (by rw [List.length_map]; exact hsz) K.clos K.cau (K.nd g s V) (K.cau.keys ▸ K.fr) K.xs K.kind K.names K.st
    (ifs := []) (elt := elt) (fun L i d hd => evI_nil) (fun L i d hd hp => by obtain ⟨t, rfl, hm⟩ := int_of_at hd; exact he L t hm) hs g s Q E V
  rw [filter_all, map_int] at this
  exact this q
theorem ex_compP {α : Type} {elt iter c : Expr} {x y : Str} {px py pos spos : Pos} {scope : Scope} {cl : List (Str × Addr)} {d : D} {is : List Int} (p : Int → Bool) (G : Int → α) (f : α → D)
    (K : CompOK C env σ σ' scope cl x) (hnd : (cl.map (·.2)).Nodup) (hit : Ev C A env σ iter d) (hi : Itr C A d (is.map .int)) (hsz : is.length ≤ sizeLine)
    (ht : ∀ L t, t ∈ is → EvT C A (compX scope cl L env) ((x, .int t) :: σ') c (p t)) (he : ∀ L t, t ∈ is → p t = true → Ev C A (compX scope cl L env) ((x, .int t) :: σ') elt (f (G t)))
    (h : Ψ .next ω ((y, .list (((is.filter p).map G).map f)) :: σ))
    (hy : Storable env own y := by exact .inl rfl) (hk : env.scope.kind = .function := by rfl)
    (hsw : swapsWith (.ListComp elt [⟨.Name x px, iter, [c], 0⟩] scope pos) (some (.Name y py)) spos.line env = pure true := by rfl)
    (hs : ∀ x, foldedSetIterable iter env x = pure x := by intro _; rfl) :
    Ex1 C A env own ω σ (.Assign [.Name y py] (.ListComp elt [⟨.Name x px, iter, [c], 0⟩] scope pos) spos) Ψ := by
  refine ex_comp (fun d => p (asInt d)) (fun d => f (G (asInt d))) hit hi (by rw [List.length_map]; exact hsz) K.clos K.cau hnd (K.cau.keys ▸ K.fr) K.xs K.kind K.names K.st
    (fun L i d hd => by obtain ⟨t, rfl, hm⟩ := int_of_at hd; exact evI_one (ht L t hm)) (fun L i d hd hp => by obtain ⟨t, rfl, hm⟩ := int_of_at hd; exact he L t hm hp) ?_ hy hk hsw hs
  rw [filter_int, map_int]; exact h
theorem ex_compG {α : Type} {elt iter : Expr} {x y : Str} {px py pos spos : Pos} {scope : Scope} {cl : List (Str × Addr)} {d : D} {is : List Int} (G : Int → α) (f : α → D)
    (K : CompOK C env σ σ' scope cl x) (hnd : (cl.map (·.2)).Nodup) (hit : Ev C A env σ iter d) (hi : Itr C A d (is.map .int)) (hsz : is.length ≤ sizeLine)
    (he : ∀ L t, t ∈ is → Ev C A (compX scope cl L env) ((x, .int t) :: σ') elt (f (G t)))
    (h : Ψ .next ω ((y, .list ((is.map G).map f)) :: σ))
    (hy : Storable env own y := by exact .inl rfl) (hk : env.scope.kind = .function := by rfl)
    (hsw : swapsWith (.ListComp elt [⟨.Name x px, iter, [], 0⟩] scope pos) (some (.Name y py)) spos.line env = pure true := by rfl)
    (hs : ∀ x, foldedSetIterable iter env x = pure x := by intro _; rfl) :
    Ex1 C A env own ω σ (.Assign [.Name y py] (.ListComp elt [⟨.Name x px, iter, [], 0⟩] scope pos) spos) Ψ := by
  refine ex_comp (fun d => true) (fun d => f (G (asInt d))) hit hi (by rw [List.length_map]; exact hsz) K.clos K.cau hnd (K.cau.keys ▸ K.fr) K.xs K.kind K.names K.st
    (fun L i d hd => evI_nil) (fun L i d hd hp => by obtain ⟨t, rfl, hm⟩ := int_of_at hd; exact he L t hm) ?_ hy hk hsw hs
  rw [filter_all, map_int]; exact h

/-- two cells of other content lie apart -/
theorem cells_apart {g : Fz} {s : Shared} (V : Vars C env σ g s) {n m : Str} {c c' : Addr} {x y : D} (hk : env.kindOf n = some .cell) (hc : env.cells.lookup n = some c) (hx : σ.lookup n = some x) (hk' : env.kindOf m = some .cell) (hc' : env.cells.lookup m = some c') (hy : σ.lookup m = some y)
    (h : ∀ v, Rep g v x → Rep g v y → False) : c ≠ c' := fun e => by
  obtain ⟨o, v, h1, h2, r1⟩ := cell_of V hk hc hx
  obtain ⟨o', v', h1', h2', r2⟩ := cell_of V hk' hc' hy
  subst e
  rw [h1] at h1'; cases h1'
  rw [h2] at h2'; cases h2'
  exact h v r1 r2
end

/-- the lead's text -/
noncomputable def runS (r : Int) : Str := Txt.mul (Str.ofString " ") r ++ Str.ofString "\t"
noncomputable def textS (runs : List Int) (tail : Int) : Str := Txt.join (Str.ofString "") (runs.map runS) ++ Txt.mul (Str.ofString " ") tail ++ Str.ofString "x \t"
noncomputable def textL (runs : List Int) (tail : Int) : List Nat := runs.flatMap (fun r => List.replicate r.toNat 32 ++ [9]) ++ List.replicate tail.toNat 32 ++ [120, 32, 9]

theorem str_xst : Str.ofString "x \t" = ⟨#[120, 32, 9]⟩ := by decide +kernel
theorem str_nil : Str.ofString "" = ⟨#[]⟩ := by decide +kernel
theorem join_codes : ∀ l : List Str, (Str.join (Str.ofString "") l).cps.toList = l.flatMap fun x => x.cps.toList
  | [] => rfl
  | [x] => by simp [Str.join]
  | x :: y :: r => by
    rw [Str.join, Str.cps_append, Str.cps_append, Array.toList_append, Array.toList_append, join_codes (y :: r), str_nil]
    · simp
    · intro q; cases q
theorem runS_codes (r : Int) : (runS r).cps.toList = List.replicate r.toNat 32 ++ [9] := by
  unfold runS
  rw [Str.cps_append, Array.toList_append, str_sp, mul_one_list, str_tab]
theorem textS_codes (runs : List Int) (tail : Int) : (textS runs tail).cps.toList = textL runs tail := by
  unfold textS textL Txt.join
  rw [StrLaws.glued_eq_join, Str.cps_append, Str.cps_append, Array.toList_append, Array.toList_append, join_codes, str_sp, mul_one_list, str_xst, List.flatMap_map]
  simp only [runS_codes]

/-- a Whitespace out of signs, its raw text left open -/
noncomputable def codeW (raw : Str) (l : List Nat) : Wd := let q := initG l [] 0 0 0; { raw := raw, cnt := q.1, b := q.2.1, n := q.2.2.1, nt := q.2.2.2 }

noncomputable def sizesF (runs : List Int) (tail : Int) : List Int := upto 1 (2 + bestI (fun a b => decide (a > b)) (runs ++ [tail]))
noncomputable def colsF (x : List Nat) (ss : List Int) : List Int := ss.map fun t => colG t 0 x
noncomputable def minsF (cols sizes : List Int) (tabs : Int) : List Int := (upto 0 (tabs + 1)).map fun a => bestI (fun a b => decide (a < b)) (sizes.map fun t => atC cols t - a * t)
noncomputable def roomsF (w : Wd) (tabs : Int) : List Int := (upto 0 (tabs + 1)).map (roomF w)
noncomputable def touchesF (cols sizes : List Int) (tabs : Int) : List (List Int) := sizes.map fun t => touchF cols t tabs
noncomputable def wideF (x : List Nat) (cols : List Int) : List Int := colsF x (upto 1 (cols.getD 0 0 + 2))
noncomputable def dueF (cols : List Int) (touches : List (List Int)) (sizes : List Int) (a : Int) : List (Int × Int × Int) :=
  (sizes.filter fun t => (touches.getD (t - 1).toNat []).any (· == a)).map fun t => (t, atC cols t, atC cols t)
noncomputable def wholeF (wide sizes : List Int) (a room : Int) : List (Int × Int × Int) := (upto 1 (max (room + 1) sizes.length + 1)).map fun t => (t, atC wide t, a * t + room)
noncomputable def stepsF (rooms : List Int) (tabs : Int) : List Int := (upto 0 tabs).map fun a => rooms.getD a.toNat 0 - rooms.getD (a + 1).toNat 0
noncomputable def endsF (rooms : List Int) (tabs t : Int) : List Int := (upto 0 (tabs + 1)).map fun a => rooms.getD a.toNat 0 + a * t
noncomputable def toldF (touches : List (List Int)) (rooms : List Int) (tabs t : Int) : List Int :=
  if touches.getD (t - 1).toNat [] == [] then (upto 0 (tabs + 1)).filter fun a => (endsF rooms tabs t).getD a.toNat 0 == bestI (fun a b => decide (a > b)) (endsF rooms tabs t) else touches.getD (t - 1).toNat []
noncomputable def foundF (steps : List Int) (t : Int) : List Int := upto (bisF (fun m => !decide (steps.getD m.toNat 0 < t)) steps.length) (bisF (fun m => decide (t < steps.getD m.toNat 0)) steps.length + 1)

noncomputable def lSizes (runs : List Int) (tail : Int) : List Int := sizesF runs tail
noncomputable def lCols (runs : List Int) (tail : Int) : List Int := colsF (textL runs tail) (lSizes runs tail)
noncomputable def lRooms (runs : List Int) (tail : Int) : List Int := roomsF (initW (textS runs tail)) runs.length
noncomputable def lTouch (runs : List Int) (tail : Int) : List (List Int) := touchesF (lCols runs tail) (lSizes runs tail) runs.length
noncomputable def lWide (runs : List Int) (tail : Int) : List Int := wideF (textL runs tail) (lCols runs tail)

/-- what the walk of the law asks of the numbers -/
structure Facts (runs : List Int) (tail : Int) : Prop where
  len : runs.length ≤ 3
  run : ∀ r ∈ runs, 0 ≤ r ∧ r < 8
  tl : 0 ≤ tail ∧ tail < 8
  n : 0 ≤ (initW (textS runs tail)).n ∧ (initW (textS runs tail)).n < 2 ^ 14
  cols : ∀ c ∈ lCols runs tail, 0 ≤ c ∧ c < 2 ^ 14
  rooms : lRooms runs tail = minsF (lCols runs tail) (lSizes runs tail) runs.length
  room : ∀ a ∈ upto 0 ((runs.length : Int) + 1), 0 ≤ (lRooms runs tail).getD a.toNat 0 ∧ (lRooms runs tail).getD a.toNat 0 < 2 ^ 14 ∧ max ((lRooms runs tail).getD a.toNat 0 + 1) (lSizes runs tail).length ≤ (lWide runs tail).length
  due : ∀ a ∈ upto 0 ((runs.length : Int) + 1), witF (plainW a ((lRooms runs tail).getD a.toNat 0)) (initW (textS runs tail)) = dueF (lCols runs tail) (lTouch runs tail) (lSizes runs tail) a
  whole : ∀ a ∈ upto 0 ((runs.length : Int) + 1), witF (initW (textS runs tail)) (plainW a ((lRooms runs tail).getD a.toNat 0)) = wholeF (lWide runs tail) (lSizes runs tail) a ((lRooms runs tail).getD a.toNat 0)
  found : ∀ t ∈ lSizes runs tail, foundF (stepsF (lRooms runs tail) runs.length) t = toldF (lTouch runs tail) (lRooms runs tail) runs.length t

local macro_rules | `(tactic| walk_at "name") => `(tactic| first | walk_at "gname" | exact ev_var (by rfl))
local macro_rules | `(tactic| walk_at "caught") => `(tactic| first | exact Caught.nil | exact Caught.cons (by rfl) (by rfl) (by rfl) (by rfl) (by walk_at "caught"))
local macro_rules | `(tactic| walk_at "nodup") => `(tactic| first | (simp; done) | (simp [Nat.add_assoc]; done))
local macro_rules | `(tactic| walk_at "compok") => `(tactic| exact ⟨by rfl, by walk_at "caught", fun _ _ _ => by walk_at "nodup", by simp only [List.map_cons, List.map_nil]; decide, by rfl, by rfl, by decide, fun _ => .inl (by rfl)⟩)
local macro_rules | `(tactic| walk_at "stor") => `(tactic| exact stor_cell (by rfl) (by rfl) (by rfl))
section
variable {C : Cx} {A : Around} {env : Env} {own : List Addr} {ω : Om} {σ : Sg} {Ψ : Post}

theorem runS_len (r : Int) : (runS r).length = r.toNat + 1 := by
  show (runS r).cps.size = _
  rw [← Array.length_toList, runS_codes, List.length_append, List.length_replicate]; rfl
theorem runs_sum : ∀ {runs : List Int}, (∀ r ∈ runs, 0 ≤ r ∧ r < 8) → ((runs.map runS).map (·.length)).sum ≤ 8 * runs.length
  | [], _ => by simp
  | r :: rs, h => by
    have := runs_sum (runs := rs) fun r hr => h r (.tail _ hr)
    have := h r (.head _)
    simp only [List.map_cons, List.sum_cons, runS_len, List.length_cons]
    omega
theorem join_len {l : List Str} : (Txt.join (Str.ofString "") l).length = (l.map (·.length)).sum := by
  show (Txt.join (Str.ofString "") l).cps.size = _
  unfold Txt.join
  rw [StrLaws.glued_eq_join, ← Array.length_toList, join_codes, List.length_flatMap]
  rfl
theorem bestI_bound {r : Int → Int → Bool} {l : List Int} {lo hi : Int} (h : 0 < l.length) (hl : ∀ x ∈ l, lo ≤ x ∧ x < hi) : lo ≤ bestI r l ∧ bestI r l < hi := hl _ (bestI_mem r h)

theorem bisG_bound (p : Int → Bool) : ∀ (f : Nat) (lo hi : Int), lo ≤ hi → lo ≤ bisG p f lo hi ∧ bisG p f lo hi ≤ hi
  | 0, lo, hi, h => ⟨Int.le_refl _, h⟩
  | f + 1, lo, hi, h => by
    rw [bisG]
    split
    · rename_i q
      have hm := mid_le q
      split
      · have := bisG_bound p f lo ((lo + hi).fdiv 2) hm.1; omega
      · have := bisG_bound p f ((lo + hi).fdiv 2 + 1) hi (by omega); omega
    · omega
theorem bisF_bound (p : Int → Bool) (n : Nat) : 0 ≤ bisF p n ∧ bisF p n ≤ n := bisG_bound p n 0 n (by omega)
noncomputable abbrev lstD (l : List Int) : D := .list (l.map .int)
theorem lsts_at {ls : List (List Int)} {i : Nat} (h : i < ls.length) : (ls.map lstD)[i]? = some (lstD (ls.getD i [])) := by simp [h]

theorem ixA {t : Int} {n : Nat} (h : 1 ≤ t ∧ t ≤ n) : 0 ≤ t - 1 := by omega
theorem ixB {t : Int} {n : Nat} (h : 1 ≤ t ∧ t ≤ n) (hn : n ≤ 8) : t - 1 < 2 ^ 63 := by omega
theorem ixC {t : Int} {n m : Nat} (h : 1 ≤ t ∧ t ≤ n) (e : m = n) : (t - 1).toNat < m := by omega
theorem ixM {a t : Int} (h0 : 0 ≤ a) (h : a ≤ 3) : IntMulOk a t := .of_left (intBits_le_64 (by omega) (by omega))
theorem ixN {a t : Int} (h0 : 0 ≤ a) (h : a ≤ 3) : IntMulOk t a := .of_right (intBits_le_64 (by omega) (by omega))
theorem ix63 {a : Int} (h : a ≤ 3) : a < 2 ^ 63 := by omega
theorem ix16 {a : Int} (h : a ≤ 3) : a < 2 ^ 16 := by omega
theorem rs16 {a : Int} (h : a < 2 ^ 14) : a < 2 ^ 16 := by omega
theorem of_eq_ne {α : Type} [BEq α] [LawfulBEq α] {x y : α} (e : x = y) (q : (x != y) = true) : False := by subst e; simp at q

set_option maxHeartbeats 4000000 in
theorem law_ok (O : C.OK) (R : Room A 7) {d : D} {ns : List Int} (hL : Lst C d ns) (hsz : ns.length ≤ sizeLine) (F : Facts (leadR ns) (leadT ns)) : CallV C A (.ref 145) [d] (.bool true) := by
  refine callV_C (xs := [Str.ofString "script"]) O R (by rfl) (by rfl) (by rfl) (by rfl) (by rfl) (by rfl) (by rfl) (by rfl) (fun vs h => ?_) (fun n => ?_) (by decide) (fun L A R => ?_)
  · obtain ⟨v, rfl⟩ := one_of h
    rfl
  · intro x hx
    simp only [List.mem_cons, List.not_mem_nil, or_false] at hx
    rcases hx with rfl
    exact .inl (by rfl)
  · have hh := R.handled
    have hu : A.units < cLine := by have := R.units; omega
    have hu1 : A.in1.units < cLine := by have := R.units; show A.units + 1 < _; omega
    have hlead := lead_ok (A := A) O (R.less (by decide)) hL hsz
    revert F hlead
    generalize leadR ns = runs
    generalize leadT ns = tail
    intro F hlead
    have hr := F.run
    have hl3 := F.len
    have ht := F.tl
    have hz := sizeLine_eq
    refine ex_cons (ex_unpack2 hh (ev_call O (by walk_at "name") (by rfl) (by walk_at "evl") hlead ⟨_, _, rfl, rfl, rfl⟩) ?_)
    have hsum := runs_sum hr
    have hml := mul_len1 (n := tail) str_sp
    have hxl : (Str.ofString "x \t").length = 3 := by rw [str_xst]; rfl
    -- text
    refine ex_cons (ex_assign (d := .str (textS runs tail)) (ev_bin (ev_bin (ev_join (ys := runs.map runS) (ev_compG runS D.str (by walk_at "compok") (by walk_at "ev") (itr_list hh) (by omega) (fun L r hm => ?_)) (by rw [str_nil]; decide) (by rw [List.length_map]; omega)) (ev_bin (by walk_at "ev") (by walk_at "ev") (p_muls (mul_ok1 str_sp (by omega) (by omega)))) (p_adds (by rw [join_len, hml]; omega))) (by walk_at "ev") (p_adds (by rw [Str.length_append, join_len, hml, hxl]; omega))) ?_ (by walk_at "stor"))
    · have hr := hr r hm
      have := mul_len1 (n := r) str_sp
      have h1 : (Str.ofString "\t").length = 1 := by rw [str_tab]; rfl
      exact ev_bin (ev_bin (by walk_at "ev") (by walk_at "ev") (p_muls (mul_ok1 str_sp (by omega) (by omega)))) (by walk_at "ev") (p_adds (by rw [this, h1]; omega))
    have hX := textS_codes runs tail
    have hXs : (textS runs tail).cps.size < 2 ^ 19 := by
      show (textS runs tail).length < _
      rw [textS, Str.length_append, Str.length_append, join_len, hml, hxl]; omega
    obtain ⟨len, run, tail', n, hcols, rooms, room, due, whole, found⟩ := F
    unfold lRooms at *
    unfold lTouch lWide at *
    have hw : (initW (textS runs tail)).ok := initW_ok hXs
    have hws := ws_ok (A := A) O (R.less (by decide)) hXs
    revert hX n rooms room due whole found hw hws
    generalize initW (textS runs tail) = w
    generalize textS runs tail = X
    intro hX n rooms room due whole found hw hws
    -- lead
    refine ex_cons (ex_assign (ev_call O (by walk_at "name") (by rfl) (by walk_at "evl") hws ⟨_, _, rfl, rfl, rfl⟩) ?_ (by walk_at "stor"))
    -- tabs
    refine ex_cons (ex_assign (d := .int runs.length) (Ev.to (by walk_at "ev") (by rw [List.length_map])) ?_ (by walk_at "stor"))
    -- sizes
    have hbest : 0 ≤ bestI (fun a b => decide (a > b)) (runs ++ [tail]) ∧ bestI (fun a b => decide (a > b)) (runs ++ [tail]) < 8 := bestI_bound (by simp) (fun x hx => by
      rcases List.mem_append.mp hx with hx | hx
      · exact hr x hx
      · simp at hx; subst hx; exact ht)
    refine ex_cons (ex_assign (d := .list ((lSizes runs tail).map .int)) (ev_callT (by walk_at "name") (evL_cons (ev_callT (by walk_at "name") (evL_cons (by walk_at "ev") (evL_cons (ev_bin (by walk_at "ev") (ev_callB (by walk_at "name") (evL_cons (Ev.to (d' := .list ((runs ++ [tail]).map .int)) (ev_bin (by walk_at "ev") (by walk_at "ev") (p_addl (by simp; omega))) (by simp)) evL_nil) (p_max hh (ns := runs ++ [tail]) (by simp))) p_add) evL_nil)) p_range2) evL_nil) (p_list_rng hh (small_one (by omega) (by omega) (by omega) (by omega)) (by omega))) ?_ (by walk_at "stor"))
    have hsl : (lSizes runs tail).length = 1 + (bestI (fun a b => decide (a > b)) (runs ++ [tail])).toNat := by
      unfold lSizes sizesF; rw [upto_len]; omega
    have hsm : ∀ t ∈ lSizes runs tail, 1 ≤ t ∧ t ≤ (lSizes runs tail).length := fun t h => by
      have h := upto_mem.mp h
      omega
    have hS : (lSizes runs tail).length ≤ 8 := by omega
    have hS1 : 0 < (lSizes runs tail).length := by omega
    clear hsl hbest
    have hSl : (lSizes runs tail).length ≤ sizeLine := by omega
    have hcl : (lCols runs tail).length = (lSizes runs tail).length := List.length_map ..
    have hcd : (lSizes runs tail).map (fun t => colG t 0 X.cps.toList) = lCols runs tail := by rw [hX]; rfl
    generalize lSizes runs tail = sizes at *
    generalize lCols runs tail = cols at *
    -- columns
    refine ex_cons (ex_assign (d := .list (cols.map .int)) (Ev.to (ev_compG (fun t => colG t 0 X.cps.toList) D.int (by walk_at "compok") (by walk_at "ev") (itr_list hh) hSl (fun L t hm => ev_call O (by walk_at "name") (by rfl) (by walk_at "evl") (column_ok O (R.less (by decide)) (hsm t hm).1) ⟨_, _, rfl, rfl, rfl⟩)) (by rw [hcd])) ?_ (by walk_at "stor"))
    have hrs : Builtin.Range.small 0 ((runs.length : Int) + 1) 1 = true := small_one (by omega) (by omega) (by omega) (by omega)
    have hrl : (upto 0 ((runs.length : Int) + 1)).length ≤ sizeLine := by rw [upto_len]; omega
    have hRl : (roomsF w runs.length).length = runs.length + 1 := by unfold roomsF; rw [List.length_map, upto_len]; omega
    have hrm : ∀ a ∈ upto 0 ((runs.length : Int) + 1), 0 ≤ a ∧ a ≤ 3 ∧ a.toNat < (roomsF w runs.length).length := fun a h => by
      have h := upto_mem.mp h
      rw [hRl]
      omega
    -- rooms
    refine ex_cons (ex_assign (d := .list ((roomsF w runs.length).map .int)) (ev_compG (roomF w) D.int (by walk_at "compok") (ev_callT (by walk_at "name") (evL_cons (ev_bin (by walk_at "ev") (by walk_at "ev") p_add) evL_nil) p_range1) (itr_rng hh hrs) hrl (fun L a hm => ev_call O (by walk_at "name") (by rfl) (by walk_at "evl") (room_ok O R hw n.1 (by omega) (hrm a hm).1 (Int.lt_of_le_of_lt (hrm a hm).2.1 (by decide))) ⟨_, _, rfl, rfl, rfl⟩)) ?_ (by walk_at "stor"))
    -- if rooms != [min(..) ..]
    refine ex_cons (ex_if (evT_cmp (by walk_at "ev") (ev_compG (fun a => bestI (fun a b => decide (a < b)) (sizes.map fun t => atC cols t - a * t)) D.int
      ⟨by rfl, by walk_at "caught", fun _ _ _ => by walk_at "nodup", by simp only [List.map_cons, List.map_nil]; decide, by rfl, by rfl, by decide, fun L => .inr ⟨by rfl, L + 1, List.mem_cons_self .., by rfl⟩⟩
      (ev_callT (by walk_at "name") (evL_cons (ev_bin (by walk_at "ev") (by walk_at "ev") p_add) evL_nil) p_range1) (itr_rng hh hrs) hrl (fun L a hm => ev_callB (by walk_at "name") (evL_cons
        (ev_compG (fun t => atC cols t - a * t) D.int
          ⟨by rfl, by walk_at "caught", fun g s V => by exact List.nodup_cons.mpr ⟨fun q => cells_apart V (n := Str.ofString "columns") (m := Str.ofString "a") (by rfl) (by rfl) (by rfl) (by rfl) (by rfl) (by rfl) (fun v r1 r2 => by cases r1; cases r2) (List.mem_singleton.mp q), List.nodup_cons.mpr ⟨List.not_mem_nil, List.nodup_nil⟩⟩, by simp only [List.map_cons, List.map_nil]; decide, by rfl, by rfl, by decide, fun L => .inl (by rfl)⟩
          (by walk_at "ev") (itr_list hh) hSl (fun L t hm' => ?_)) evL_nil) (p_min hh (by rw [List.length_map]; exact hS1)))) (p_neL hu eqI_int)) (fun q => ?_) (fun q => ex_nil ?_))
    · have h1 := hsm t hm'
      have h2 := hrm a hm
      exact ev_bin (ev_item (by walk_at "ev") (ev_bin (by walk_at "ev") (by walk_at "ev") p_sub) (ixA h1) (ixB h1 hS) (ints_at (ixC h1 hcl))) (ev_bin (by walk_at "ev") (by walk_at "ev") (p_mul (ixM h2.1 h2.2.1))) p_sub
    · rw [rooms] at q
      exact (of_eq_ne rfl q).elim
    generalize roomsF w runs.length = rs at *
    -- touching
    have hc20 : cols.length < 2 ^ 20 := by omega
    have ht20 : (runs.length : Int) < 2 ^ 20 := by omega
    have hcolB : ∀ c ∈ cols, 0 ≤ c ∧ c < 2 ^ 20 := fun c hc => ⟨(hcols c hc).1, Int.lt_trans (hcols c hc).2 (by decide)⟩
    refine ex_cons (ex_assign (d := .list ((touchesF cols sizes runs.length).map lstD)) (ev_compG (fun t => touchF cols t runs.length) lstD (by walk_at "compok") (by walk_at "ev") (itr_list hh) hSl (fun L t hm => ev_call O (by walk_at "name") (by rfl) (by walk_at "evl") (touching_ok O (R.less (by decide)) hc20 (fun c hc => hcolB c hc) (hsm t hm).1 (hcl ▸ (hsm t hm).2) (Int.natCast_nonneg _) ht20) ⟨_, _, rfl, rfl, rfl⟩)) ?_ (by walk_at "stor"))
    have htl : (touchesF cols sizes runs.length).length = sizes.length := List.length_map ..
    -- wide
    have hc1 : 0 < cols.length := by omega
    have hc0 := hcols _ (getD_mem (ns := cols) (i := 0) hc1)
    have hwl : ((wideF (textL runs tail) cols).length : Int) = cols.getD 0 0 + 1 := by unfold wideF colsF; rw [List.length_map, upto_len]; omega
    refine ex_cons (ex_assign (d := .list ((wideF (textL runs tail) cols).map .int)) (Ev.to (ev_compG (is := upto 1 (cols.getD 0 0 + 2)) (fun t => colG t 0 X.cps.toList) D.int (by walk_at "compok") (ev_callT (by walk_at "name") (evL_cons (by walk_at "ev") (evL_cons (ev_bin (ev_item (by walk_at "ev") (by walk_at "ev") (by decide) (by decide) (by exact ints_at hc1)) (by walk_at "ev") p_add) evL_nil)) p_range2) (itr_rng (lo := 1) (hi := cols.getD 0 0 + 2) hh (small_one (by omega) (by omega) (by omega) (by omega))) (by rw [upto_len]; omega) (fun L t hm => ev_call O (by walk_at "name") (by rfl) (by walk_at "evl") (column_ok O (R.less (by decide)) (upto_mem.mp hm).1) ⟨_, _, rfl, rfl, rfl⟩)) (by rw [hX]; rfl)) ?_ (by walk_at "stor"))
    generalize touchesF cols sizes runs.length = touch at *
    generalize wideF (textL runs tail) cols = wide at *
    -- for a in range(tabs + 1)
    refine ex_cons (ex_for (d := .rng 0 ((runs.length : Int) + 1)) (ev_callT (by walk_at "name") (evL_cons (ev_bin (by walk_at "ev") (by walk_at "ev") p_add) evL_nil) p_range1) (itr_rng hh hrs)
      (fun k ω σ => ω = [] ∧ Sub [(Str.ofString "lead", w.d), (Str.ofString "tabs", .int runs.length), (Str.ofString "sizes", lstD sizes), (Str.ofString "columns", lstD cols), (Str.ofString "rooms", lstD rs), (Str.ofString "touching", .list (touch.map lstD)), (Str.ofString "wide", lstD wide)] σ)
      ⟨rfl, .cons rfl (.cons rfl (.cons rfl (.cons rfl (.cons rfl (.cons rfl (.cons rfl .nil))))))⟩ ?_ ?_ (by walk_at "stor"))
    · rintro k d ω σ hd ⟨rfl, hσ⟩
      obtain ⟨rfl, hk, _⟩ := upto_get hd
      have hm : (0 + (k : Int)) ∈ upto 0 ((runs.length : Int) + 1) := upto_mem.mpr ⟨by omega, hk⟩
      generalize (0 + (k : Int)) = a at *
      clear hd
      have ha := hrm a hm
      have hra := room a hm
      have hda := due a hm
      have hwa := whole a hm
      refine Ex.weaken ?_ hσ.push
      have hpw : (plainW a (rs.getD a.toNat 0)).ok := plainW_ok ha.1 (ix16 ha.2.1) hra.1 (rs16 hra.2.1)
      refine ex_cons (ex_assign (d := (plainW a (rs.getD a.toNat 0)).d) (ev_call O (by walk_at "name") (by rfl) (evL_cons (by walk_at "ev") (evL_cons (ev_item (by walk_at "ev") (by walk_at "ev") ha.1 (ix63 ha.2.1) (ints_at ha.2.2)) evL_nil)) (plain_ok O (R.less (by decide)) ha.1 (ix16 ha.2.1) hra.1 (rs16 hra.2.1)) ⟨_, _, rfl, rfl, rfl⟩) ?_)
      -- due
      refine ex_cons (ex_compP (fun t => (touch.getD (t - 1).toNat []).any (· == a)) (fun t => (t, atC cols t, atC cols t)) tri (by walk_at "compok") (by walk_at "nodup") (by walk_at "ev") (itr_list hh) hSl (fun L t hm' => ?_) (fun L t hm' _ => ?_) ?_)
      · have h1 := hsm t hm'
        exact evT_cmp (by walk_at "ev") (ev_item (by walk_at "ev") (ev_bin (by walk_at "ev") (by walk_at "ev") p_sub) (ixA h1) (ixB h1 hS) (lsts_at (ixC h1 htl))) p_inL
      · have h1 := hsm t hm'
        exact ev_tuple (evL_cons (by walk_at "ev") (evL_cons (ev_item (by walk_at "ev") (ev_bin (by walk_at "ev") (by walk_at "ev") p_sub) (ixA h1) (ixB h1 hS) (ints_at (ixC h1 hcl))) (evL_cons (ev_item (by walk_at "ev") (ev_bin (by walk_at "ev") (by walk_at "ev") p_sub) (ixA h1) (ixB h1 hS) (ints_at (ixC h1 hcl))) evL_nil))) (by show 3 ≤ _; omega)
      -- if plain.not_less_witness(lead) != due
      refine ex_cons (ex_if (evT_cmp (ev_method O (by walk_at "ev") (by decide) (by rfl) (by rfl) (by rfl) (by rfl) (by walk_at "evl") (wit_ok O (R.less (by decide)) _ _ hpw hw)) (by walk_at "ev") (p_neL hu (eqI_tri hu1))) (fun q => ?_) (fun q => ex_nil ?_))
      · exact (of_eq_ne hda q).elim
      -- whole
      refine ex_cons (ex_compG (fun t => (t, atC wide t, a * t + rs.getD a.toNat 0)) tri (by walk_at "compok") (by walk_at "nodup") (ev_callT (by walk_at "name") (evL_cons (by walk_at "ev") (evL_cons (ev_bin (ev_callB (by walk_at "name") (evL_cons (ev_bin (ev_item (by walk_at "ev") (by walk_at "ev") ha.1 (ix63 ha.2.1) (ints_at ha.2.2)) (by walk_at "ev") p_add) (evL_cons (Ev.to (d' := .int sizes.length) (by walk_at "ev") (by rw [List.length_map])) evL_nil)) (p_max2 hh)) (by walk_at "ev") p_add) evL_nil)) p_range2)
        (itr_rng (lo := 1) (hi := max (rs.getD a.toNat 0 + 1) sizes.length + 1) hh (small_one (by omega) (by omega) (by omega) (by omega))) (by rw [upto_len]; omega) (fun L t hm' => ?_) ?_)
      · have h1 := upto_mem.mp hm'
        have hi : 0 ≤ t - 1 ∧ t - 1 < 2 ^ 63 ∧ (t - 1).toNat < wide.length := by clear hSl hcl hrm hda hwa hz hl3 ht hw hpw hsum hXs hu hu1 hsz n hrl hRl; omega
        exact ev_tuple (evL_cons (by walk_at "ev") (evL_cons (ev_item (by walk_at "ev") (ev_bin (by walk_at "ev") (by walk_at "ev") p_sub) hi.1 hi.2.1 (ints_at hi.2.2)) (evL_cons (ev_bin (ev_bin (by walk_at "ev") (by walk_at "ev") (p_mul (ixM ha.1 ha.2.1))) (ev_item (by walk_at "ev") (by walk_at "ev") ha.1 (ix63 ha.2.1) (ints_at ha.2.2)) p_add) evL_nil))) (by show 3 ≤ _; omega)
      -- if lead.not_less_witness(plain) != whole
      refine ex_cons (ex_if (evT_cmp (ev_method O (by walk_at "ev") (by decide) (by rfl) (by rfl) (by rfl) (by rfl) (by walk_at "evl") (wit_ok O (R.less (by decide)) _ _ hw hpw)) (by walk_at "ev") (p_neL hu (eqI_tri hu1))) (fun q => ?_) (fun q => ex_nil (ex_nil ⟨rfl, .cons rfl (.cons rfl (.cons rfl (.cons rfl (.cons rfl (.cons rfl (.cons rfl .nil))))))⟩)))
      exact (of_eq_ne hwa q).elim
    · rintro ω σ ⟨rfl, hσ⟩
      refine Ex.weaken ?_ hσ
      clear hσ due whole room rooms
      -- steps
      refine ex_cons (ex_compG (fun a => rs.getD a.toNat 0 - rs.getD (a + 1).toNat 0) D.int (by walk_at "compok") (by walk_at "nodup") (ev_callT (by walk_at "name") (evL_cons (by walk_at "ev") evL_nil) p_range1) (itr_rng (lo := 0) (hi := runs.length) hh (small_one (by omega) (by omega) (by omega) (by omega))) (by rw [upto_len]; omega) (fun L a hm => ?_) ?_)
      · have := upto_mem.mp hm
        exact ev_bin (ev_item (by walk_at "ev") (by walk_at "ev") (by omega) (by omega) (ints_at (by omega))) (ev_item (by walk_at "ev") (ev_bin (by walk_at "ev") (by walk_at "ev") p_add) (by omega) (by omega) (ints_at (by omega))) p_sub
      have hstl : (stepsF rs runs.length).length < 2 ^ 24 := by unfold stepsF; rw [List.length_map, upto_len]; omega
      generalize hst : List.map (fun a => rs.getD a.toNat 0 - rs.getD (a + 1).toNat 0) (upto 0 (runs.length : Int)) = steps
      have hst' : stepsF rs runs.length = steps := hst
      rw [hst'] at found hstl
      clear hst hst'
      -- for t in sizes
      refine ex_cons (ex_for (d := lstD sizes) (by walk_at "ev") (itr_list hh)
        (fun k ω σ => ω = [] ∧ Sub [(Str.ofString "tabs", .int runs.length), (Str.ofString "rooms", lstD rs), (Str.ofString "touching", .list (touch.map lstD)), (Str.ofString "steps", lstD steps)] σ)
        ⟨rfl, .cons rfl (.cons rfl (.cons rfl (.cons rfl .nil)))⟩ ?_ ?_ (by walk_at "stor"))
      · rintro k d ω σ hd ⟨rfl, hσ⟩
        obtain ⟨t, rfl, hm⟩ := int_of_at hd
        have h1 := hsm t hm
        have hf := found t hm
        clear hd found
        have hel : (endsF rs runs.length t).length = runs.length + 1 := by unfold endsF; rw [List.length_map, upto_len]; omega
        have hbL := bisF_bound (fun m => !decide (steps.getD m.toNat 0 < t)) steps.length
        have hbR := bisF_bound (fun m => decide (t < steps.getD m.toNat 0)) steps.length
        have hfs := small_one (a := bisF (fun m => !decide (steps.getD m.toNat 0 < t)) steps.length) (b := bisF (fun m => decide (t < steps.getD m.toNat 0)) steps.length + 1) (by omega) (by omega) (by omega) (by omega)
        have hfz : (bisF (fun m => decide (t < steps.getD m.toNat 0)) steps.length + 1 - bisF (fun m => !decide (steps.getD m.toNat 0 < t)) steps.length).toNat ≤ 2 ^ 24 := by omega
        refine Ex.weaken ?_ hσ.push
        -- ends
        refine ex_cons (ex_assign (d := lstD (endsF rs runs.length t)) (ev_compG (fun a => rs.getD a.toNat 0 + a * t) D.int (by walk_at "compok") (ev_callT (by walk_at "name") (evL_cons (ev_bin (by walk_at "ev") (by walk_at "ev") p_add) evL_nil) p_range1) (itr_rng hh hrs) hrl (fun L a hm' => ?_)) ?_ (by walk_at "stor"))
        · have h2 := hrm a hm'
          exact ev_bin (ev_item (by walk_at "ev") (by walk_at "ev") h2.1 (ix63 h2.2.1) (ints_at h2.2.2)) (ev_bin (by walk_at "ev") (by walk_at "ev") (p_mul (ixM h2.1 h2.2.1))) p_add
        -- told
        refine ex_cons (ex_assign (d := lstD (touch.getD (t - 1).toNat [])) (ev_item (by walk_at "ev") (ev_bin (by walk_at "ev") (by walk_at "ev") p_sub) (ixA h1) (ixB h1 hS) (lsts_at (ixC h1 htl))) ?_)
        refine ex_cons (ex_if (evT_cmp (by walk_at "ev") (Ev.to (d := .list []) (d' := lstD []) (ev_list evL_nil (Nat.zero_le _)) rfl) (p_eqL (f := D.int) (xs := touch.getD (t - 1).toNat []) (ys := ([] : List Int)) hu eqI_int)) (fun q => ?_) (fun q => ex_nil ?_))
        · refine ex_cons (ex_compP (fun a => (endsF rs runs.length t).getD a.toNat 0 == bestI (fun a b => decide (a > b)) (endsF rs runs.length t)) (fun a => a) D.int (by walk_at "compok") (by walk_at "nodup") (ev_callT (by walk_at "name") (evL_cons (ev_bin (by walk_at "ev") (by walk_at "ev") p_add) evL_nil) p_range1) (itr_rng hh hrs) hrl (fun L a hm' => ?_) (fun L a hm' _ => by walk_at "ev") (ex_nil ?_))
          · have h2 := hrm a hm'
            exact evT_cmp (ev_item (by walk_at "ev") (by walk_at "ev") h2.1 (ix63 h2.2.1) (ints_at (by rw [hel, ← hRl]; exact h2.2.2))) (ev_callB (by walk_at "name") (by walk_at "evl") (p_max hh (by omega))) p_eq
          refine ex_cons (ex_if (evT_cmp (ev_callT (by walk_at "name") (evL_cons (ev_callT (by walk_at "name") (evL_cons (ev_call O (by walk_at "name") (by rfl) (by walk_at "evl") (bisL_ok O (R.less (by decide)) hstl) ⟨_, _, rfl, rfl, rfl⟩) (evL_cons (ev_bin (ev_call O (by walk_at "name") (by rfl) (by walk_at "evl") (bisR_ok O (R.less (by decide)) hstl) ⟨_, _, rfl, rfl, rfl⟩) (by walk_at "ev") p_add) evL_nil)) p_range2) evL_nil) (p_list_rng hh hfs hfz)) (by walk_at "ev") (p_neL hu eqI_int)) (fun q' => ?_) (fun q' => ex_nil (ex_nil ⟨rfl, .cons rfl (.cons rfl (.cons rfl (.cons rfl .nil)))⟩)))
          rw [foundF, toldF, if_pos q] at hf
          exact (of_eq_ne (hf.trans (List.map_id' _).symm) q').elim
        · refine ex_cons (ex_if (evT_cmp (ev_callT (by walk_at "name") (evL_cons (ev_callT (by walk_at "name") (evL_cons (ev_call O (by walk_at "name") (by rfl) (by walk_at "evl") (bisL_ok O (R.less (by decide)) hstl) ⟨_, _, rfl, rfl, rfl⟩) (evL_cons (ev_bin (ev_call O (by walk_at "name") (by rfl) (by walk_at "evl") (bisR_ok O (R.less (by decide)) hstl) ⟨_, _, rfl, rfl, rfl⟩) (by walk_at "ev") p_add) evL_nil)) p_range2) evL_nil) (p_list_rng hh hfs hfz)) (by walk_at "ev") (p_neL hu eqI_int)) (fun q' => ?_) (fun q' => ex_nil (ex_nil ⟨rfl, .cons rfl (.cons rfl (.cons rfl (.cons rfl .nil)))⟩)))
          rw [foundF, toldF, if_neg (by rw [q]; exact Bool.false_ne_true)] at hf
          exact (of_eq_ne hf q').elim
      · rintro ω σ ⟨rfl, hσ⟩
        refine ex_cons (ex_ret (by walk_at "ev") ?_)
        rfl
end

noncomputable def allBut (h : Heap) : Fz := fun b => if b = 128 then none else h.get? b
set_option maxHeartbeats 4000000 in
theorem join_law (H : ∀ (C : Cx) (O : C.OK) (A : Around) (R : Room A 7) (d : D) (ns : List Int), C.prog = Challenge.rw_pe0198_01.row.prog → Lst C d ns → ns.length ≤ 63 → CallV C A (.ref 145) [d] (.bool true)) : PySem.Challenge.rw_pe0198_01.Holds := by
  refine hd ?_
  intro w s₀ s₁ mg mb G Y fa o pm cd doc dV kV ho hd' hcd hD hmg hg args vals as hpre hlay hrd hwl hlo
  have KX := km_in_of Y
  have hT := km_tabs_of Y 128 (List.mem_singleton.mpr rfl)
  have hT9 : TabsAt [(132, 128)] s₁.heap := List.forall_mem_cons.mpr ⟨⟨codeHd_of_K (c := 132) (P := 128) KX (by kernel_rfl), hT⟩, fun _ h => nomatch h⟩
  have X := (Ground.X G).1
  have V := (Ground.X G).2
  have hfa : fa = 145 := by
    have e := mg_of (n := Str.ofString "law") (v := .ref 145) KX G.T.g (by kernel_rfl)
    have e2 : mg (Str.ofString "law") = some (.ref fa) := hmg
    rw [e] at e2; cases e2; rfl
  subst hfa
  refine Ground.open G ?_
  intro T B D TE TW
  wrow_args hpre hlay hrd hwl hlo
  rename_i ns hs hlay0 hL1 hr1 hl2 a1 a2 l vs a3 hL ra w1 r0 hI hr hcond hc2
  clear hs hlay0 hL1 hr1 hl2 ra w1 r0 hr hc2 hD hd' hcd hmg ho
  let C : Cx := ⟨Challenge.rw_pe0198_01.row.prog, w, mg, mb, ghostOf s₁.heap [(132, 128)], s₁.os⟩
  have hbm : (ghostOf s₁.heap [(132, 128)]).BuiltinsAt mg 128 := by
    obtain ⟨bm, ob, b1, b2, b3, b4, b5, b6⟩ := T.bmain
    refine ⟨bm, ob, b1, b2, ?_, ?_, ghost_get hT9 b3 (fun q => by rw [q] at b4; cases b4), b4, b5, b6⟩
    · rintro rfl
      obtain ⟨og, es, ep, e1, e2, _⟩ := T.g
      rw [e1] at b3; cases b3; rw [e2] at b6; cases b6
    · rintro rfl
      rw [hT] at b3; cases b3; cases b6
  have O : C.OK := ⟨ghost_K hT9 KX (by kernel_rfl), ghost_ns hT9 T.g, ghost_ns hT9 T.b, let ⟨mc, a, r⟩ := T.nolimit; ⟨mc, ghost_ns hT9 a, r⟩, T.builtins, (ghost_code hT9).1, hbm⟩
  have hgh : ∀ b o, (ghostOf s₁.heap [(132, 128)]).get? b = some o → allBut s₁.heap b = some o := fun b o e => by
    have hb : b ≠ 128 := by
      rintro rfl
      have := hideAll_none [128] (h := s₁.heap) (b := 128) (List.mem_singleton.mpr rfl)
      rw [show (ghostOf s₁.heap [(132, 128)]).get? 128 = none from this] at e; cases e
    rw [allBut, if_neg hb]; exact of_hideAll _ e
  have Hh : Hp C (allBut s₁.heap) s₁ := by
    refine ⟨fun b o e => ?_, hgh, by simp [allBut], ⟨#[], hT, ?_⟩, hg, rfl⟩
    · unfold allBut at e
      split at e
      · cases e
      · exact e
    · refine ⟨trivial, fun pos cv e => ?_⟩
      simp [codeAmong] at e
  have R : Room callerA 7 := ⟨rfl, by decide, by decide⟩
  have hlst : Lst C (.raw (.ref l)) ns := lst_raw (ghost_list hT9 hL) hI
  refine H C O callerA R _ ns rfl hlst (by omega) (allBut s₁.heap) s₁ [.ref l] _ _ Hh (.cons (.raw _) .nil) fun v g' s' Gr r => ?_
  cases r using Rep.cbool
  refine ⟨.inl ⟨_, .bool true, [], rfl, fun _ => rfl, .bool true, by wrow_post, fun _ => ⟨List.nodup_nil, fun a h => nomatch h⟩⟩, ⟨fun b o e => ?_, fun b o e => ?_⟩, Gr.hp.os, .of_eq Gr.hp.gens⟩
  · by_cases hb : b = 128
    · subst hb
      obtain ⟨ps, e2, _⟩ := Gr.hp.tab
      rw [hT] at e; cases e
      exact .inr (.inl ⟨((hT9 (132, 128) (.head _)).1.tab hT).isCodeTable, rfl, #[], ps, rfl, by rw [Array.empty_append]; exact e2⟩)
    · exact .inl (Gr.kept b o e hb)
  · by_cases hb : b = 128
    · subst hb
      obtain ⟨ps, e2, _⟩ := Gr.hp.tab
      exact ⟨_, e2⟩
    · exact ⟨_, Gr.kept b o e hb⟩

/-- a number reckoned before it is used -/
noncomputable def nowN {β : Sort _} : Nat → (Nat → β) → β
  | 0, k => k 0
  | n + 1, k => k (n + 1)
noncomputable def nowI {β : Sort _} : Int → (Int → β) → β
  | .ofNat n, k => nowN n fun n => k (.ofNat n)
  | .negSucc n, k => nowN n fun n => k (.negSucc n)
noncomputable def nowL {β : Sort _} : List Int → (List Int → β) → β
  | [], k => k []
  | x :: l, k => nowI x fun x => nowL l fun l => k (x :: l)
noncomputable def nowLL {β : Sort _} : List (List Int) → (List (List Int) → β) → β
  | [], k => k []
  | x :: l, k => nowL x fun x => nowLL l fun l => k (x :: l)
noncomputable def nowM {β : Sort _} : List Nat → (List Nat → β) → β
  | [], k => k []
  | x :: l, k => nowN x fun x => nowM l fun l => k (x :: l)
theorem nowN_eq {β : Sort _} : ∀ (n : Nat) (k : Nat → β), nowN n k = k n
  | 0, _ => rfl
  | _ + 1, _ => rfl
theorem nowI_eq {β : Sort _} : ∀ (n : Int) (k : Int → β), nowI n k = k n
  | .ofNat n, _ => nowN_eq ..
  | .negSucc n, _ => nowN_eq ..
theorem nowL_eq {β : Sort _} : ∀ (n : List Int) (k : List Int → β), nowL n k = k n
  | [], _ => rfl
  | x :: l, k => by rw [nowL, nowI_eq, nowL_eq]
theorem nowLL_eq {β : Sort _} : ∀ (n : List (List Int)) (k : List (List Int) → β), nowLL n k = k n
  | [], _ => rfl
  | x :: l, k => by rw [nowLL, nowL_eq, nowLL_eq]
theorem nowM_eq {β : Sort _} : ∀ (n : List Nat) (k : List Nat → β), nowM n k = k n
  | [], _ => rfl
  | x :: l, k => by rw [nowM, nowN_eq, nowM_eq]

noncomputable def bare (l : List Nat) : Wd := codeW ⟨#[]⟩ l
noncomputable def plainL (a b : Int) : List Nat := List.replicate a.toNat 9 ++ List.replicate b.toNat 32 ++ [121, 9, 32]
noncomputable def plainB (a b : Int) : Wd := bare (plainL a b)
noncomputable def nowW {β : Sort _} (w : Wd) (k : Wd → β) : β := nowI w.n fun n => nowI w.nt fun nt => nowL w.cnt fun cnt => nowI w.b fun b => k ⟨w.raw, n, nt, cnt, b⟩
theorem nowW_eq {β : Sort _} (w : Wd) (k : Wd → β) : nowW w k = k w := by simp only [nowW, nowI_eq, nowL_eq]
noncomputable def roomPB (w : Wd) (a b : Int) : Bool := nowI b fun b => nowW (plainB a b) fun v => !lessF v w
noncomputable def roomFB (w : Wd) (a : Int) : Int :=
  if a.fmod 2 = 0 then bisF (fun m => !(!roomPB w a ((upto 0 (w.n - a)).getD m.toNat 0) && true)) (upto 0 (w.n - a)).length
  else bisF (fun m => !false && roomPB w a ((upto 0 (w.n - a)).getD m.toNat 0)) (upto 0 (w.n - a)).length

theorem less_bare (x y : Str) : lessF (initW x) (initW y) = lessF (bare x.cps.toList) (bare y.cps.toList) := rfl
theorem wit_bare (x y : Str) : witF (initW x) (initW y) = witF (bare x.cps.toList) (bare y.cps.toList) := rfl
theorem lead_n (runs : List Int) (tail : Int) : (initW (textS runs tail)).n = (bare (textL runs tail)).n := by rw [← textS_codes]; rfl
theorem roomP_bare (runs : List Int) (tail a b : Int) : roomP (initW (textS runs tail)) a b = roomPB (bare (textL runs tail)) a b := by
  rw [roomP, plainW, less_bare, plainS_codes, textS_codes, roomPB, nowI_eq, nowW_eq]; rfl
theorem roomF_bare (runs : List Int) (tail a : Int) : roomF (initW (textS runs tail)) a = roomFB (bare (textL runs tail)) a := by
  unfold roomF roomFB
  simp only [roomP_bare, lead_n]
theorem rooms_bare (runs : List Int) (tail : Int) : lRooms runs tail = (upto 0 ((runs.length : Int) + 1)).map (roomFB (bare (textL runs tail))) := by
  unfold lRooms roomsF
  exact List.map_congr_left fun a _ => roomF_bare runs tail a
theorem wit1_bare (runs : List Int) (tail a r : Int) : witF (plainW a r) (initW (textS runs tail)) = witF (plainB a r) (bare (textL runs tail)) := by
  rw [plainW, wit_bare, plainS_codes, textS_codes]; rfl
theorem wit2_bare (runs : List Int) (tail a r : Int) : witF (initW (textS runs tail)) (plainW a r) = witF (bare (textL runs tail)) (plainB a r) := by
  rw [plainW, wit_bare, plainS_codes, textS_codes]; rfl

theorem initG_tabs : ∀ (k : Nat) (c n nt : Int) (rest : List Nat), initG (List.replicate k 9 ++ rest) [c] 0 n nt = initG rest [c + k] 0 (n + k) (nt + k)
  | 0, c, n, nt, rest => by simp
  | k + 1, c, n, nt, rest => by
    rw [List.replicate_succ, List.cons_append, initG, if_neg (by decide), if_pos rfl, show growF [c] 0 = [c] from rfl]
    show initG _ [c + 1] 0 (n + 1) (nt + 1) = _
    have e : ∀ x : Int, x + 1 + (k : Int) = x + ((k + 1 : Nat) : Int) := fun x => by omega
    rw [initG_tabs k, e, e, e]
theorem initG_blanks : ∀ (k : Nat) (cnt : List Int) (b n nt : Int) (rest : List Nat), initG (List.replicate k 32 ++ 121 :: rest) cnt b n nt = (cnt, b + k, n + k, nt)
  | 0, cnt, b, n, nt, rest => by
    rw [List.replicate_zero, List.nil_append, initG, if_neg (by decide), if_neg (by decide)]; simp
  | k + 1, cnt, b, n, nt, rest => by
    rw [List.replicate_succ, List.cons_append, initG, if_pos rfl, initG_blanks k]
    have e : ∀ x : Int, x + 1 + (k : Int) = x + ((k + 1 : Nat) : Int) := fun x => by omega
    rw [e, e]
noncomputable def plainC (a b : Int) : Wd := ⟨⟨#[]⟩, (a.toNat : Int) + b.toNat, a.toNat, if a.toNat = 0 then [] else [(a.toNat : Int)], b.toNat⟩
theorem plainB_C (a b : Int) : plainB a b = plainC a b := by
  unfold plainB plainC bare codeW plainL
  rw [List.append_assoc]
  generalize a.toNat = k
  generalize b.toNat = j
  cases k with
  | zero => rw [List.replicate_zero, List.nil_append, initG_blanks]; simp
  | succ k =>
    rw [List.replicate_succ, List.cons_append, initG, if_neg (by decide), if_pos rfl]
    show (let q := initG (List.replicate k 9 ++ _) [0 + 1] 0 (0 + 1) (0 + 1); ({ raw := _, cnt := q.1, b := q.2.1, n := q.2.2.1, nt := q.2.2.2 } : Wd)) = _
    rw [initG_tabs, initG_blanks]
    simp
    omega

/-- the halving, in natural numbers -/
noncomputable def bisC (p : Nat → Bool) : Nat → Nat → Nat → Nat
  | 0, lo, _ => lo
  | f + 1, lo, hi => bif Nat.blt lo hi then nowN ((lo + hi) / 2) fun m => bif p m then bisC p f lo m else bisC p f (m + 1) hi else lo
theorem bisG_C (P : Int → Bool) (p : Nat → Bool) : ∀ (f lo hi : Nat), (∀ m : Nat, m < hi → P m = p m) → bisG P f lo hi = bisC p f lo hi
  | 0, lo, hi, h => rfl
  | f + 1, lo, hi, h => by
    rw [bisG, bisC, nowN_eq]
    by_cases q : lo < hi
    · have e : ((lo : Int) + (hi : Int)).fdiv 2 = (((lo + hi) / 2 : Nat) : Int) := by
        rw [Int.fdiv_eq_ediv_of_nonneg _ (by decide)]; omega
      have hm : (lo + hi) / 2 < hi := by omega
      rw [if_pos (by omega), show Nat.blt lo hi = true from Nat.ble_eq.mpr q, cond_true, e, h _ hm]
      cases p ((lo + hi) / 2) with
      | true => rw [if_pos rfl, cond_true, bisG_C P p f lo _ fun m hm' => h m (by omega)]
      | false =>
        rw [if_neg (by decide), cond_false]
        exact bisG_C P p f (((lo + hi) / 2) + 1) hi h
    · rw [if_neg (by omega), show Nat.blt lo hi = false from by
        cases hb : Nat.blt lo hi with
        | false => rfl
        | true => exact absurd (Nat.ble_eq.mp hb) q, cond_false]
theorem bisF_C (P : Int → Bool) (p : Nat → Bool) (n : Nat) (h : ∀ m : Nat, m < n → P m = p m) : bisF P n = bisC p n 0 n := bisG_C P p n 0 n h

noncomputable def roomC (w : Wd) (a : Int) : Int := nowI a fun a => nowN (w.n - a).toNat fun N => bisC (fun m => nowW (plainC a m) fun v => !lessF v w) N 0 N
theorem upto_getD {hi : Int} {m : Nat} (h : m < (upto 0 hi).length) : (upto 0 hi).getD (m : Int).toNat 0 = m := by
  rw [Int.toNat_natCast, List.getD_eq_getElem?_getD, List.getElem?_eq_getElem h]
  simp [upto]
theorem room_C (w : Wd) (a : Int) : roomFB w a = roomC w a := by
  have hl : (upto 0 (w.n - a)).length = (w.n - a).toNat := by rw [upto_len]; omega
  unfold roomFB roomC
  rw [nowI_eq, nowN_eq, ← hl]
  split
  · refine bisF_C _ _ _ fun m hm => ?_
    rw [upto_getD hm, Bool.and_true, Bool.not_not, roomPB, nowI_eq, plainB_C]
  · refine bisF_C _ _ _ fun m hm => ?_
    rw [upto_getD hm, Bool.not_false, Bool.true_and, roomPB, nowI_eq, plainB_C]

noncomputable def minsC (cols sizes : List Int) (tabs : Int) : List Int := (upto 0 (tabs + 1)).map fun a => nowI a fun a => nowL (sizes.map fun t => atC cols t - a * t) (bestI fun a b => decide (a < b))
theorem mins_C (cols sizes : List Int) (tabs : Int) : minsC cols sizes tabs = minsF cols sizes tabs := by simp only [minsC, minsF, nowI_eq, nowL_eq]
noncomputable def touchC (cols : List Int) (t tabs : Int) : List Int := nowI t fun t => nowL (upto 1 (cols.length + 1)) fun ss =>
  nowL (steepF cols t ss) fun A => nowL (flatF cols t tabs ss) fun B => upto (bestI (fun a b => decide (a > b)) A) (bestI (fun a b => decide (a < b)) B + 1)
theorem touch_C (cols sizes : List Int) (tabs : Int) : (sizes.map fun t => touchC cols t tabs) = touchesF cols sizes tabs := by simp only [touchC, touchesF, touchF, nowI_eq, nowL_eq]
noncomputable def toldC (touches : List (List Int)) (rooms : List Int) (tabs t : Int) : List Int :=
  if touches.getD (t - 1).toNat [] == [] then nowL (endsF rooms tabs t) fun E => nowI (bestI (fun a b => decide (a > b)) E) fun M => (upto 0 (tabs + 1)).filter fun a => E.getD a.toNat 0 == M else touches.getD (t - 1).toNat []
theorem told_C (touches : List (List Int)) (rooms : List Int) (tabs t : Int) : toldC touches rooms tabs t = toldF touches rooms tabs t := by simp only [toldC, toldF, nowI_eq, nowL_eq]
noncomputable def foundC (steps : List Int) (t : Int) : List Int := upto (bisC (fun m => !decide (steps.getD m 0 < t)) steps.length 0 steps.length) (bisC (fun m => decide (t < steps.getD m 0)) steps.length 0 steps.length + 1)
theorem found_C (steps : List Int) (t : Int) : foundF steps t = foundC steps t := by
  unfold foundF foundC
  rw [bisF_C _ (fun m => !decide (steps.getD m 0 < t)) _ fun m _ => by rw [Int.toNat_natCast], bisF_C _ (fun m => decide (t < steps.getD m 0)) _ fun m _ => by rw [Int.toNat_natCast]]

/-- columns by the runs -/
noncomputable def colC (runs : List Int) (tail t : Int) : Int := nowI t fun t => tail + t * runs.foldl (fun s r => s + r.fdiv t + 1) 0
theorem colG_run (t : Int) : ∀ (k : Nat) (c : Int) (rest : List Nat), colG t c (List.replicate k 32 ++ 9 :: rest) = colG t (c + k + t - (c + k).fmod t) rest
  | 0, c, rest => by
    rw [List.replicate_zero, List.nil_append, colG, if_neg (by decide), if_neg (by decide)]; simp
  | k + 1, c, rest => by
    have e : c + 1 + (k : Int) = c + ((k + 1 : Nat) : Int) := by omega
    rw [List.replicate_succ, List.cons_append, colG, if_neg (by decide), if_pos rfl, colG_run t k, e]
theorem colG_end (t : Int) : ∀ (k : Nat) (c : Int) (rest : List Nat), colG t c (List.replicate k 32 ++ 120 :: rest) = c + k
  | 0, c, rest => by
    rw [List.replicate_zero, List.nil_append, colG, if_pos rfl]; simp
  | k + 1, c, rest => by
    rw [List.replicate_succ, List.cons_append, colG, if_neg (by decide), if_pos rfl, colG_end t k]; omega
theorem col_text {t : Int} (ht : 1 ≤ t) {tail : Int} (h0 : 0 ≤ tail) : ∀ {runs : List Int}, (∀ r ∈ runs, 0 ≤ r) → ∀ m : Int,
    colG t (t * m) (runs.flatMap (fun r => List.replicate r.toNat 32 ++ [9]) ++ List.replicate tail.toNat 32 ++ [120, 32, 9]) = tail + t * runs.foldl (fun s r => s + r.fdiv t + 1) m
  | [], _, m => by
    rw [List.flatMap_nil, List.nil_append, colG_end, List.foldl_nil]; omega
  | r :: runs, h, m => by
    have hr := h r (.head _)
    have e : (List.flatMap (fun r => List.replicate r.toNat 32 ++ [9]) (r :: runs) ++ List.replicate tail.toNat 32 ++ [120, 32, 9] : List Nat)
      = List.replicate r.toNat 32 ++ 9 :: (runs.flatMap (fun r => List.replicate r.toNat 32 ++ [9]) ++ List.replicate tail.toNat 32 ++ [120, 32, 9]) := by simp
    have e2 : t * m + (r.toNat : Int) + t - (t * m + (r.toNat : Int)).fmod t = t * (m + r.fdiv t + 1) := by
      rw [Int.toNat_of_nonneg hr, Int.fmod_eq_emod_of_nonneg _ (by omega), Int.fdiv_eq_ediv_of_nonneg _ (by omega), Int.add_comm (t * m) r, Int.add_mul_emod_self_left]
      have := Int.mul_ediv_add_emod r t
      rw [Int.mul_add, Int.mul_add, Int.mul_one]
      omega
    rw [e, colG_run, e2, col_text ht h0 fun r hr => h r (.tail _ hr)]; rfl
theorem col_C {runs : List Int} {tail t : Int} (ht : 1 ≤ t) (h0 : 0 ≤ tail) (h : ∀ r ∈ runs, 0 ≤ r) : colG t 0 (textL runs tail) = colC runs tail t := by
  have := col_text ht h0 h 0
  rw [Int.mul_zero] at this
  rw [colC, nowI_eq]; exact this
theorem cols_C {runs : List Int} {tail : Int} (h0 : 0 ≤ tail) (h : ∀ r ∈ runs, 0 ≤ r) (hi : Int) : colsF (textL runs tail) (upto 1 hi) = (upto 1 hi).map (colC runs tail) :=
  List.map_congr_left fun t ht => col_C (upto_mem.mp ht).1 h0 h

theorem plainC_at {a b t : Int} (ht : 1 ≤ t) : (plainC a b).at t = (b.toNat : Int) + t * a.toNat := by
  unfold Wd.at indentF plainC ilF
  have e : upto t ((if a.toNat = 0 then [] else [(a.toNat : Int)] : List Int).length : Int) = [] := by
    unfold upto
    have : ((((if a.toNat = 0 then [] else [(a.toNat : Int)] : List Int).length : Int) - t).toNat) = 0 := by split <;> simp <;> omega
    rw [this]; rfl
  simp only [e, List.foldl_nil, Int.zero_add]
theorem plainC_long (a b : Int) : (plainC a b).long = b.toNat := by
  unfold Wd.long plainC
  dsimp only
  split <;> simp <;> omega
theorem plainC_simple (a b : Int) : (plainC a b).simple = true := by
  unfold Wd.simple plainC
  dsimp only
  split <;> simp

theorem all_same {α : Type} {p q : α → Bool} : ∀ {l : List α}, (∀ x ∈ l, p x = q x) → l.all p = l.all q
  | [], _ => rfl
  | x :: l, h => by rw [List.all_cons, List.all_cons, h x (.head _), all_same fun y hy => h y (.tail _ hy)]
/-- Whitespace.less, of a plain lead -/
noncomputable def lessC (w : Wd) (sm : Bool) (L a m : Int) : Bool :=
  bif decide (a + m ≥ w.n) then false else bif sm then decide (a ≤ w.nt) else (upto 2 (max m L + 1 + 1)).all fun ts => !decide (m + ts * a ≥ w.at ts)
theorem less_C (w : Wd) {a m : Int} (ha : 0 ≤ a) (hm : 0 ≤ m) : lessF (plainC a m) w = lessC w w.simple w.long a m := by
  unfold lessF lessC
  rw [plainC_simple, plainC_long, Int.toNat_of_nonneg hm, Bool.true_and]
  have e1 : (plainC a m).n = a + m := by unfold plainC; dsimp only; omega
  have e2 : (plainC a m).nt = a := by unfold plainC; dsimp only; omega
  rw [e1, e2]
  by_cases h : a + m ≥ w.n
  · simp [h]
  · rw [if_neg h, decide_eq_false h, cond_false]
    cases w.simple with
    | true => simp
    | false =>
      simp only [Bool.false_eq_true, if_false, cond_false]
      refine all_same fun ts hts => ?_
      rw [plainC_at (by have := upto_mem.mp hts; omega), Int.toNat_of_nonneg ha, Int.toNat_of_nonneg hm]
noncomputable def roomD (w : Wd) (sm : Bool) (L a : Int) : Int := nowI a fun a => nowN (w.n - a).toNat fun N => bisC (fun m => !lessC w sm L a m) N 0 N
theorem room_D (w : Wd) {a : Int} (ha : 0 ≤ a) : roomFB w a = roomD w w.simple w.long a := by
  rw [room_C]
  unfold roomC roomD
  simp only [nowI_eq, nowN_eq, nowW_eq, less_C w ha (Int.natCast_nonneg _)]

/-- the lead's own witness beside a plain lead -/
theorem whole_C {w : Wd} {wide sizes : List Int} {a r : Int} (ha : 0 ≤ a) (hr : 0 ≤ r) (hM : max w.long r + 1 = max (r + 1) sizes.length)
    (h : ∀ t ∈ upto 1 (max (r + 1) sizes.length + 1), w.at t = atC wide t ∧ r + t * a ≤ w.at t) : witF w (plainC a r) = wholeF wide sizes a r := by
  unfold witF wholeF
  rw [plainC_long, Int.toNat_of_nonneg hr, hM]
  rw [List.filter_eq_self.mpr fun t ht => ?_]
  · refine List.map_congr_left fun t ht => ?_
    rw [plainC_at (upto_mem.mp ht).1, (h t ht).1, Int.toNat_of_nonneg ha, Int.toNat_of_nonneg hr, Int.add_comm r, Int.mul_comm t]
  · rw [plainC_at (upto_mem.mp ht).1, Int.toNat_of_nonneg ha, Int.toNat_of_nonneg hr]
    exact decide_eq_true (h t ht).2
/-- the plain lead's witness beside the lead -/
noncomputable def dueC (w : Wd) (L a r : Int) : List (Int × Int × Int) := ((upto 1 (max r L + 1 + 1)).filter fun ts => decide (r + ts * a ≥ w.at ts)).map fun ts => (ts, r + ts * a, w.at ts)
theorem due_C {w : Wd} {a r : Int} (ha : 0 ≤ a) (hr : 0 ≤ r) : witF (plainC a r) w = dueC w w.long a r := by
  unfold witF dueC
  rw [plainC_long, Int.toNat_of_nonneg hr]
  have e : ∀ ts ∈ upto 1 (max r w.long + 1 + 1), (plainC a r).at ts = r + ts * a := fun ts h => by
    rw [plainC_at (upto_mem.mp h).1, Int.toNat_of_nonneg ha, Int.toNat_of_nonneg hr]
  rw [List.filter_congr (fun ts h => by rw [e ts h])]
  exact List.map_congr_left fun ts h => by rw [e ts (List.mem_filter.mp h).1]

noncomputable def factsC (runs : List Int) (tail : Int) : Bool :=
  decide (runs.length ≤ 3) && runs.all (fun r => decide (0 ≤ r ∧ r < 8)) && decide (0 ≤ tail ∧ tail < 8) &&
  nowM (textL runs tail) fun x => nowW (bare x) fun w => nowI w.long fun L => nowI (runs.length : Int) fun tabs => nowL (lSizes runs tail) fun sizes => nowL (sizes.map (colC runs tail)) fun cols =>
  nowL ((upto 0 (tabs + 1)).map (roomD w w.simple L)) fun rooms => nowL ((upto 1 (cols.getD 0 0 + 2)).map (colC runs tail)) fun wide => nowLL (sizes.map fun t => touchC cols t tabs) fun touch =>
  decide (0 ≤ w.n ∧ w.n < 1000) && cols.all (fun c => decide (0 ≤ c ∧ c < 1000)) && decide (rooms = minsC cols sizes tabs) &&
  ((upto 0 (tabs + 1)).all fun a => nowI a fun a => nowI (rooms.getD a.toNat 0) fun r => nowI (max (r + 1) sizes.length) fun M =>
    decide (0 ≤ r ∧ r < 1000 ∧ M ≤ wide.length) && decide (max L r + 1 = M) && decide (dueC w L a r = dueF cols touch sizes a) && (upto 1 (M + 1)).all fun t => decide (w.at t = atC wide t ∧ r + t * a ≤ w.at t)) &&
  nowL (stepsF rooms tabs) fun steps => sizes.all fun t => nowI t fun t => decide (foundC steps t = toldC touch rooms tabs t)

theorem facts_of {runs : List Int} {tail : Int} (h : factsC runs tail = true) : Facts runs tail := by
  unfold factsC at h
  simp only [nowM_eq, nowW_eq, nowL_eq, nowLL_eq, nowI_eq, Bool.and_eq_true, decide_eq_true_eq, List.all_eq_true] at h
  obtain ⟨⟨⟨h1, h2⟩, h3⟩, ⟨⟨⟨h4, h5⟩, h6⟩, h8⟩, h9⟩ := h
  have h0 : ∀ r ∈ runs, 0 ≤ r := fun r hr => (h2 r hr).1
  have ec : (lSizes runs tail).map (colC runs tail) = lCols runs tail := (cols_C h3.1 h0 _).symm
  have ew : (upto 1 ((lCols runs tail).getD 0 0 + 2)).map (colC runs tail) = lWide runs tail := (cols_C h3.1 h0 _).symm
  have er : (upto 0 ((runs.length : Int) + 1)).map (roomD (bare (textL runs tail)) (bare (textL runs tail)).simple (bare (textL runs tail)).long) = lRooms runs tail := by
    rw [rooms_bare]
    exact List.map_congr_left fun a ha => (room_D _ (upto_mem.mp ha).1).symm
  have et : ((lSizes runs tail).map fun t => touchC (lCols runs tail) t runs.length) = lTouch runs tail := touch_C ..
  rw [ec] at h5 h6 h8 h9
  rw [ew] at h8
  rw [er] at h6 h8 h9
  rw [et] at h8 h9
  refine ⟨h1, h2, h3, ?_, fun c hc => ⟨(h5 c hc).1, Int.lt_trans (h5 c hc).2 (by decide)⟩, ?_, ?_, ?_, ?_, ?_⟩
  · rw [lead_n]; exact ⟨h4.1, Int.lt_trans h4.2 (by decide)⟩
  · rw [h6, mins_C]
  · intro a ha
    have h := (h8 a ha).1.1.1
    exact ⟨h.1, Int.lt_trans h.2.1 (by decide), h.2.2⟩
  · intro a ha
    rw [wit1_bare, plainB_C, due_C (upto_mem.mp ha).1 (h8 a ha).1.1.1.1]; exact (h8 a ha).1.2
  · intro a ha
    rw [wit2_bare, plainB_C]
    exact whole_C (upto_mem.mp ha).1 (h8 a ha).1.1.1.1 (h8 a ha).1.1.2 (h8 a ha).2
  · intro t ht
    rw [found_C, ← told_C]; exact h9 t ht

theorem pick1 (x y z : Int) : pickNums [x, y, z] none (some 1) none = [x] := rfl
theorem pick2 (x y z : Int) : pickNums [x, y, z] none (some 2) none = [x, y] := rfl
theorem pick3 (x y z : Int) : pickNums [x, y, z] none (some 3) none = [x, y, z] := rfl
theorem back1 (x : Int) : pickNums [x] none none (some (-1)) = [x] := by
  have e : sliceRange (sliceBounds none none (some (-1)) 1).1 (sliceBounds none none (some (-1)) 1).2.1 (sliceBounds none none (some (-1)) 1).2.2 = [0] := by decide +kernel
  show List.filterMap _ (sliceRange (sliceBounds none none (some (-1)) 1).1 (sliceBounds none none (some (-1)) 1).2.1 (sliceBounds none none (some (-1)) 1).2.2) = _
  rw [e]; rfl
theorem back2 (x y : Int) : pickNums [x, y] none none (some (-1)) = [y, x] := by
  have e : sliceRange (sliceBounds none none (some (-1)) 2).1 (sliceBounds none none (some (-1)) 2).2.1 (sliceBounds none none (some (-1)) 2).2.2 = [1, 0] := by decide +kernel
  show List.filterMap _ (sliceRange (sliceBounds none none (some (-1)) 2).1 (sliceBounds none none (some (-1)) 2).2.1 (sliceBounds none none (some (-1)) 2).2.2) = _
  rw [e]; rfl
theorem back3 (x y z : Int) : pickNums [x, y, z] none none (some (-1)) = [z, y, x] := by
  have e : sliceRange (sliceBounds none none (some (-1)) 3).1 (sliceBounds none none (some (-1)) 3).2.1 (sliceBounds none none (some (-1)) 3).2.2 = [2, 1, 0] := by decide +kernel
  show List.filterMap _ (sliceRange (sliceBounds none none (some (-1)) 3).1 (sliceBounds none none (some (-1)) 3).2.1 (sliceBounds none none (some (-1)) 3).2.2) = _
  rw [e]; rfl
theorem fmod_range (a : Int) {b : Int} (h : 0 < b) : a.fmod b ∈ upto 0 b := upto_mem.mpr ⟨Int.fmod_nonneg_of_pos a h, Int.fmod_lt_of_pos a h⟩
theorem upto3 {c : Int} (h : c ∈ upto 0 3) : c = 0 ∨ c = 1 ∨ c = 2 := by have := upto_mem.mp h; omega

theorem leadR_cases (ns : List Int) : ∃ x ∈ upto 0 6, ∃ y ∈ upto 0 4, ∃ z ∈ upto 0 2, leadR ns = [x] ∨ leadR ns = [x, y] ∨ leadR ns = [y, x] ∨ leadR ns = [x, y, z] ∨ leadR ns = [z, y, x] := by
  refine ⟨_, fmod_range (leadS ns 0 + 5) (by decide), _, fmod_range (leadS ns 1 + 1) (by decide), _, fmod_range (leadS ns 2) (by decide), ?_⟩
  unfold leadR leadC lead3
  rcases upto3 (fmod_range (ns.sum + 1) (b := 3) (by decide)) with e | e | e <;> rw [e] <;> split
  · exact .inl (by rw [show (1 + 0 : Int) = 1 from rfl, pick1, back1])
  · exact .inl (by rw [show (1 + 0 : Int) = 1 from rfl, pick1])
  · exact .inr (.inr (.inl (by rw [show (1 + 1 : Int) = 2 from rfl, pick2, back2])))
  · exact .inr (.inl (by rw [show (1 + 1 : Int) = 2 from rfl, pick2]))
  · exact .inr (.inr (.inr (.inr (by rw [show (1 + 2 : Int) = 3 from rfl, pick3, back3]))))
  · exact .inr (.inr (.inr (.inl (by rw [show (1 + 2 : Int) = 3 from rfl, pick3]))))
theorem leadT_case (ns : List Int) : leadT ns ∈ upto 0 3 := fmod_range _ (by decide)

noncomputable def on1 (x : Int) : Bool := (upto 0 3).all fun t => factsC [x] t
noncomputable def on2 (x : Int) : Bool := (upto 0 4).all fun y => (upto 0 3).all fun t => factsC [x, y] t && (decide (x < 4) || factsC [y, x] t)
noncomputable def on3 (x y : Int) : Bool := (upto 0 2).all fun z => (upto 0 3).all fun t => factsC [x, y, z] t && (decide (x < 2) || factsC [z, y, x] t)
noncomputable def all1 : Bool := (upto 0 6).all on1
noncomputable def all2 : Bool := (upto 0 6).all on2
noncomputable def all3 : Bool := (upto 0 6).all fun x => (upto 0 4).all (on3 x)
theorem upto_cons {lo hi : Int} {f : Int → Bool} (h : f lo = true) (hr : (upto (lo + 1) hi).all f = true) : (upto lo hi).all f = true := List.all_eq_true.mpr fun x hx => by
  have hx := upto_mem.mp hx
  by_cases e : x = lo
  · rw [e]; exact h
  · exact List.all_eq_true.mp hr x (upto_mem.mpr (by omega))
theorem upto_done {lo : Int} {f : Int → Bool} : (upto lo lo).all f = true := List.all_eq_true.mpr fun x hx => by
  have hx := upto_mem.mp hx
  omega
theorem facts_all (h1 : all1 = true) (h2 : all2 = true) (h3 : all3 = true) (ns : List Int) : Facts (leadR ns) (leadT ns) := by
  obtain ⟨x, hx, y, hy, z, hz, h⟩ := leadR_cases ns
  have ht := leadT_case ns
  refine facts_of ?_
  have h1 := List.all_eq_true.mp (List.all_eq_true.mp h1 x hx) _ ht
  have h2 : ∀ x ∈ upto 0 6, ∀ y ∈ upto 0 4, _ := fun x hx y hy => Bool.and_eq_true_iff.mp (List.all_eq_true.mp (List.all_eq_true.mp (List.all_eq_true.mp h2 x hx) y hy) _ ht)
  have h3 : ∀ x ∈ upto 0 6, ∀ y ∈ upto 0 4, ∀ z ∈ upto 0 2, _ := fun x hx y hy z hz => Bool.and_eq_true_iff.mp (List.all_eq_true.mp (List.all_eq_true.mp (List.all_eq_true.mp (List.all_eq_true.mp h3 x hx) y hy) z hz) _ ht)
  have bx := upto_mem.mp hx
  have bY := upto_mem.mp hy
  have bz := upto_mem.mp hz
  rcases h with e | e | e | e | e <;> rw [e]
  · exact h1
  · exact (h2 x hx y hy).1
  · rcases Bool.or_eq_true_iff.mp (h2 x hx y hy).2 with q | q
    · exact (h2 y (upto_mem.mpr ⟨bY.1, by omega⟩) x (upto_mem.mpr ⟨bx.1, of_decide_eq_true q⟩)).1
    · exact q
  · exact (h3 x hx y hy z hz).1
  · rcases Bool.or_eq_true_iff.mp (h3 x hx y hy z hz).2 with q | q
    · exact (h3 z (upto_mem.mpr ⟨bz.1, by omega⟩) y hy x (upto_mem.mpr ⟨bx.1, of_decide_eq_true q⟩)).1
    · exact q

theorem holds_of (h1 : all1 = true) (h2 : all2 = true) (h3 : all3 = true) : PySem.Challenge.rw_pe0198_01.Holds :=
  join_law fun C O A R d ns _ hL hl => law_ok O R hL (by rw [sizeLine_eq]; omega) (facts_all h1 h2 h3 ns)

theorem on1_0 : on1 0 = true := by decide +kernel
theorem on1_1 : on1 1 = true := by decide +kernel
theorem on1_2 : on1 2 = true := by decide +kernel
theorem on1_3 : on1 3 = true := by decide +kernel
theorem on1_4 : on1 4 = true := by decide +kernel
theorem on1_5 : on1 5 = true := by decide +kernel
theorem on2_0 : on2 0 = true := by decide +kernel
theorem on2_1 : on2 1 = true := by decide +kernel
theorem on2_2 : on2 2 = true := by decide +kernel
theorem on2_3 : on2 3 = true := by decide +kernel
theorem on2_4 : on2 4 = true := by decide +kernel
theorem on2_5 : on2 5 = true := by decide +kernel
theorem on3_0_0 : on3 0 0 = true := by decide +kernel
theorem on3_0_1 : on3 0 1 = true := by decide +kernel
theorem on3_0_2 : on3 0 2 = true := by decide +kernel
theorem on3_0_3 : on3 0 3 = true := by decide +kernel
theorem on3_1_0 : on3 1 0 = true := by decide +kernel
theorem on3_1_1 : on3 1 1 = true := by decide +kernel
theorem on3_1_2 : on3 1 2 = true := by decide +kernel
theorem on3_1_3 : on3 1 3 = true := by decide +kernel
theorem on3_2_0 : on3 2 0 = true := by decide +kernel
theorem on3_2_1 : on3 2 1 = true := by decide +kernel
theorem on3_2_2 : on3 2 2 = true := by decide +kernel
theorem on3_2_3 : on3 2 3 = true := by decide +kernel
theorem on3_3_0 : on3 3 0 = true := by decide +kernel
theorem on3_3_1 : on3 3 1 = true := by decide +kernel
theorem on3_3_2 : on3 3 2 = true := by decide +kernel
theorem on3_3_3 : on3 3 3 = true := by decide +kernel
theorem on3_4_0 : on3 4 0 = true := by decide +kernel
theorem on3_4_1 : on3 4 1 = true := by decide +kernel
theorem on3_4_2 : on3 4 2 = true := by decide +kernel
theorem on3_4_3 : on3 4 3 = true := by decide +kernel
theorem on3_5_0 : on3 5 0 = true := by decide +kernel
theorem on3_5_1 : on3 5 1 = true := by decide +kernel
theorem on3_5_2 : on3 5 2 = true := by decide +kernel
theorem on3_5_3 : on3 5 3 = true := by decide +kernel
theorem all1_ok : all1 = true := upto_cons on1_0 (upto_cons on1_1 (upto_cons on1_2 (upto_cons on1_3 (upto_cons on1_4 (upto_cons on1_5 (upto_done))))))
theorem all2_ok : all2 = true := upto_cons on2_0 (upto_cons on2_1 (upto_cons on2_2 (upto_cons on2_3 (upto_cons on2_4 (upto_cons on2_5 (upto_done))))))
theorem all3_ok : all3 = true := upto_cons (upto_cons on3_0_0 (upto_cons on3_0_1 (upto_cons on3_0_2 (upto_cons on3_0_3 (upto_done))))) (upto_cons (upto_cons on3_1_0 (upto_cons on3_1_1 (upto_cons on3_1_2 (upto_cons on3_1_3 (upto_done))))) (upto_cons (upto_cons on3_2_0 (upto_cons on3_2_1 (upto_cons on3_2_2 (upto_cons on3_2_3 (upto_done))))) (upto_cons (upto_cons on3_3_0 (upto_cons on3_3_1 (upto_cons on3_3_2 (upto_cons on3_3_3 (upto_done))))) (upto_cons (upto_cons on3_4_0 (upto_cons on3_4_1 (upto_cons on3_4_2 (upto_cons on3_4_3 (upto_done))))) (upto_cons (upto_cons on3_5_0 (upto_cons on3_5_1 (upto_cons on3_5_2 (upto_cons on3_5_3 (upto_done))))) (upto_done))))))
theorem the_row : PySem.Challenge.rw_pe0198_01.Holds := holds_of all1_ok all2_ok all3_ok

end Mine

theorem PySem.Challenge.cw_pe0198_01_holds : PySem.Challenge.rw_pe0198_01.Holds :=
  Mine.the_row
