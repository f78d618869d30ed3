import PyProof.Rows.All
import Wide.All
import OpenK.AllK
import Wide.FinOn
import Lean
import PySem.Challenge.RW_rs0182_01
open PySem PySem.W PyProof.Rows
set_option Elab.async false
set_option genInjectivity false
set_option genSizeOf false
set_option maxRecDepth 100000
set_option linter.unusedVariables false
set_option linter.unusedSimpArgs false
namespace Mine
section
noncomputable abbrev Ghost := Addr → Option Obj
/- abstract values -/
inductive AV where
  | val (v : Value)
  | int (i : Int)
  | str (x : Str)
  | byt (b : Array UInt8)
  | list (xs : List AV)
  | tup (xs : List AV)
noncomputable abbrev AV.bool (b : Bool) : AV := .val (.bool b)
noncomputable abbrev AV.none : AV := .val .none
noncomputable def IsSq (F : Ghost) (cls : String) (a : Addr) (vs : List Value) : Prop := ∃ o n, F a = some o ∧ o.cls = .type cls ∧ o.data = .seq vs.toArray n
mutual
noncomputable def Rep (F : Ghost) : AV → Value → Prop
  | .val w, v => v = w
  | .int i, v => ∃ t, v = .int i t
  | .str x, v => ∃ t, v = .str x t
  | .byt b, v => ∃ t, v = .bytes b t
  | .list xs, v => ∃ a vs, v = .ref a ∧ IsSq F "list" a vs ∧ Reps F xs vs
  | .tup xs, v => ∃ a vs, v = .ref a ∧ IsSq F "tuple" a vs ∧ Reps F xs vs
noncomputable def Reps (F : Ghost) : List AV → List Value → Prop
  | [], vs => vs = []
  | x :: xs, vs => ∃ v r, vs = v :: r ∧ Rep F x v ∧ Reps F xs r
end
section
variable {F : Ghost} {v : Value}
theorem rVal {w : Value} : Rep F (.val w) w := by rw [Rep]
theorem rInt {i : Int} {t : Tok} : Rep F (.int i) (.int i t) := by rw [Rep]; exact ⟨t, rfl⟩
theorem rStr {i : Str} {t : Tok} : Rep F (.str i) (.str i t) := by rw [Rep]; exact ⟨t, rfl⟩
theorem rByt {i : Array UInt8} {t : Tok} : Rep F (.byt i) (.bytes i t) := by rw [Rep]; exact ⟨t, rfl⟩
theorem rLst {a : Addr} {xs : List AV} {vs : List Value} (h : IsSq F "list" a vs) (r : Reps F xs vs) : Rep F (.list xs) (.ref a) := by rw [Rep]; exact ⟨a, vs, rfl, h, r⟩
theorem rTup {a : Addr} {xs : List AV} {vs : List Value} (h : IsSq F "tuple" a vs) (r : Reps F xs vs) : Rep F (.tup xs) (.ref a) := by rw [Rep]; exact ⟨a, vs, rfl, h, r⟩
theorem rNil : Reps F [] [] := by rw [Reps]
theorem rCons {x : AV} {xs : List AV} {vs : List Value} (h : Rep F x v) (r : Reps F xs vs) : Reps F (x :: xs) (v :: vs) := by rw [Reps]; exact ⟨v, vs, rfl, h, r⟩
theorem Rep.oval {w : Value} (h : Rep F (.val w) v) : v = w := by rwa [Rep] at h
theorem Rep.oint {i : Int} (h : Rep F (.int i) v) : ∃ t, v = .int i t := by rwa [Rep] at h
theorem Rep.ostr {i : Str} (h : Rep F (.str i) v) : ∃ t, v = .str i t := by rwa [Rep] at h
theorem Rep.obyt {i : Array UInt8} (h : Rep F (.byt i) v) : ∃ t, v = .bytes i t := by rwa [Rep] at h
theorem Rep.olst {xs : List AV} (h : Rep F (.list xs) v) : ∃ a vs, v = .ref a ∧ IsSq F "list" a vs ∧ Reps F xs vs := by rwa [Rep] at h
theorem Rep.otup {xs : List AV} (h : Rep F (.tup xs) v) : ∃ a vs, v = .ref a ∧ IsSq F "tuple" a vs ∧ Reps F xs vs := by rwa [Rep] at h
theorem Reps.onil {vs : List Value} (h : Reps F [] vs) : vs = [] := by rwa [Reps] at h
theorem Reps.ocons {x : AV} {xs : List AV} {vs : List Value} (h : Reps F (x :: xs) vs) : ∃ v r, vs = v :: r ∧ Rep F x v ∧ Reps F xs r := by rwa [Reps] at h
end
noncomputable def GLe (F F' : Ghost) : Prop := ∀ a o, F a = some o → F' a = some o
theorem GLe.refl (F : Ghost) : GLe F F := fun _ _ e => e
theorem GLe.trans {F F' F'' : Ghost} (x : GLe F F') (y : GLe F' F'') : GLe F F'' := fun a o e => y a o (x a o e)
theorem IsSq.mono {F F' : Ghost} {c a vs} (h : GLe F F') (x : IsSq F c a vs) : IsSq F' c a vs := let ⟨o, n, e, r⟩ := x; ⟨o, n, h _ _ e, r⟩
mutual
theorem Rep.mono {F F' : Ghost} (h : GLe F F') : ∀ (a : AV) (v : Value), Rep F a v → Rep F' a v
  | .val _, _, x => by simpa only [Rep] using x
  | .int _, _, x => by simpa only [Rep] using x
  | .str _, _, x => by simpa only [Rep] using x
  | .byt _, _, x => by simpa only [Rep] using x
  | .list xs, v, x => by
    simp only [Rep] at x ⊢
    obtain ⟨a, vs, e, hs, r⟩ := x
    exact ⟨a, vs, e, hs.mono h, Reps.mono h xs vs r⟩
  | .tup xs, v, x => by
    simp only [Rep] at x ⊢
    obtain ⟨a, vs, e, hs, r⟩ := x
    exact ⟨a, vs, e, hs.mono h, Reps.mono h xs vs r⟩
theorem Reps.mono {F F' : Ghost} (h : GLe F F') : ∀ (a : List AV) (v : List Value), Reps F a v → Reps F' a v
  | [], _, x => by simpa only [Reps] using x
  | y :: ys, vs, x => by
    simp only [Reps] at x ⊢
    obtain ⟨v, r, e, hv, hr⟩ := x
    exact ⟨v, r, e, Rep.mono h y v hv, Reps.mono h ys r hr⟩
end
/- the constants of the run -/
structure Cx where
  prog : Program
  w : World
  H : Heap
  mg : Str → Option Value
  mb : Str → Option Value
  tabs : List (Addr × Addr)
  tq : Addr → Str
  hg : H.Ns mainGlobals mg
  hb : H.Ns builtinsNs mb
  lim : H.NoLimit
  tabsH : ∀ q ∈ tabs, CodeHd H q.1 q.2 ∧ H.get? q.2 = none
  tabsN : (tabs.map (·.2)).Nodup
  bm : ∃ bm ob, mg "__builtins__" = some (.ref bm) ∧ bm ≠ builtinsNs ∧ bm ≠ mainGlobals ∧ H.get? bm = some ob ∧ ob.cls = .type "module" ∧ ob.dict = some builtinsNs ∧ ob.data = .plain
noncomputable abbrev Cx.T (C : Cx) : List Addr := C.tabs.map (·.2)
noncomputable abbrev Cx.M (C : Cx) : Model := model C.prog C.w
noncomputable def CodeF (F : Ghost) (cd : Value) (q : Str) : Prop := ∃ c o vs t, cd = .ref c ∧ F c = some o ∧ o.data = .fields vs ∧ vs[1]? = some (.str q t)
theorem CodeF.mono {F F' : Ghost} {cd q} (h : GLe F F') (x : CodeF F cd q) : CodeF F' cd q := let ⟨c, o, vs, t, e, g, r⟩ := x; ⟨c, o, vs, t, e, h _ _ g, r⟩
/- what a code table holds: at each place the code of a def or of a lambda -/
noncomputable def TabGood (F : Ghost) (q : Str) (ps : Array Value) : Prop :=
  TriplesOk ps.toList ∧ ∀ pos cv, codeAmong pos ps.toList = some cv → CodeF F cv q
theorem TabGood.mono {F F' : Ghost} {q ps} (h : GLe F F') (x : TabGood F q ps) : TabGood F' q ps := ⟨x.1, fun p c e => (x.2 p c e).mono h⟩
structure Ok (C : Cx) (F : Ghost) (s : Shared) : Prop where
  base : ∀ a o, C.H.get? a = some o → F a = some o
  sub : ∀ a o, F a = some o → s.heap.get? a = some o
  gens : s.gens = #[]
  tabF : ∀ P ∈ C.T, F P = none
  tabs : ∀ P ∈ C.T, ∃ ps, s.heap.get? P = some (tabObj ps) ∧ TabGood F (C.tq P) ps
/- an object as it was; a frame's but for its slots -/
noncomputable def IsDc (o : Obj) : Prop := ∃ es n, o.data = .dict es n
theorem IsDc.fields {o : Obj} {vs : Array Value} (h : o.data = .fields vs) : ¬ IsDc o := fun ⟨_, _, e⟩ => by rw [h] at e; cases e
theorem IsDc.seq {o : Obj} {vs : Array Value} {n : Nat} (h : o.data = .seq vs n) : ¬ IsDc o := fun ⟨_, _, e⟩ => by rw [h] at e; cases e
noncomputable def Kept (o o' : Obj) : Prop := o' = o ∨ (IsDc o ∧ ∃ sl, o' = { o with slots := sl })
theorem Kept.refl {o : Obj} : Kept o o := .inl _root_.rfl
theorem Kept.trans {o o' o'' : Obj} (x : Kept o o') (y : Kept o' o'') : Kept o o'' := by
  rcases x with rfl | ⟨hc, sl, rfl⟩
  · exact y
  · rcases y with rfl | ⟨_, sl', rfl⟩
    · exact .inr ⟨hc, sl, rfl⟩
    · exact .inr ⟨hc, sl', rfl⟩
theorem Kept.data {o o' : Obj} (x : Kept o o') : o'.data = o.data := by rcases x with rfl | ⟨_, sl, rfl⟩ <;> rfl
theorem Kept.same {o o' : Obj} (x : Kept o o') (h : ¬ IsDc o) : o' = o := x.elim id fun q => absurd q.1 h
noncomputable def Keeps1 (h h' : Heap) (a : Addr) : Prop := ∀ o, h.get? a = some o → ∃ o', h'.get? a = some o' ∧ Kept o o'
theorem Keeps1.of {h h' : Heap} {a : Addr} (x : ∀ o, h.get? a = some o → h'.get? a = some o) : Keeps1 h h' a := fun o e => ⟨o, x o e, Kept.refl⟩
theorem Keeps1.trans {h h' h'' : Heap} {a : Addr} (x : Keeps1 h h' a) (y : Keeps1 h' h'' a) : Keeps1 h h'' a := fun o e => let ⟨o', e', k⟩ := x o e; let ⟨o'', e'', k'⟩ := y o' e'; ⟨o'', e'', k.trans k'⟩
theorem Keeps1.ns {h h' : Heap} {a m} (x : Keeps1 h h' a) (hn : h.Ns a m) : h'.Ns a m := let ⟨o, es, ep, e, hd, r⟩ := hn; let ⟨o', e', k⟩ := x o e; ⟨o', es, ep, e', k.data.trans hd, r⟩
theorem Keeps1.cell {h h' : Heap} {a v} (x : Keeps1 h h' a) (hn : h.IsCell a v) : h'.IsCell a v := let ⟨o, e, hd⟩ := hn; let ⟨o', e', k⟩ := x o e; ⟨o', e', k.data.trans hd⟩
/- from one state to a later one: what K says is kept -/
structure Gr (C : Cx) (K : Addr → Prop) (F : Ghost) (s : Shared) (F' : Ghost) (s' : Shared) : Prop where
  ok : Ok C F' s'
  le : GLe F F'
  new : ∀ a o, F' a = some o → F a = some o ∨ s.heap.get? a = none ∨ ¬ K a
  keep : ∀ a, K a → a ∉ C.T → Keeps1 s.heap s'.heap a
  os : s'.os = s.os
noncomputable abbrev All : Addr → Prop := fun _ => True
noncomputable abbrev Grow (C : Cx) (F : Ghost) (s : Shared) (F' : Ghost) (s' : Shared) : Prop := Gr C All F s F' s'
section
variable {C : Cx} {F F' F'' : Ghost} {s s' s'' : Shared} {K K' : Addr → Prop}
theorem Gr.refl (x : Ok C F s) : Gr C K F s F s := ⟨x, GLe.refl F, fun _ _ e => .inl e, fun _ _ _ => .of fun _ e => e, rfl⟩
theorem Grow.refl (x : Ok C F s) : Grow C F s F s := Gr.refl x
theorem Gr.trans (x : Gr C K F s F' s') (y : Gr C K F' s' F'' s'') : Gr C K F s F'' s'' :=
  ⟨y.ok, x.le.trans y.le, fun a o e => (y.new a o e).elim (fun e' => x.new a o e') fun h => .inr (by
      by_cases hK : K a
      · refine .inl (h.elim (fun h => ?_) fun h => absurd hK h)
        cases e' : s.heap.get? a with
        | none => rfl
        | some o' =>
          by_cases hT : a ∈ C.T
          · obtain ⟨ps, e2, _⟩ := x.ok.tabs a hT
            rw [h] at e2; cases e2
          · obtain ⟨o2, e2, _⟩ := x.keep a hK hT o' e'
            rw [h] at e2; cases e2
      · exact .inr hK),
    fun a hk h => (x.keep a hk h).trans (y.keep a hk h), y.os.trans x.os⟩
theorem Gr.weak (hk : ∀ a, K' a → K a) (x : Gr C K F s F' s') : Gr C K' F s F' s' :=
  ⟨x.ok, x.le, fun a o e => (x.new a o e).imp id fun h => h.imp id fun h q => h (hk a q), fun a q => x.keep a (hk a q), x.os⟩
theorem Grow.any (x : Grow C F s F' s') : Gr C K F s F' s' := Gr.weak (fun _ _ => trivial) x
theorem Gr.any (x : Gr C All F s F' s') : Gr C K F s F' s' := Gr.weak (fun _ _ => trivial) x
theorem Ok.tlt (x : Ok C F s) {P : Addr} (h : P ∈ C.T) : P < s.heap.objs.size := let ⟨_, e, _⟩ := x.tabs P h; Heap.lt_size e
/- only tokens are drawn -/
theorem Ok.toks (x : Ok C F s) (n : Nat) : Ok C F { s with toks := n } := ⟨x.base, x.sub, x.gens, x.tabF, x.tabs⟩
theorem Grow.toks (x : Ok C F s) (n : Nat) : Grow C F s F { s with toks := n } :=
  ⟨x.toks n, GLe.refl F, fun _ _ e => .inl e, fun _ _ _ => .of fun _ e => e, rfl⟩
theorem Grow.tok1 (x : Ok C F s) : Grow C F s F { s with toks := s.toks + 1 } := Grow.toks x _
/- the heap grows, the tables stand -/
theorem Gr.heap (x : Ok C F s) {h' : Heap} {n : Nat} (hF : ∀ b o, F b = some o → K b) (hT : ∀ b ∈ C.T, K b) (hk : ∀ b o, K b → s.heap.get? b = some o → h'.get? b = some o) :
    Gr C K F s F { s with heap := h', toks := n } :=
  ⟨⟨x.base, fun a o e => hk a o (hF a o e) (x.sub a o e), x.gens, x.tabF, fun P hP => let ⟨ps, e, g⟩ := x.tabs P hP; ⟨ps, hk _ _ (hT P hP) e, g⟩⟩, GLe.refl F, fun _ _ e => .inl e, fun a q _ => .of fun o e => hk a o q e, rfl⟩
theorem Grow.heap (x : Ok C F s) {h' : Heap} {n : Nat} (hk : ∀ b o, s.heap.get? b = some o → h'.get? b = some o) :
    Grow C F s F { s with heap := h', toks := n } := Gr.heap x (fun _ _ _ => trivial) (fun _ _ => trivial) fun b o _ => hk b o
noncomputable def Ghost.add (F : Ghost) (a : Addr) (o : Obj) : Ghost := fun b => if b = a then some o else F b
theorem Ghost.add_self (F : Ghost) (a : Addr) (o : Obj) : (F.add a o) a = some o := by simp [Ghost.add]
theorem Ghost.add_ne {F : Ghost} {a b : Addr} {o : Obj} (h : b ≠ a) : (F.add a o) b = F b := by simp [Ghost.add, h]
theorem Ghost.le_add {F : Ghost} {a : Addr} {o : Obj} (h : F a = none) : GLe F (F.add a o) := fun b o' e => by
  by_cases hb : b = a
  · subst hb; rw [h] at e; cases e
  · rw [Ghost.add_ne hb]; exact e
theorem Ok.none_of_dead (x : Ok C F s) {a : Addr} (h : s.heap.get? a = none) : F a = none := by
  cases e : F a with
  | none => rfl
  | some o => have := x.sub _ _ e; rw [h] at this; cases this
theorem Ok.notT (x : Ok C F s) {a : Addr} (h : s.heap.get? a = none) : a ∉ C.T := fun q => let ⟨_, e, _⟩ := x.tabs a q; by rw [h] at e; cases e
theorem dead_top (h : Heap) : h.get? h.objs.size = none := Heap.get?_none_of_le (Nat.le_refl _)
/- an object that stands is taken into the ghost -/
theorem Ok.add (x : Ok C F s) {a : Addr} {o : Obj} (ho : s.heap.get? a = some o) (hn : F a = none) (hT : a ∉ C.T) : Ok C (F.add a o) s :=
  have le := Ghost.le_add (o := o) hn
  ⟨fun b o' e => le _ _ (x.base b o' e), fun b o' e => by
      by_cases hb : b = a
      · subst hb; rw [Ghost.add_self] at e; cases e; exact ho
      · rw [Ghost.add_ne hb] at e; exact x.sub b o' e, x.gens,
    fun P hP => by rw [Ghost.add_ne (fun q : P = a => hT (by rw [← q]; exact hP))]; exact x.tabF P hP, fun P hP => let ⟨ps, e, g⟩ := x.tabs P hP; ⟨ps, e, g.mono le⟩⟩
theorem Gr.add (x : Ok C F s) {a : Addr} {o : Obj} (ho : s.heap.get? a = some o) (hn : F a = none) (hT : a ∉ C.T) (hK : ¬ K a) : Gr C K F s (F.add a o) s :=
  ⟨x.add ho hn hT, Ghost.le_add hn, fun b o' e => by
    by_cases hb : b = a
    · exact .inr (.inr (hb ▸ hK))
    · rw [Ghost.add_ne hb] at e; exact .inl e, fun _ _ _ => .of fun _ e => e, rfl⟩
/- a new frozen object -/
theorem Grow.alloc (x : Ok C F s) (o : Obj) (hf : o.isFreed = false := by rfl) : Grow C F s (F.add s.heap.objs.size o) { s with heap := s.heap.push o } := by
  have g := Grow.heap x (h' := s.heap.push o) (n := s.toks) (fun b o' e => Heap.get?_push_of_some _ e)
  have hn : F s.heap.objs.size = none := x.none_of_dead (dead_top _)
  have hT : s.heap.objs.size ∉ C.T := x.notT (dead_top _)
  refine ⟨g.ok.add (Heap.get?_push_size _ hf) hn hT, Ghost.le_add hn, fun a o' e => ?_, g.keep, rfl⟩
  by_cases ha : a = s.heap.objs.size
  · exact .inr (.inl (ha ▸ dead_top _))
  · rw [Ghost.add_ne ha] at e; exact .inl e
end
/- mutable objects of a frame -/
inductive MO where
  | lst (xs : List AV)
  | obj (P : Ghost → Obj → Prop) (hm : ∀ F F' o, GLe F F' → P F o → P F' o)
noncomputable def MOk (F : Ghost) (h : Heap) (l : Addr) : MO → Prop
  | .lst xs => ∃ vs, h.PlainList l vs.toArray ∧ Reps F xs vs
  | .obj P _ => ∃ o, h.get? l = some o ∧ ¬ IsDc o ∧ P F o
theorem Keeps1.plain {h h' : Heap} {a v} (x : Keeps1 h h' a) (hn : h.PlainList a v) : h'.PlainList a v := let ⟨n, e⟩ := hn; let ⟨o', e', k⟩ := x _ e; ⟨n, by rw [e', k.same (IsDc.seq rfl)]⟩
/- a frame -/
structure Fm where
  A : Around
  env : Env
  E : Addr → Prop
  W : List Addr
  cl : Bool
  I : Ghost → Prop
  fs : List Addr := []
noncomputable abbrev Rho := List (Str × AV)
noncomputable abbrev Sig := List (Addr × MO)
/- an outer frame stands -/
noncomputable def FrOk (C : Cx) (F : Ghost) (s : Shared) (L : Addr) : Prop := F L = none ∧ L ∉ C.T ∧ ∃ o, s.heap.get? L = some o ∧ IsDc o
structure St (C : Cx) (fm : Fm) (ρ : Rho) (σ : Sig) (F : Ghost) (s : Shared) : Prop where
  ok : Ok C F s
  kind : fm.env.scope.kind = .function
  glb : fm.env.globals = mainGlobals
  blt : fm.env.builtins = builtinsNs
  loc : ∃ m, s.heap.Ns fm.env.locals m ∧ ∀ x a, ρ.lookup x = some a → fm.env.kindOf x = some .local → ∃ v, m x = some v ∧ Rep F a v
  locF : F fm.env.locals = none
  locT : fm.env.locals ∉ C.T
  locB : ¬ fm.E fm.env.locals
  base : ∀ a, fm.E a → ∃ o, s.heap.get? a = some o
  cel : ∀ x a, ρ.lookup x = some a → (fm.env.kindOf x = some .cell ∨ fm.env.kindOf x = some .free) → ∃ c v, fm.env.cells.lookup x = some c ∧ s.heap.IsCell c (some v) ∧ Rep F a v
  own : fm.cl = true → ∀ x, fm.env.kindOf x = some .cell → ∃ c v, fm.env.cells.lookup x = some c ∧ s.heap.IsCell c v ∧ ¬ fm.E c ∧ F c = none
  apart : ∀ x y c, fm.env.cells.lookup x = some c → fm.env.cells.lookup y = some c → x = y
  cne : ∀ x c, fm.env.cells.lookup x = some c → c ≠ fm.env.locals ∧ c ∉ C.T ∧ ∃ o, s.heap.get? c = some o
  mu : ∀ p ∈ σ, MOk F s.heap p.1 p.2 ∧ F p.1 = none ∧ p.1 ∉ C.T ∧ p.1 ≠ fm.env.locals ∧ (∀ x c, fm.env.cells.lookup x = some c → p.1 ≠ c) ∧ (¬ fm.E p.1 ∨ p.1 ∈ fm.W)
  mud : (σ.map (·.1)).Nodup
  inv : fm.I F
  imo : ∀ F F', GLe F F' → fm.I F → fm.I F'
  fr : ∀ L ∈ fm.fs, fm.E L ∧ L ∉ fm.W ∧ FrOk C F s L
section
variable {C : Cx} {fm : Fm} {ρ : Rho} {σ : Sig} {F F' : Ghost} {s s' : Shared} {K : Addr → Prop}
theorem MOk.gr {l : Addr} {o : MO} (g : Gr C K F s F' s') (hK : K l) (hT : l ∉ C.T) (x : MOk F s.heap l o) : MOk F' s'.heap l o := by
  cases o with
  | lst xs =>
    obtain ⟨vs, hl, hr⟩ := x
    exact ⟨vs, (g.keep _ hK hT).plain hl, Reps.mono g.le _ _ hr⟩
  | obj P hm =>
    obtain ⟨o, ho, hc, hp⟩ := x
    obtain ⟨o', e, k⟩ := g.keep _ hK hT _ ho
    exact ⟨o, by rw [e, k.same hc], hc, hm _ _ _ g.le hp⟩
theorem MOk.live {l : Addr} {o : MO} (x : MOk F s.heap l o) : ∃ o, s.heap.get? l = some o := by
  cases o with
  | lst xs => obtain ⟨_, ⟨o, ho⟩, _⟩ := x; exact ⟨_, ho⟩
  | obj P hm => obtain ⟨o, ho, _⟩ := x; exact ⟨_, ho⟩
theorem Gr.none_of_live (g : Gr C K F s F' s') {a : Addr} (hK : K a) (h : ∃ o, s.heap.get? a = some o) (hn : F a = none) : F' a = none := by
  cases e : F' a with
  | none => rfl
  | some o =>
    rcases g.new a o e with e' | hge | hk
    · rw [hn] at e'; cases e'
    · obtain ⟨o', e'⟩ := h; rw [hge] at e'; cases e'
    · exact absurd hK hk
theorem Gr.live (g : Gr C K F s F' s') {a : Addr} (hK : K a) (h : ∃ o, s.heap.get? a = some o) : ∃ o, s'.heap.get? a = some o := by
  by_cases hT : a ∈ C.T
  · obtain ⟨ps, e, _⟩ := g.ok.tabs a hT; exact ⟨_, e⟩
  · obtain ⟨o, e⟩ := h; obtain ⟨o', e', _⟩ := g.keep a hK hT o e; exact ⟨o', e'⟩
theorem nsLive {h : Heap} {a m} (x : h.Ns a m) : ∃ o, h.get? a = some o := let ⟨o, _, _, e, _⟩ := x; ⟨o, e⟩
theorem cellLive {h : Heap} {a m} (x : h.IsCell a m) : ∃ o, h.get? a = some o := let ⟨o, e, _⟩ := x; ⟨o, e⟩
theorem FrOk.gr {L : Addr} (x : FrOk C F s L) (g : Gr C K F s F' s') (hK : K L) : FrOk C F' s' L :=
  let ⟨h1, h2, o, ho, hd⟩ := x
  let ⟨o', e, k⟩ := g.keep L hK h2 o ho
  ⟨g.none_of_live hK ⟨o, ho⟩ h1, h2, o', e, by unfold IsDc; rw [k.data]; exact hd⟩
/- a step that keeps the frame's own but for the objects X of its list -/
theorem St.gr {τ τ' : Sig} (x : St C fm ρ (τ ++ σ) F s) (g : Gr C (fun a => a ∉ τ.map (·.1)) F s F' s') (he : τ'.map (·.1) = τ.map (·.1)) (hm : ∀ p ∈ τ', MOk F' s'.heap p.1 p.2 ∧ F' p.1 = none) : St C fm ρ (τ' ++ σ) F' s' := by
  obtain ⟨m, hns, hm'⟩ := x.loc
  have hd := x.mud
  rw [List.map_append, List.nodup_append] at hd
  have inτ : ∀ a, a ∈ τ.map (·.1) → a ≠ fm.env.locals ∧ (∀ y c, fm.env.cells.lookup y = some c → a ≠ c) := fun a ha => by
    obtain ⟨p, hp, rfl⟩ := List.mem_map.mp ha
    obtain ⟨_, _, _, h4, h5, _⟩ := x.mu p (List.mem_append_left _ hp)
    exact ⟨h4, h5⟩
  have hL : fm.env.locals ∉ τ.map (·.1) := fun q => (inτ _ q).1 rfl
  have hc : ∀ y c, fm.env.cells.lookup y = some c → c ∉ τ.map (·.1) := fun y c e q => (inτ _ q).2 y c e rfl
  have hns' : s'.heap.Ns fm.env.locals m := (g.keep _ hL x.locT).ns hns
  refine ⟨g.ok, x.kind, x.glb, x.blt, ⟨m, hns', fun y a e hk => let ⟨v, e1, r⟩ := hm' y a e hk; ⟨v, e1, Rep.mono g.le _ _ r⟩⟩, g.none_of_live hL (nsLive hns) x.locF, x.locT, x.locB, fun a ha => ?_,
    fun y a e hk => let ⟨c, v, e1, ho, r⟩ := x.cel y a e hk; ⟨c, v, e1, (g.keep _ (hc y c e1) (x.cne y c e1).2.1).cell ho, Rep.mono g.le _ _ r⟩,
    fun hcl y hk => let ⟨c, v, e1, ho, hB, hF⟩ := x.own hcl y hk; ⟨c, v, e1, (g.keep _ (hc y c e1) (x.cne y c e1).2.1).cell ho, hB, g.none_of_live (hc y c e1) (cellLive ho) hF⟩, x.apart, fun y c e => ⟨(x.cne y c e).1, (x.cne y c e).2.1, g.live (hc y c e) (x.cne y c e).2.2⟩, fun p hp => ?_,
    by rw [List.map_append, he, List.nodup_append]; exact hd, x.imo _ _ g.le x.inv, x.imo, fun L hL => let ⟨h1, h2, h3⟩ := x.fr L hL; ⟨h1, h2, h3.gr g fun q => by
      obtain ⟨p, hp, e⟩ := List.mem_map.mp q
      obtain ⟨_, _, _, _, _, h6⟩ := x.mu p (List.mem_append_left _ hp)
      rw [e] at h6
      exact h6.elim (fun h => h h1) h2⟩⟩
  · by_cases hτ : a ∈ τ.map (·.1)
    · rw [← he] at hτ
      obtain ⟨p, hp, rfl⟩ := List.mem_map.mp hτ
      exact (hm p hp).1.live
    · exact g.live hτ (x.base a ha)
  rcases List.mem_append.mp hp with hp | hp
  · have hp' : p.1 ∈ τ.map (·.1) := he ▸ List.mem_map_of_mem hp
    obtain ⟨q, hq, e⟩ := List.mem_map.mp hp'
    obtain ⟨_, _, h3, h4⟩ := x.mu q (List.mem_append_left _ hq)
    rw [e] at h3 h4
    exact ⟨(hm p hp).1, (hm p hp).2, h3, h4⟩
  · obtain ⟨h1, h2, h3, h4⟩ := x.mu p (List.mem_append_right _ hp)
    have hnτ : p.1 ∉ τ.map (·.1) := fun q => (hd.2.2 _ q _ (List.mem_map_of_mem hp)) rfl
    exact ⟨h1.gr g hnτ h3, g.none_of_live hnτ h1.live h2, h3, h4⟩
theorem St.grow (x : St C fm ρ σ F s) (g : Grow C F s F' s') : St C fm ρ σ F' s' :=
  St.gr (τ := []) (τ' := []) x g.any rfl (fun _ h => nomatch h)
end
/- an expression's value -/
structure Ev (C : Cx) (fm : Fm) (ρ : Rho) (σ : Sig) (e : Expr) (a : AV) : Prop where
  of ::
  h :
  ∀ F s, St C fm ρ σ F s → wpAny C.M fm.A (eval e fm.env) (fun v s' => ∃ F', Grow C F s F' s' ∧ Rep F' a v) (fun _ _ => False) s
/- a test's truth -/
structure Tr (C : Cx) (fm : Fm) (ρ : Rho) (σ : Sig) (e : Expr) (b : Bool) : Prop where
  of ::
  h :
  ∀ F s, St C fm ρ σ F s → wpAny C.M fm.A (isTrue e fm.env (eval e fm.env)) (fun v s' => v = b ∧ ∃ F', Grow C F s F' s') (fun _ _ => False) s
/- arguments, items of a display -/
structure Evs (C : Cx) (fm : Fm) (ρ : Rho) (σ : Sig) (es : List Expr) (as : List AV) : Prop where
  of ::
  h :
  ∀ F s pos, St C fm ρ σ F s → wpAny C.M fm.A (spliced (backTo pos (starEach es fm.env))) (fun vs s' => ∃ F', Grow C F s F' s' ∧ Reps F' as vs) (fun _ _ => False) s
section
variable {C : Cx} {fm : Fm} {ρ : Rho} {σ : Sig}
theorem Ev.int {i : Int} {k pos} : Ev C fm ρ σ (.Constant (.int i) k pos) (.int i) := ⟨fun F s x =>
  wpAny_Constant_int ⟨F, Grow.tok1 x.ok, rInt⟩⟩
theorem Ev.str {i : Str} {k pos} : Ev C fm ρ σ (.Constant (.str i) k pos) (.str i) := ⟨fun F s x =>
  wpAny_Constant_str ⟨F, Grow.tok1 x.ok, rStr⟩⟩
theorem Ev.bool {i : Bool} {k pos} : Ev C fm ρ σ (.Constant (.bool i) k pos) (.bool i) := ⟨fun F s x =>
  wpAny_Constant_bool ⟨F, Grow.refl x.ok, rVal⟩⟩
theorem Ev.non {k pos} : Ev C fm ρ σ (.Constant .none k pos) .none := ⟨fun F s x =>
  wpAny_Constant_none ⟨F, Grow.refl x.ok, rVal⟩⟩
theorem Ev.loc {x : Str} {pos} {a : AV} (hr : ρ.lookup x = some a) (hk : fm.env.kindOf x = some .local) (hd : (x == ("__debug__" : Str)) = false := by decide) : Ev C fm ρ σ (.Name x pos) a := ⟨fun F s X => by
  obtain ⟨m, hns, hm⟩ := X.loc
  obtain ⟨v, e, r⟩ := hm x a hr hk
  exact wpAny_Name (wpAny_loadName_local X.kind hk hns e ⟨F, Grow.refl X.ok, r⟩) hd⟩
theorem Ev.cel {x : Str} {pos} {a : AV} (hr : ρ.lookup x = some a) (hk : fm.env.kindOf x = some .cell) (hd : (x == ("__debug__" : Str)) = false := by decide) : Ev C fm ρ σ (.Name x pos) a := ⟨fun F s X => by
  obtain ⟨c, v, e, hc, r⟩ := X.cel x a hr (.inl hk)
  exact wpAny_Name (wpAny_loadName_cell X.kind hk e hc ⟨F, Grow.refl X.ok, r⟩) hd⟩
theorem Ev.fre {x : Str} {pos} {a : AV} (hr : ρ.lookup x = some a) (hk : fm.env.kindOf x = some .free) (hd : (x == ("__debug__" : Str)) = false := by decide) (hn : (x == ("__classdict__" : Str)) = false := by decide) : Ev C fm ρ σ (.Name x pos) a := ⟨fun F s X => by
  obtain ⟨c, v, e, hc, r⟩ := X.cel x a hr (.inr hk)
  exact wpAny_Name (wpAny_loadName_free X.kind hk e hc ⟨F, Grow.refl X.ok, r⟩ hn) hd⟩
/- a global name -/
noncomputable def Cx.gl (C : Cx) (x : Str) (v : Value) : Prop := C.mg x = some v ∨ (C.mg x = none ∧ C.mb x = some v)
theorem Ev.glo {x : Str} {pos} {v : Value} (hk : fm.env.kindOf x = some .globalImplicit) (hg : C.gl x v) (hd : (x == ("__debug__" : Str)) = false := by decide) : Ev C fm ρ σ (.Name x pos) (.val v) := ⟨fun F s X => by
  have hgn : s.heap.Ns mainGlobals C.mg := C.hg.keeps fun b o e => X.ok.sub _ _ (X.ok.base _ _ e)
  have hbn : s.heap.Ns builtinsNs C.mb := C.hb.keeps fun b o e => X.ok.sub _ _ (X.ok.base _ _ e)
  refine wpAny_Name ?_ hd
  have e : loadName fm.env x = loadGlobal fm.env x := by
    unfold loadName
    simp only [Env.blockKind, X.kind, hk, ScopeKind.isAnnotationScope, Bool.false_and, Bool.false_eq_true, if_false]
  rw [e]
  unfold loadGlobal
  rw [X.glb, X.blt]
  refine wpAny_bind (wpAny_nsGet hgn ?_)
  rcases hg with h | ⟨h1, h2⟩
  · rw [h]; exact wpAny_pure ⟨F, Grow.refl X.ok, rVal⟩
  · rw [h1]
    refine wpAny_bind (wpAny_nsGet hbn ?_)
    rw [h2]; exact wpAny_pure ⟨F, Grow.refl X.ok, rVal⟩⟩
/- two ints under an operator -/
structure BinI (op : Operator) (a b c : Int) : Prop where
  of ::
  h : ∀ (prog : Program) (w : World) (A : Around) (s : Shared) (t u : Tok) (Q : Value → Shared → Prop) (E : Value → Shared → Prop),
  Q (.int c s.toks) { s with toks := s.toks + 1 } → wpAny (model prog w) A (binaryOp op (.int a t) (.int b u)) Q E s
structure InI (op : Operator) (a b c : Int) : Prop where
  of ::
  h : ∀ (prog : Program) (w : World) (A : Around) (s : Shared) (t u : Tok) (Q : Value → Shared → Prop) (E : Value → Shared → Prop),
  Q (.int c s.toks) { s with toks := s.toks + 1 } → wpAny (model prog w) A (inplaceOp op (.int a t) (.int b u)) Q E s
structure CmpI (op : CmpOp) (a b : Int) (c : Bool) : Prop where
  of ::
  h : ∀ (prog : Program) (w : World) (A : Around) (s : Shared) (t u : Tok) (Q : Value → Shared → Prop) (E : Value → Shared → Prop),
  Q (.bool c) s → wpAny (model prog w) A (compareOp op (.int a t) (.int b u)) Q E s
theorem Ev.bin {l op r pos} {a b c : Int} (hl : Ev C fm ρ σ l (.int a)) (hr : Ev C fm ρ σ r (.int b)) (ho : BinI op a b c) : Ev C fm ρ σ (.BinOp l op r pos) (.int c) := ⟨fun F s X =>
  wpAny_BinOp (wpAny_mono (hl.h F s X) (fun v s₁ ⟨F₁, g₁, r₁⟩ => wpAny_mono (hr.h F₁ s₁ (X.grow g₁)) (fun u s₂ ⟨F₂, g₂, r₂⟩ => by
    obtain ⟨t, rfl⟩ := r₁.oint
    obtain ⟨t', rfl⟩ := r₂.oint
    exact ho.h _ _ _ _ _ _ _ _ ⟨F₂, (g₁.trans g₂).trans (Grow.tok1 g₂.ok), rInt⟩) fun _ _ x => x) fun _ _ x => x)⟩
theorem Tr.cmp {l op r pos} {a b : Int} {c : Bool} (hl : Ev C fm ρ σ l (.int a)) (hr : Ev C fm ρ σ r (.int b)) (ho : CmpI op a b c) (hm : behindInMarks op r = false := by with_unfolding_all rfl) :
    Tr C fm ρ σ (.Compare l [op] [r] pos) c := ⟨fun F s X =>
  wpAny_isTrue_Compare1 (wpAny_mono (hl.h F s X) (fun v s₁ ⟨F₁, g₁, r₁⟩ => wpAny_mono (hr.h F₁ s₁ (X.grow g₁)) (fun u s₂ ⟨F₂, g₂, r₂⟩ => by
    obtain ⟨t, rfl⟩ := r₁.oint
    obtain ⟨t', rfl⟩ := r₂.oint
    exact ho.h _ _ _ _ _ _ _ _ (wpAny_truthy_bool ⟨rfl, F₂, g₁.trans g₂⟩)) fun _ _ x => x) fun _ _ x => x) hm⟩
theorem BinI.add {a b : Int} : BinI .Add a b (a + b) := ⟨fun _ _ _ _ _ _ _ _ h => add_int h⟩
theorem BinI.sub {a b : Int} : BinI .Sub a b (a - b) := ⟨fun _ _ _ _ _ _ _ _ h => sub_int h⟩
theorem BinI.mul {a b : Int} (hm : IntMulOk a b) : BinI .Mult a b (a * b) := ⟨fun _ _ _ _ _ _ _ _ h => mul_int h hm⟩
theorem BinI.div {a b : Int} (hb : b ≠ 0) (hp : Builtin.divisionGoesByPylong a b = false) : BinI .FloorDiv a b (a.fdiv b) := ⟨fun _ _ _ _ _ _ _ _ h => floordiv_int hb h (.inl hp)⟩
theorem BinI.mod {a b : Int} (hb : b ≠ 0) : BinI .Mod a b (a.fmod b) := ⟨fun _ _ _ _ _ _ _ _ h => mod_int' hb h⟩
theorem BinI.and {a b : Int} : BinI .BitAnd a b (Builtin.bitAnd a b) := ⟨fun _ _ _ _ _ _ _ _ h => and_int h⟩
theorem BinI.or {a b : Int} : BinI .BitOr a b (Builtin.bitOr a b) := ⟨fun _ _ _ _ _ _ _ _ h => or_int h⟩
theorem BinI.xor {a b : Int} : BinI .BitXor a b (Builtin.bitXor a b) := ⟨fun _ _ _ _ _ _ _ _ h => xor_int h⟩
theorem BinI.shl {a b : Int} (hn : 0 ≤ b) (hn2 : b ≤ 1000000) (ha : a.natAbs < 2 ^ 64) : BinI .LShift a b (a * 2 ^ b.toNat) := ⟨fun _ _ _ _ _ _ _ _ h => lshift_int_small hn hn2 ha h⟩
theorem BinI.shr {a b : Int} (hn : 0 ≤ b) : BinI .RShift a b (a.fdiv (2 ^ b.toNat)) := ⟨fun _ _ _ _ _ _ _ _ h => rshift_int hn h⟩
theorem BinI.pow {a b : Int} (hn : 0 ≤ b) (hn2 : b ≤ 1000000) (ha : a.natAbs < 2 ^ 64) : BinI .Pow a b (a ^ b.toNat) := ⟨fun _ _ _ _ _ _ _ _ h => pow_int_small hn hn2 ha h⟩
theorem InI.add {a b : Int} : InI .Add a b (a + b) := ⟨fun _ _ _ _ _ _ _ _ h => iadd_int h⟩
theorem InI.or {a b : Int} : InI .BitOr a b (Builtin.bitOr a b) := ⟨fun _ _ _ _ _ _ _ _ h => ior_int h⟩
theorem InI.xor {a b : Int} : InI .BitXor a b (Builtin.bitXor a b) := ⟨fun _ _ _ _ _ _ _ _ h => ixor_int h⟩
theorem InI.shl {a b : Int} (hn : 0 ≤ b) (hn2 : b ≤ 1000000) (ha : a.natAbs < 2 ^ 64) : InI .LShift a b (a * 2 ^ b.toNat) := ⟨fun _ _ _ _ _ _ _ _ h => ilshift_int_small hn hn2 ha h⟩
theorem CmpI.lt {a b : Int} : CmpI .Lt a b (decide (a < b)) := ⟨fun _ _ _ _ _ _ _ _ h => lt_int h⟩
theorem CmpI.gt {a b : Int} : CmpI .Gt a b (decide (b < a)) := ⟨fun _ _ _ _ _ _ _ _ h => gt_int h⟩
theorem CmpI.le {a b : Int} : CmpI .LtE a b (decide (a ≤ b)) := ⟨fun _ _ _ _ _ _ _ _ h => le_int h⟩
theorem CmpI.eq {a b : Int} : CmpI .Eq a b (a == b) := ⟨fun _ _ _ _ _ _ _ _ h => eq_int h⟩
theorem CmpI.ne {a b : Int} : CmpI .NotEq a b (a != b) := ⟨fun _ _ _ _ _ _ _ _ h => ne_int h⟩
theorem Ev.neg {x pos} {a : Int} (hx : Ev C fm ρ σ x (.int a)) : Ev C fm ρ σ (.UnaryOp .USub x pos) (.int (-a)) := ⟨fun F s X =>
  wpAny_UnaryOp (wpAny_mono (hx.h F s X) (fun v s₁ ⟨F₁, g₁, r₁⟩ => by
    obtain ⟨t, rfl⟩ := r₁.oint
    exact neg_int ⟨F₁, g₁.trans (Grow.tok1 g₁.ok), rInt⟩) fun _ _ x => x)⟩
theorem Ev.inv {x pos} {a : Int} (hx : Ev C fm ρ σ x (.int a)) : Ev C fm ρ σ (.UnaryOp .Invert x pos) (.int (Builtin.bitNot a)) := ⟨fun F s X =>
  wpAny_UnaryOp (wpAny_mono (hx.h F s X) (fun v s₁ ⟨F₁, g₁, r₁⟩ => by
    obtain ⟨t, rfl⟩ := r₁.oint
    exact invert_int ⟨F₁, g₁.trans (Grow.tok1 g₁.ok), rInt⟩) fun _ _ x => x)⟩
theorem Ev.ife {t x y pos} {b : Bool} {a : AV} (ht : Tr C fm ρ σ t b) (hx : b = true → Ev C fm ρ σ x a) (hy : b = false → Ev C fm ρ σ y a) : Ev C fm ρ σ (.IfExp t x y pos) a := ⟨fun F s X =>
  wpAny_IfExp (wpAny_mono (ht.h F s X) (fun v s₁ ⟨e, F₁, g₁⟩ => by
    subst e
    have X₁ := X.grow g₁
    cases v with
    | true => exact wpAny_mono ((hx rfl).h F₁ s₁ X₁) (fun v s₂ ⟨F₂, g₂, r₂⟩ => ⟨F₂, g₁.trans g₂, r₂⟩) fun _ _ x => x
    | false => exact wpAny_mono ((hy rfl).h F₁ s₁ X₁) (fun v s₂ ⟨F₂, g₂, r₂⟩ => ⟨F₂, g₁.trans g₂, r₂⟩) fun _ _ x => x) fun _ _ x => x)⟩
/- the truth of a value -/
structure Tv (a : AV) (b : Bool) : Prop where
  of ::
  h : ∀ (C : Cx) (A : Around) (F : Ghost) (s : Shared) (v : Value) (Q : Bool → Shared → Prop) (E : Value → Shared → Prop),
  Ok C F s → Rep F a v → (∀ n, Q b { s with toks := n }) → wpAny C.M A (truthy v) Q E s
theorem Tv.int {i : Int} : Tv (.int i) (i != 0) := ⟨fun C A F s v Q E X r h => by obtain ⟨t, rfl⟩ := r.oint; exact P.truthy_int (h s.toks)⟩
theorem Tr.val {e : Expr} {a : AV} {b : Bool} (h : Ev C fm ρ σ e a) (ht : Tv a b) (he : isTrue e fm.env (eval e fm.env) = (do let v ← eval e fm.env; standAt e.pos; holding [v] (truthy v)) := by rfl) : Tr C fm ρ σ e b := ⟨fun F s X =>
  wpAny_isTrue_value (wpAny_mono (h.h F s X) (fun v s₁ ⟨F₁, g₁, r₁⟩ => ht.h C _ F₁ s₁ v _ _ g₁.ok r₁ fun n => ⟨rfl, F₁, g₁.trans (Grow.toks g₁.ok n)⟩) fun _ _ x => x) he⟩
theorem Tr.not {x pos} {b : Bool} (h : Tr C fm ρ σ x b) : Tr C fm ρ σ (.UnaryOp .Not x pos) (!b) := ⟨fun F s X =>
  wpAny_isTrue_Not (wpAny_mono (h.h F s X) (fun v s₁ ⟨e, F₁, g₁⟩ => ⟨by rw [e], F₁, g₁⟩) fun _ _ x => x)⟩
structure Trs (C : Cx) (fm : Fm) (ρ : Rho) (σ : Sig) (op : BoolOp) (es : List Expr) (b : Bool) : Prop where
  of ::
  h :
  ∀ F s, St C fm ρ σ F s → wpAny C.M fm.A (allTrue op es fm.env) (fun v s' => v = b ∧ ∃ F', Grow C F s F' s') (fun _ _ => False) s
theorem Tr.bop {op es pos} {b : Bool} (h : Trs C fm ρ σ op es b) : Tr C fm ρ σ (.BoolOp op es pos) b := ⟨fun F s X => wpAny_isTrue_BoolOp (h.h F s X)⟩
theorem Trs.and_nil : Trs C fm ρ σ .And [] true := ⟨fun F s X => wpAny_allTrue_And_nil ⟨rfl, F, Grow.refl X.ok⟩⟩
theorem Trs.or_nil : Trs C fm ρ σ .Or [] false := ⟨fun F s X => wpAny_allTrue_Or_nil ⟨rfl, F, Grow.refl X.ok⟩⟩
theorem Trs.and_cons {e es} {b c : Bool} (h : Tr C fm ρ σ e b) (hr : b = true → Trs C fm ρ σ .And es c) : Trs C fm ρ σ .And (e :: es) (b && c) := ⟨fun F s X =>
  wpAny_allTrue_And_cons (wpAny_mono (h.h F s X) (fun v s₁ ⟨e, F₁, g₁⟩ => by
    subst e
    cases v with
    | true => exact wpAny_mono ((hr rfl).h F₁ s₁ (X.grow g₁)) (fun v s₂ ⟨e, F₂, g₂⟩ => ⟨by rw [e]; rfl, F₂, g₁.trans g₂⟩) fun _ _ x => x
    | false => exact ⟨rfl, F₁, g₁⟩) fun _ _ x => x)⟩
theorem Trs.or_cons {e es} {b c : Bool} (h : Tr C fm ρ σ e b) (hr : b = false → Trs C fm ρ σ .Or es c) : Trs C fm ρ σ .Or (e :: es) (b || c) := ⟨fun F s X =>
  wpAny_allTrue_Or_cons (wpAny_mono (h.h F s X) (fun v s₁ ⟨e, F₁, g₁⟩ => by
    subst e
    cases v with
    | false => exact wpAny_mono ((hr rfl).h F₁ s₁ (X.grow g₁)) (fun v s₂ ⟨e, F₂, g₂⟩ => ⟨by rw [e]; rfl, F₂, g₁.trans g₂⟩) fun _ _ x => x
    | true => exact ⟨rfl, F₁, g₁⟩) fun _ _ x => x)⟩
theorem Evs.nil : Evs C fm ρ σ [] [] := ⟨fun F s pos X => wpAny_items_nil ⟨F, Grow.refl X.ok, rNil⟩⟩
theorem Evs.cons {e es} {a : AV} {as : List AV} (h : Ev C fm ρ σ e a) (hr : Evs C fm ρ σ es as) (he : starEach (e :: es) fm.env = (false, eval e fm.env) :: starEach es fm.env := by rfl) : Evs C fm ρ σ (e :: es) (a :: as) := ⟨fun F s pos X =>
  wpAny_items_cons (wpAny_mono (h.h F s X) (fun v s₁ ⟨F₁, g₁, r₁⟩ => wpAny_mono (hr.h F₁ s₁ pos (X.grow g₁)) (fun vs s₂ ⟨F₂, g₂, r₂⟩ => ⟨F₂, g₁.trans g₂, rCons (Rep.mono g₂.le _ _ r₁) r₂⟩) fun _ _ x => x) fun _ _ x => x) he⟩
theorem Reps.length {F : Ghost} : ∀ {xs : List AV} {vs : List Value}, Reps F xs vs → xs.length = vs.length
  | [], _, h => by simp only [Reps] at h; subst h; rfl
  | _ :: _, _, h => by simp only [Reps] at h; obtain ⟨v, r, rfl, _, hr⟩ := h; simp [hr.length]
theorem Ev.tup {es k pos} {as : List AV} (h : Evs C fm ρ σ es as) (hn : as.length ≤ 1000000 := by simp) : Ev C fm ρ σ (.Tuple es k pos) (.tup as) := ⟨fun F s X =>
  wpAny_Tuple (wpAny_mono (h.h F s pos X) (fun vs s₁ ⟨F₁, g₁, r₁⟩ => ⟨by rw [sizeLine_eq, ← r₁.length]; omega, _, g₁.trans (Grow.alloc g₁.ok _), 
    rTup ⟨_, _, Ghost.add_self _ _ _, rfl, rfl⟩ (Reps.mono (Grow.alloc g₁.ok _).le _ _ r₁)⟩) fun _ _ x => x)⟩
theorem Ev.lst {es pos} {as : List AV} (h : Evs C fm ρ σ es as) (hn : as.length ≤ 1000000 := by simp) : Ev C fm ρ σ (.List es pos) (.list as) := ⟨fun F s X =>
  wpAny_List (wpAny_mono (h.h F s pos X) (fun vs s₁ ⟨F₁, g₁, r₁⟩ => ⟨by rw [sizeLine_eq, ← r₁.length]; omega, _, g₁.trans (Grow.alloc g₁.ok _), 
    rLst ⟨_, _, Ghost.add_self _ _ _, rfl, rfl⟩ (Reps.mono (Grow.alloc g₁.ok _).le _ _ r₁)⟩) fun _ _ x => x)⟩
end
end
noncomputable abbrev Kf (fm : Fm) : Addr → Prop := fun a => fm.E a ∧ a ∉ fm.W
/- mutable objects stand -/
noncomputable def SigOk (F : Ghost) (s : Shared) (τ : Sig) : Prop := ∀ p ∈ τ, MOk F s.heap p.1 p.2 ∧ F p.1 = none
theorem St.allOk {C : Cx} {fm : Fm} {ρ : Rho} {σ : Sig} {F : Ghost} {s : Shared} (X : St C fm ρ σ F s) : SigOk F s σ := fun p hp => ⟨(X.mu p hp).1, (X.mu p hp).2.1⟩
/- what stands when a frame gives its value back -/
structure RetOk (C : Cx) (fm : Fm) (F : Ghost) (s : Shared) (σ : Sig) : Prop where
  sig : SigOk F s σ
  ns : ∃ m, s.heap.Ns fm.env.locals m
  locF : F fm.env.locals = none
  locT : fm.env.locals ∉ C.T
  apart : ∀ p ∈ σ, p.1 ≠ fm.env.locals ∧ p.1 ∉ C.T
theorem St.retOk {C : Cx} {fm : Fm} {ρ : Rho} {σ : Sig} {F : Ghost} {s : Shared} (X : St C fm ρ σ F s) : RetOk C fm F s σ :=
  ⟨X.allOk, let ⟨m, h, _⟩ := X.loc; ⟨m, h⟩, X.locF, X.locT, fun p hp => let ⟨_, _, h3, h4, _⟩ := X.mu p hp; ⟨h4, h3⟩⟩
/- how a block ends -/
inductive Out where
  | nxt (ρ : Rho) (σ : Sig)
  | brk (ρ : Rho) (σ : Sig)
  | cnt (ρ : Rho) (σ : Sig)
  | ret (a : AV) (σ : Sig)
  | rse (P : Ghost → Shared → Value → Shared → Prop)
noncomputable def OutOk (C : Cx) (fm : Fm) (F : Ghost) (s : Shared) (f : Flow) : Out → Prop
  | .nxt ρ σ => f = .next ∧ St C fm ρ σ F s
  | .brk ρ σ => f = .brk ∧ St C fm ρ σ F s
  | .cnt ρ σ => f = .cont ∧ St C fm ρ σ F s
  | .ret a σ => ∃ v, f = .ret v ∧ Rep F a v ∧ RetOk C fm F s σ
  | .rse _ => False
noncomputable def OutE (C : Cx) (fm : Fm) (F : Ghost) (s : Shared) (out : Out) : Value → Shared → Prop :=
  fun e s' => ∃ P, out = .rse P ∧ ∃ F' s₀, Gr C (Kf fm) F s F' s₀ ∧ P F' s₀ e s'
noncomputable def OutQ (C : Cx) (fm : Fm) (F : Ghost) (s : Shared) (out : Out) : Flow → Shared → Prop :=
  fun f s' => ∃ F', Gr C (Kf fm) F s F' s' ∧ OutOk C fm F' s' f out
/- a block's run -/
structure Ex (C : Cx) (fm : Fm) (ρ : Rho) (σ : Sig) (ss : List Stmt) (out : Out) : Prop where
  of ::
  h :
  ∀ F s, St C fm ρ σ F s → wpAny C.M fm.A (execs ss fm.env) (OutQ C fm F s out) (OutE C fm F s out) s
structure Es (C : Cx) (fm : Fm) (ρ : Rho) (σ : Sig) (st : Stmt) (out : Out) : Prop where
  of ::
  h :
  ∀ F s, St C fm ρ σ F s → wpAny C.M fm.A (exec st fm.env) (OutQ C fm F s out) (OutE C fm F s out) s
section
variable {C : Cx} {fm : Fm} {ρ ρ' : Rho} {σ σ' : Sig} {F F' : Ghost} {s s' : Shared} {out : Out}
theorem OutQ.pre {f : Flow} {t : Shared} (g : Gr C (Kf fm) F s F' s') (h : OutQ C fm F' s' out f t) : OutQ C fm F s out f t :=
  let ⟨F'', g', r⟩ := h; ⟨F'', g.trans g', r⟩
theorem OutE.pre {e : Value} {t : Shared} (g : Gr C (Kf fm) F s F' s') (h : OutE C fm F' s' out e t) : OutE C fm F s out e t :=
  let ⟨P, r, F'', s₀, g', q⟩ := h; ⟨P, r, F'', s₀, g.trans g', q⟩
theorem Ex.nil : Ex C fm ρ σ [] (.nxt ρ σ) := ⟨fun F s X => wpAny_execs_nil ⟨F, Gr.refl X.ok, rfl, X⟩⟩
theorem Ex.cons {st ss} (h : Es C fm ρ σ st (.nxt ρ' σ')) (hr : Ex C fm ρ' σ' ss out) : Ex C fm ρ σ (st :: ss) out := ⟨fun F s X =>
  wpAny_execs_cons (wpAny_mono (h.h F s X) (fun f s₁ ⟨F₁, g₁, e, X₁⟩ => by
    subst e
    exact wpAny_mono (hr.h F₁ s₁ X₁) (fun _ _ q => q.pre g₁) fun _ _ q => q.pre g₁) fun e s₁ ⟨P, q, _⟩ => nomatch q)⟩
noncomputable def Out.isNxt : Out → Bool
  | .nxt .. => true
  | _ => false
theorem Ex.head {st ss} (h : Es C fm ρ σ st out) (hn : out.isNxt = false := by rfl) : Ex C fm ρ σ (st :: ss) out := ⟨fun F s X =>
  wpAny_execs_cons (wpAny_mono (h.h F s X) (fun f s₁ q => by
    obtain ⟨F₁, g₁, r⟩ := q
    cases out with
    | nxt => cases hn
    | brk => obtain ⟨rfl, X₁⟩ := r; exact ⟨F₁, g₁, rfl, X₁⟩
    | cnt => obtain ⟨rfl, X₁⟩ := r; exact ⟨F₁, g₁, rfl, X₁⟩
    | ret => obtain ⟨v, rfl, r, X₁⟩ := r; exact ⟨F₁, g₁, v, rfl, r, X₁⟩
    | rse => exact r.elim) fun _ _ q => q)⟩
theorem Ex.one {st} (h : Es C fm ρ σ st out) : Ex C fm ρ σ [st] out := by
  cases out with
  | nxt ρ' σ' => exact Ex.cons h Ex.nil
  | brk => exact Ex.head h
  | cnt => exact Ex.head h
  | ret => exact Ex.head h
  | rse => exact Ex.head h
theorem Es.brk {pos} : Es C fm ρ σ (.Break pos) (.brk ρ σ) := ⟨fun F s X => wpAny_Break ⟨F, Gr.refl X.ok, rfl, X⟩⟩
/- names may be forgotten -/
theorem St.sub (X : St C fm ρ σ F s) (h : ∀ x a, ρ'.lookup x = some a → ρ.lookup x = some a) : St C fm ρ' σ F s :=
  { X with loc := let ⟨m, e, r⟩ := X.loc; ⟨m, e, fun x a q => r x a (h x a q)⟩, cel := fun x a q => X.cel x a (h x a q) }
theorem St.sig (X : St C fm ρ σ F s) (h : σ'.Sublist σ) : St C fm ρ σ' F s :=
  { X with mu := fun p hp => X.mu p (h.subset hp), mud := List.Sublist.nodup (h.map _) X.mud }
noncomputable def Sub (ρ' ρ : Rho) : Prop := ∀ x a, ρ'.lookup x = some a → ρ.lookup x = some a
theorem Sub.nil : Sub [] ρ := fun _ _ e => nomatch e
theorem Sub.cons {x : Str} {a : AV} (h : ρ.lookup x = some a) (hs : Sub ρ' ρ) : Sub ((x, a) :: ρ') ρ := fun y b e => by
  rw [List.lookup_cons] at e
  by_cases hxy : y = x
  · subst hxy; simp at e; rw [← e]; exact h
  · rw [beq_eq_false_iff_ne.mpr hxy] at e; exact hs y b e
theorem Sub.refl : Sub ρ ρ := fun _ _ e => e
theorem Ev.sub {e a} (h : Ev C fm ρ' σ e a) (hs : Sub ρ' ρ) : Ev C fm ρ σ e a := ⟨fun F s X => h.h F s (X.sub hs)⟩
theorem Ex.sub {ss} (h : Ex C fm ρ' σ ss out) (hs : Sub ρ' ρ) : Ex C fm ρ σ ss out := ⟨fun F s X => h.h F s (X.sub hs)⟩
theorem Ex.fgt {ss} {ρ'' : Rho} (h : Ex C fm ρ σ ss (.nxt ρ' σ')) (hs : Sub ρ'' ρ') : Ex C fm ρ σ ss (.nxt ρ'' σ') := ⟨fun F s X =>
  wpAny_mono (h.h F s X) (fun f s₁ ⟨F₁, g₁, e, X₁⟩ => ⟨F₁, g₁, e, X₁.sub hs⟩) fun _ _ ⟨_, q, _⟩ => nomatch q⟩
theorem Kf.notloc (X : St C fm ρ σ F s) : ¬ Kf fm fm.env.locals := fun h => X.locB h.1
/- a local name is stored -/
theorem St.storeK {x : Str} {v : Value} {a : AV} {Q : Unit → Shared → Prop} {E : Value → Shared → Prop} (X : St C fm ρ σ F s) (hk : fm.env.kindOf x = some .local) (r : Rep F a v)
    (h : ∀ s', Gr C (Kf fm) F s F s' → St C fm ((x, a) :: ρ) σ F s' → (∀ b, b ≠ fm.env.locals → (∀ y c, fm.env.cells.lookup y = some c → b ≠ c) → b ∉ C.T → Keeps1 s.heap s'.heap b) → Q () s') : wpAny C.M fm.A (storeName fm.env x v) Q E s := by
  obtain ⟨m, hns, hm⟩ := X.loc
  refine wpAny_storeName_local hk hns (fun h' hn hs => ?_) (by rw [X.kind]; rfl)
  have keep : ∀ b o, b ≠ fm.env.locals → s.heap.get? b = some o → h'.get? b = some o := fun b o hb e => (hs.2 b hb).trans e
  have ne : ∀ b o, F b = some o → b ≠ fm.env.locals := fun b o e q => by rw [q, X.locF] at e; cases e
  have g : Gr C (fun b => b ≠ fm.env.locals) F s F { s with heap := h', toks := s.toks + 1 } :=
    Gr.heap X.ok ne (fun b hb (q : b = fm.env.locals) => X.locT (q ▸ hb)) (fun b o hb e => keep b o hb e)
  refine h _ (Gr.weak (fun b hb (q : b = fm.env.locals) => Kf.notloc X (q ▸ hb)) g) { X with
    ok := g.ok
    loc := ⟨_, hn, fun y b e hk' => ?_⟩
    base := fun a ha => g.live (fun (q : a = fm.env.locals) => X.locB (q ▸ ha)) (X.base a ha)
    cel := fun y b e hk' => ?_
    cne := fun y c e => ⟨(X.cne y c e).1, (X.cne y c e).2.1, g.live (X.cne y c e).1 (X.cne y c e).2.2⟩
    own := fun hcl y hk' => let ⟨c, w, e1, ho, r1⟩ := X.own hcl y hk'; ⟨c, w, e1, (g.keep _ (X.cne y c e1).1 (X.cne y c e1).2.1).cell ho, r1⟩
    mu := fun p hp => let ⟨h1, h2, h3, h4, h5⟩ := X.mu p hp; ⟨h1.gr g h4 h3, h2, h3, h4, h5⟩
    fr := fun L hL => let ⟨h1, h2, h3⟩ := X.fr L hL; ⟨h1, h2, h3.gr g fun (q : L = fm.env.locals) => X.locB (q ▸ h1)⟩ } fun b h1 _ hT => g.keep b h1 hT
  · rw [List.lookup_cons] at e
    by_cases hxy : y = x
    · subst hxy; simp at e; subst e; exact ⟨v, by simp, r⟩
    · rw [beq_eq_false_iff_ne.mpr hxy] at e
      obtain ⟨w, e1, r1⟩ := hm y b e hk'
      exact ⟨w, by simp [hxy, e1], r1⟩
  · rw [List.lookup_cons] at e
    by_cases hxy : y = x
    · subst hxy; rw [hk] at hk'; rcases hk' with q | q <;> cases q
    · rw [beq_eq_false_iff_ne.mpr hxy] at e
      obtain ⟨c, w, e1, ho, r1⟩ := X.cel y b e hk'
      exact ⟨c, w, e1, (g.keep _ (X.cne y c e1).1 (X.cne y c e1).2.1).cell ho, r1⟩
/- a cell's name is stored -/
theorem St.storeCK {x : Str} {v : Value} {a : AV} {Q : Unit → Shared → Prop} {E : Value → Shared → Prop} (X : St C fm ρ σ F s) (hcl : fm.cl = true) (hk : fm.env.kindOf x = some .cell) (r : Rep F a v)
    (h : ∀ s', Gr C (Kf fm) F s F s' → St C fm ((x, a) :: ρ) σ F s' → (∀ b, b ≠ fm.env.locals → (∀ y c, fm.env.cells.lookup y = some c → b ≠ c) → b ∉ C.T → Keeps1 s.heap s'.heap b) → Q () s') : wpAny C.M fm.A (storeName fm.env x v) Q E s := by
  obtain ⟨c, v₀, hc, hv₀, hB, hF⟩ := X.own hcl x hk
  refine wpAny_storeName_cell X.kind hk hc hv₀ fun h' hv hs => ?_
  have ne : ∀ b o, F b = some o → b ≠ c := fun b o e q => by rw [q, hF] at e; cases e
  have g : Gr C (fun b => b ≠ c) F s F { s with heap := h' } :=
    Gr.heap X.ok ne (fun b hb (q : b = c) => (X.cne x c hc).2.1 (q ▸ hb)) (fun b o hb e => (hs.2 b hb).trans e)
  obtain ⟨m, hns, hm⟩ := X.loc
  refine h _ (Gr.weak (fun b hb (q : b = c) => hB (q ▸ hb.1)) g) { X with
    ok := g.ok
    loc := ⟨m, (g.keep _ (X.cne x c hc).1.symm X.locT).ns hns, fun y b e hk' => ?_⟩
    base := fun a ha => g.live (fun (q : a = c) => hB (q ▸ ha)) (X.base a ha)
    cel := fun y b e hk' => ?_
    cne := fun y c' e => ⟨(X.cne y c' e).1, (X.cne y c' e).2.1, by
      by_cases hcc : c' = c
      · subst hcc; exact cellLive hv
      · exact g.live hcc (X.cne y c' e).2.2⟩
    own := fun hcl y hk' => ?_
    mu := fun p hp => let ⟨h1, h2, h3, h4, h5, h6⟩ := X.mu p hp; ⟨h1.gr g (h5 x c hc) h3, h2, h3, h4, h5, h6⟩
    fr := fun L hL => let ⟨h1, h2, h3⟩ := X.fr L hL; ⟨h1, h2, h3.gr g fun (q : L = c) => hB (q ▸ h1)⟩ } fun b _ h2 hT => g.keep b (h2 x c hc) hT
  · rw [List.lookup_cons] at e
    by_cases hxy : y = x
    · subst hxy; rw [hk] at hk'; cases hk'
    · rw [beq_eq_false_iff_ne.mpr hxy] at e
      exact hm y b e hk'
  · rw [List.lookup_cons] at e
    by_cases hxy : y = x
    · subst hxy; simp at e; subst e; exact ⟨c, v, hc, hv, r⟩
    · rw [beq_eq_false_iff_ne.mpr hxy] at e
      obtain ⟨c', w, e1, ho, r1⟩ := X.cel y b e hk'
      exact ⟨c', w, e1, (g.keep _ (fun q => hxy (X.apart y x c (q ▸ e1) hc)) (X.cne y c' e1).2.1).cell ho, r1⟩
  · by_cases hxy : y = x
    · subst hxy; exact ⟨c, _, hc, hv, hB, hF⟩
    · obtain ⟨c', w, e1, ho, r1⟩ := X.own hcl y hk'
      exact ⟨c', w, e1, (g.keep _ (fun q => hxy (X.apart y x c (q ▸ e1) hc)) (X.cne y c' e1).2.1).cell ho, r1⟩
/- what a store to a name needs -/
noncomputable def Sto (fm : Fm) (x : Str) : Prop := fm.env.kindOf x = some .local ∨ (fm.cl = true ∧ fm.env.kindOf x = some .cell)
theorem St.store {x : Str} {v : Value} {a : AV} {Q : Unit → Shared → Prop} {E : Value → Shared → Prop} (X : St C fm ρ σ F s) (hk : fm.env.kindOf x = some .local) (r : Rep F a v)
    (h : ∀ s', Gr C (Kf fm) F s F s' → St C fm ((x, a) :: ρ) σ F s' → Q () s') : wpAny C.M fm.A (storeName fm.env x v) Q E s := X.storeK hk r fun s' g X' _ => h s' g X'
theorem St.storK {x : Str} {v : Value} {a : AV} {Q : Unit → Shared → Prop} {E : Value → Shared → Prop} (X : St C fm ρ σ F s) (hk : Sto fm x) (r : Rep F a v)
    (h : ∀ s', Gr C (Kf fm) F s F s' → St C fm ((x, a) :: ρ) σ F s' → (∀ b, b ≠ fm.env.locals → (∀ y c, fm.env.cells.lookup y = some c → b ≠ c) → b ∉ C.T → Keeps1 s.heap s'.heap b) → Q () s') : wpAny C.M fm.A (storeName fm.env x v) Q E s :=
  hk.elim (fun hk => X.storeK hk r h) fun hk => X.storeCK hk.1 hk.2 r h
theorem St.stor {x : Str} {v : Value} {a : AV} {Q : Unit → Shared → Prop} {E : Value → Shared → Prop} (X : St C fm ρ σ F s) (hk : Sto fm x) (r : Rep F a v)
    (h : ∀ s', Gr C (Kf fm) F s F s' → St C fm ((x, a) :: ρ) σ F s' → Q () s') : wpAny C.M fm.A (storeName fm.env x v) Q E s :=
  X.storK hk r fun s' g X' _ => h s' g X'
theorem Es.asg {x : Str} {px : Pos} {e : Expr} {pos : Pos} {a : AV} (he : Ev C fm ρ σ e a) (hk : Sto fm x)
    (hs : swapsWith e (some (.Name x px)) pos.line fm.env = pure false := by rfl) : Es C fm ρ σ (.Assign [.Name x px] e pos) (.nxt ((x, a) :: ρ) σ) := ⟨fun F s X =>
  wpAny_Assign_Name (wpAny_mono (he.h F s X) (fun v s₁ ⟨F₁, g₁, r₁⟩ => (X.grow g₁).stor hk r₁ fun s₂ g₂ X₂ => ⟨F₁, (g₁.any).trans g₂, rfl, X₂⟩) fun _ _ q => q.elim) hs⟩
theorem Es.aug {x : Str} {px : Pos} {op : Operator} {e : Expr} {pos : Pos} {a b c : Int} (hr : ρ.lookup x = some (.int a)) (hk : fm.env.kindOf x = some .local) (he : Ev C fm ρ σ e (.int b)) (ho : InI op a b c) :
    Es C fm ρ σ (.AugAssign (.Name x px) op e pos) (.nxt ((x, .int c) :: ρ) σ) := ⟨fun F s X => by
  obtain ⟨m, hns, hm⟩ := X.loc
  obtain ⟨v, e1, r⟩ := hm x _ hr hk
  obtain ⟨t, rfl⟩ := r.oint
  refine wpAny_AugAssign_Name (wpAny_loadName_local X.kind hk hns e1 (wpAny_mono (he.h F s X) (fun u s₂ ⟨F₂, g₂, r₂⟩ => ?_) fun _ _ q => q.elim))
  obtain ⟨t', rfl⟩ := r₂.oint
  have g₃ := Grow.tok1 g₂.ok
  exact ho.h _ _ _ _ _ _ _ _ (((X.grow g₂).grow g₃).store hk rInt fun s₄ g₄ X₄ => ⟨F₂, (g₂.trans g₃).any.trans g₄, rfl, X₄⟩)⟩
theorem Es.ite {t : Expr} {xs ys : List Stmt} {pos : Pos} {b : Bool} (ht : Tr C fm ρ σ t b) (hx : b = true → Ex C fm ρ σ xs out) (hy : b = false → Ex C fm ρ σ ys out) : Es C fm ρ σ (.If t xs ys pos) out := ⟨fun F s X =>
  wpAny_If (wpAny_mono (ht.h F s X) (fun v s₁ ⟨e, F₁, g₁⟩ => by
    subst e
    have X₁ := X.grow g₁
    cases v with
    | true => exact wpAny_mono ((hx rfl).h F₁ s₁ X₁) (fun _ _ q => q.pre g₁.any) fun _ _ q => q.pre g₁.any
    | false => exact wpAny_mono ((hy rfl).h F₁ s₁ X₁) (fun _ _ q => q.pre g₁.any) fun _ _ q => q.pre g₁.any) fun _ _ q => q.elim)⟩
theorem Es.ret {e : Expr} {pos : Pos} {a : AV} (he : Ev C fm ρ σ e a) : Es C fm ρ σ (.Return (some e) pos) (.ret a σ) := ⟨fun F s X =>
  wpAny_Return_some (wpAny_mono (he.h F s X) (fun v s₁ ⟨F₁, g₁, r₁⟩ => ⟨F₁, g₁.any, v, rfl, r₁, (X.grow g₁).retOk⟩) fun _ _ q => q.elim)⟩
theorem Es.ret0 {pos : Pos} : Es C fm ρ σ (.Return none pos) (.ret .none σ) := ⟨fun F s X =>
  wpAny_Return_none ⟨F, Gr.refl X.ok, _, rfl, rVal, X.retOk⟩⟩
/- a while's run from where it stands -/
structure Wh (C : Cx) (fm : Fm) (ρ : Rho) (σ : Sig) (t : Expr) (xs ys : List Stmt) (out : Out) : Prop where
  of ::
  h :
  ∀ F s, St C fm ρ σ F s → codeAny C.M fm.A (.whileLoop t xs ys fm.env) (fun r s' => match r with
    | .ok f => OutQ C fm F s out f s'
    | .error e => False) s
theorem Es.while {t xs ys pos} (h : Wh C fm ρ σ t xs ys out) : Es C fm ρ σ (.While t xs ys pos) out := ⟨fun F s X =>
  wpAny_While (codeAny_mono (h.h F s X) fun r s' q => by
    cases r with
    | ok f => exact q
    | error e => exact q.elim)⟩
/- no exception comes -/
noncomputable def Out.calm : Out → Bool
  | .rse _ => false
  | _ => true
theorem Out.calm.no {e : Value} {t : Shared} (h : out.calm = true) (q : OutE C fm F s out e t) : False := by
  obtain ⟨P, rfl, _⟩ := q; cases h
theorem whUnder {t xs ys} {env : Env} {A : Around} : A.under (.whileLoop t xs ys env) = A := rfl
theorem Wh.turn {t xs ys} {b : Bool} {o : Out} (ht : Tr C fm ρ σ t b) (hc : out.calm = true := by rfl)
    (hx : b = true → (∃ ρ₁ σ₁, (Ex C fm ρ σ xs (.nxt ρ₁ σ₁) ∨ Ex C fm ρ σ xs (.cnt ρ₁ σ₁)) ∧ Wh C fm ρ₁ σ₁ t xs ys out) ∨ (∃ a σ₁, out = .ret a σ₁ ∧ Ex C fm ρ σ xs out) ∨ (∃ ρ₁ σ₁, out = .nxt ρ₁ σ₁ ∧ Ex C fm ρ σ xs (.brk ρ₁ σ₁)))
    (hy : b = false → Ex C fm ρ σ ys out) : Wh C fm ρ σ t xs ys out := ⟨fun F s X => by
  refine codeAny_of_tree ?_
  show wpAny _ fm.A ((whileTurn t xs ys fm.env).onRaise (fun x => do noteFrame x fm.env; theTreesLotGoes x)) _ _ s
  refine wpAny_noted ?_
  simp only [whileTurn]
  refine wpAny_bind (wpAny_mono (ht.h F s X) (fun v s₁ ⟨e, F₁, g₁⟩ => ?_) fun _ _ q => q.elim)
  subst e
  have X₁ := X.grow g₁
  cases v with
  | false =>
    refine wpAny_bind (wpAny_mono ((hy rfl).h F₁ s₁ X₁) (fun f s₂ q => wpAny_pure (q.pre g₁.any)) fun _ _ q => (Out.calm.no hc q).elim)
  | true =>
    rcases hx rfl with ⟨ρ₁, σ₁, h1, h2⟩ | ⟨a, σ₁, ho, h1⟩ | ⟨ρ₁, σ₁, ho, h1⟩
    · have : wpAny C.M fm.A (execs xs fm.env) (fun f s₂ => (f = .next ∨ f = .cont) ∧ ∃ F₂, Gr C (Kf fm) F₁ s₁ F₂ s₂ ∧ St C fm ρ₁ σ₁ F₂ s₂) (fun _ _ => False) s₁ := by
        rcases h1 with h1 | h1
        · exact wpAny_mono (h1.h F₁ s₁ X₁) (fun f s₂ ⟨F₂, g₂, e, X₂⟩ => ⟨.inl e, F₂, g₂, X₂⟩) fun _ _ q => Out.calm.no rfl q
        · exact wpAny_mono (h1.h F₁ s₁ X₁) (fun f s₂ ⟨F₂, g₂, e, X₂⟩ => ⟨.inr e, F₂, g₂, X₂⟩) fun _ _ q => Out.calm.no rfl q
      refine wpAny_bind (wpAny_mono this (fun f s₂ ⟨hf, F₂, g₂, X₂⟩ => ?_) fun _ _ q => q.elim)
      have hw := codeAny_mono (h2.h F₂ s₂ X₂) (R' := fun r s' => match r with | .ok f => OutQ C fm F s out f s' | .error e => False) fun r s' q => by
        cases r with
        | ok f => exact OutQ.pre (g₁.any.trans g₂) q
        | error e => exact q
      rcases hf with rfl | rfl
      · exact wpAny_pure ⟨rfl, hw⟩
      · exact wpAny_pure ⟨rfl, hw⟩
    · subst ho
      refine wpAny_bind (wpAny_mono (h1.h F₁ s₁ X₁) (fun f s₂ ⟨F₂, g₂, v, e, r⟩ => ?_) fun _ _ q => (Out.calm.no rfl q).elim)
      subst e
      exact wpAny_pure ⟨F₂, g₁.any.trans g₂, v, rfl, r⟩
    · subst ho
      refine wpAny_bind (wpAny_mono (h1.h F₁ s₁ X₁) (fun f s₂ ⟨F₂, g₂, e, r⟩ => ?_) fun _ _ q => (Out.calm.no rfl q).elim)
      subst e
      exact wpAny_pure ⟨F₂, g₁.any.trans g₂, rfl, r⟩⟩
theorem Wh.stop {t xs ys} (ht : Tr C fm ρ σ t false) (hy : Ex C fm ρ σ ys out) (hc : out.calm = true := by rfl) : Wh C fm ρ σ t xs ys out :=
  Wh.turn (o := out) ht hc (fun h => nomatch h) fun _ => hy
theorem Wh.step {t xs ys} (ht : Tr C fm ρ σ t true) (hx : Ex C fm ρ σ xs (.nxt ρ' σ')) (hw : Wh C fm ρ' σ' t xs ys out) (hc : out.calm = true := by rfl) : Wh C fm ρ σ t xs ys out :=
  Wh.turn (o := out) ht hc (fun _ => .inl ⟨ρ', σ', .inl hx, hw⟩) fun h => nomatch h
end
structure Room (A : Around) (d : Nat) : Prop where
  hd : A.handled = none
  dep : A.depth + d ≤ 990
  un : A.units + 10 * d ≤ 9800
theorem Room.le {A : Around} {d d' : Nat} (x : Room A d) (h : d' ≤ d) : Room A d' := ⟨x.hd, by have := x.dep; omega, by have := x.un; omega⟩
theorem Room.deeper {A : Around} {d : Nat} {env : Env} (x : Room A (d + 1)) : Room (A.deeper env) d :=
  ⟨x.hd, by have := x.dep; show A.depth + 1 + d ≤ 990; omega, by have := x.un; show A.units + 3 + 10 * d ≤ 9800; omega⟩
/- names and values, side by side -/
noncomputable def Binds (F : Ghost) : Rho → List (Str × Value) → Prop
  | [], bs => bs = []
  | (x, a) :: ρ, bs => ∃ v r, bs = (x, v) :: r ∧ Rep F a v ∧ Binds F ρ r
theorem Binds.nil {F : Ghost} : Binds F [] [] := rfl
theorem Binds.cons {F : Ghost} {x a ρ v r} (h : Rep F a v) (hr : Binds F ρ r) : Binds F ((x, a) :: ρ) ((x, v) :: r) := ⟨v, r, rfl, h, hr⟩
theorem Binds.names {F : Ghost} : ∀ {ρ : Rho} {bs}, Binds F ρ bs → bs.map (·.1) = ρ.map (·.1)
  | [], _, h => by cases h; rfl
  | (_, _) :: _, _, ⟨_, _, e, _, hr⟩ => by rw [e, List.map_cons, List.map_cons, hr.names]
theorem Binds.find {F : Ghost} {x : Str} {a : AV} : ∀ {ρ : Rho} {bs}, Binds F ρ bs → ρ.lookup x = some a → ∃ v, bs.lookup x = some v ∧ Rep F a v
  | (y, b) :: ρ, _, ⟨v, r, e, hv, hr⟩, h => by
    subst e
    rw [List.lookup_cons] at h ⊢
    by_cases hxy : x = y
    · subst hxy; simp at h ⊢; subst h; exact hv
    · rw [beq_eq_false_iff_ne.mpr hxy] at h ⊢; exact hr.find h
theorem Binds.mono {F F' : Ghost} (hF : GLe F F') : ∀ {ρ : Rho} {bs}, Binds F ρ bs → Binds F' ρ bs
  | [], _, h => h
  | (_, a) :: _, _, ⟨v, r, e, hv, hr⟩ => ⟨v, r, e, Rep.mono hF a v hv, hr.mono hF⟩
theorem bindL_stay {k : Str → Option NameKind} {x : Str} : ∀ {bs : List (Str × Value)} {m : Str → Option Value}, x ∉ bs.map (·.1) → bindL k bs m x = m x
  | [], _, _ => rfl
  | (y, w) :: r, m, h => by
    have hy : x ≠ y := fun q => h (by simp [q])
    rw [bindL, bindL_stay fun q => h (by simp [q])]
    split <;> simp [hy]
theorem bindL_find {k : Str → Option NameKind} {x : Str} {v : Value} (hk : k x = some .local) : ∀ {bs : List (Str × Value)} {m : Str → Option Value}, (bs.map (·.1)).Nodup → bs.lookup x = some v → bindL k bs m x = some v
  | (y, w) :: r, m, hn, h => by
    rw [List.map_cons, List.nodup_cons] at hn
    rw [List.lookup_cons] at h
    by_cases hxy : x = y
    · subst hxy; simp at h; subst h
      rw [bindL, bindL_stay hn.1, if_pos hk]; simp
    · rw [beq_eq_false_iff_ne.mpr hxy] at h
      rw [bindL]; exact bindL_find hk hn.2 h
theorem bindC_stay {k : Str → Option NameKind} {x : Str} : ∀ {bs : List (Str × Value)} {m : Str → Option Value}, x ∉ bs.map (·.1) → bindC k bs m x = m x
  | [], _, _ => rfl
  | (y, w) :: r, m, h => by
    have hy : x ≠ y := fun q => h (by simp [q])
    rw [bindC, bindC_stay fun q => h (by simp [q])]
    split <;> simp [hy]
theorem bindC_find {k : Str → Option NameKind} {x : Str} {v : Value} (hk : ¬ k x = some .local) : ∀ {bs : List (Str × Value)} {m : Str → Option Value}, (bs.map (·.1)).Nodup → bs.lookup x = some v → bindC k bs m x = some v
  | (y, w) :: r, m, hn, h => by
    rw [List.map_cons, List.nodup_cons] at hn
    rw [List.lookup_cons] at h
    by_cases hxy : x = y
    · subst hxy; simp at h; subst h
      rw [bindC, bindC_stay hn.1, if_neg hk]; simp
    · rw [beq_eq_false_iff_ne.mpr hxy] at h
      rw [bindC]; exact bindC_find hk hn.2 h
theorem cellsFrom_some {x : Str} : ∀ {names : List (Str × NameKind)} {n : Nat} {acc : List (Str × Addr)}, (names.lookup x = some .cell ∨ (acc.lookup x).isSome = true) → ((cellsFrom n names acc).lookup x).isSome = true
  | [], _, _, h => h.elim (fun q => nomatch q) id
  | (y, k) :: r, n, acc, h => by
    unfold cellsFrom
    split
    · rename_i hk
      refine cellsFrom_some ?_
      by_cases hxy : x = y
      · subst hxy; right; simp [List.lookup_cons]
      · rw [List.lookup_cons, beq_eq_false_iff_ne.mpr hxy] at h
        rcases h with h | h
        · exact .inl h
        · right; rw [List.lookup_cons, beq_eq_false_iff_ne.mpr hxy]; exact h
    · rename_i hk
      refine cellsFrom_some ?_
      by_cases hxy : x = y
      · subst hxy
        rcases h with h | h
        · simp [List.lookup_cons] at h; subst h; simp at hk
        · exact .inr h
      · rw [List.lookup_cons, beq_eq_false_iff_ne.mpr hxy] at h; exact h
/- the frame of a call -/
noncomputable abbrev fenv (sc : Scope) (L a : Addr) (q : Str) (cd : Value) : Env :=
  { scope := sc, locals := L, globals := mainGlobals, cells := cellsFrom (L + 1) sc.names [], qual := q, func := some a, code := cd, frame := some L, builtins := builtinsNs }
noncomputable abbrev ffm (A : Around) (sc : Scope) (L a : Addr) (q : Str) (cd : Value) (E : Addr → Prop) (I : Ghost → Prop := fun _ => True) (fs : List Addr := []) : Fm := ⟨A.deeper (fenv sc L a q cd), fenv sc L a q cd, E, [], true, I, fs⟩
/- a fact of the ghost that stays -/
noncomputable def Mono (I : Ghost → Prop) : Prop := ∀ F F', GLe F F' → I F → I F'
theorem Mono.triv : Mono fun _ => True := fun _ _ _ _ => trivial
/- a def of the text's top -/
structure Def (C : Cx) (a : Addr) (fd : FuncData) (body : List Stmt) (sc : Scope) : Prop where
  at' : ∃ o, C.H.get? a = some o ∧ o.data = .func fd
  code : C.H.CodeRec fd.code fd.qualname
  body' : fd.body = .stmts body
  scope : fd.scope = sc
  glb : fd.globals = mainGlobals
  blt : fd.builtins = builtinsNs
  clo : fd.closure = []
theorem hsub {C : Cx} {F : Ghost} {s : Shared} (x : Ok C F s) : ∀ b o, C.H.get? b = some o → s.heap.get? b = some o := fun b o e => x.sub _ _ (x.base _ _ e)
theorem call_in {C : Cx} {F : Ghost} {s : Shared} {A : Around} {a : Addr} {fd : FuncData} {body : List Stmt} {sc : Scope} {args : Args} {bs : List (Str × Value)} {ρ : Rho} {R : Result → Shared → Prop} {I : Ghost → Prop} {fs : List Addr} (hfs : ∀ L ∈ fs, FrOk C F s L)
    (D : Def C a fd body sc) (hI : I F) (hM : Mono I) (ok : Ok C F s) (dep : A.depth < 1000) (hb : BindsTo s fd args bs) (hr : Binds F ρ bs) (hn : (ρ.map (·.1)).Nodup)
    (hk : ∀ x ∈ ρ.map (·.1), sc.names.lookup x = some .local ∨ sc.names.lookup x = some .cell)
    (hkf : sc.kind = .function) (hco : sc.isCoroutine = false) (hgen : sc.isGenerator = false)
    (h : ∀ L q E s₁, q = fd.qualname ++ ".<locals>." → (∀ b, E b ↔ ∃ o, s.heap.get? b = some o) → St C (ffm A sc L a q fd.code E I fs) ρ [] F s₁ → Grow C F s F s₁ →
      wpAny C.M (A.deeper (fenv sc L a q fd.code)) (execs body (fenv sc L a q fd.code)) (fun f s' => R (.ok (.ret (match f with | .ret v => v | _ => .none))) s')
        (fun e s' => wpAny C.M (A.deeper (fenv sc L a q fd.code)) (leaving (fenv sc L a q fd.code) e) (fun _ s'' => R (.error e) s'') (fun e' s'' => R (.error e') s'') s') s₁) :
    codeAny C.M A (.call (.ref a) args) R s := by
  obtain ⟨o, ho, hd⟩ := D.at'
  have hs := D.scope
  subst hs
  have hnb : (bs.map (·.1)).Nodup := by rw [hr.names]; exact hn
  have hkb : ∀ x ∈ bs, fd.scope.names.lookup x.1 = some .local ∨ fd.scope.names.lookup x.1 = some .cell := fun x hx => hk x.1 (by rw [← hr.names]; exact List.mem_map_of_mem hx)
  refine codeAny_call_function (by show A.depth < 1000; exact dep) (hsub ok _ _ ho) hd hco hgen D.body' (D.code.keeps (hsub ok)) (hb _ _ _ _ ?_)
  rw [D.clo, D.glb, D.blt]
  refine wpAny_newFunctionEnv_cells hkf (fun x hx => (hkb x hx).imp id fun q => ⟨q, cellsFrom_some (.inl q)⟩) fun env he s' x => ?_
  have he' : env = fenv fd.scope s.heap.objs.size a (fd.qualname ++ ".<locals>.") fd.code := he
  subst he'
  obtain ⟨h₁, tk, hs', hkeep⟩ := x.done
  subst hs'
  have g : Grow C F s F { s with heap := h₁, toks := tk } := Grow.heap ok hkeep
  have dead : ∀ b, s.heap.objs.size ≤ b → s.heap.get? b = none := fun b hb => Heap.get?_none_of_le hb
  refine ⟨C.lim.keeps (hsub g.ok), codeAny_func (h s.heap.objs.size _ (fun b => ∃ o, s.heap.get? b = some o) _ rfl (fun _ => Iff.rfl) ?_ g)⟩
  refine { ok := g.ok, kind := hkf, glb := rfl, blt := rfl, loc := ⟨_, x.toInCall.ns, fun y b e hk' => ?_⟩, locF := ok.none_of_dead (dead_top _), locT := ok.notT (dead_top _), locB := fun ⟨o, e⟩ => (by have e' : s.heap.get? s.heap.objs.size = some o := e; rw [dead_top] at e'; cases e'), base := fun a ⟨o, e⟩ => ⟨o, hkeep a o e⟩, cel := fun y b e hk' => ?_, own := fun _ y hk' => ?_, apart := fun y z c e1 e2 => name_of_addr x.apart (mem_of_lookup e1) (mem_of_lookup e2), cne := fun y c e => ?_, mu := fun p hp => (nomatch hp), mud := List.nodup_nil, inv := hI, imo := hM, fr := fun L hL => ⟨let ⟨_, _, o, ho, _⟩ := hfs L hL; ⟨o, ho⟩, fun q => (nomatch q), (hfs L hL).gr g trivial⟩ }
  · obtain ⟨v, e1, r⟩ := hr.find e
    exact ⟨v, bindL_find hk' hnb e1, r⟩
  · obtain ⟨v, e1, r⟩ := hr.find e
    have hm : y ∈ ρ.map (·.1) := by
      have := mem_of_lookup e
      exact List.mem_map_of_mem (f := (·.1)) this
    have hc : fd.scope.names.lookup y = some .cell := (hk y hm).elim (fun q => by rcases hk' with hk' | hk' <;> (have hk'' : fd.scope.names.lookup y = _ := hk'; rw [q] at hk''; cases hk'')) id
    obtain ⟨c, e2⟩ := Option.isSome_iff_exists.mp (cellsFrom_some (n := s.heap.objs.size + 1) (acc := []) (.inl hc))
    refine ⟨c, v, e2, ?_, r⟩
    have := x.cell y c e2
    rwa [bindC_find (fun q => by have q' : fd.scope.names.lookup y = some .local := q; rw [hc] at q'; cases q') hnb e1] at this
  · obtain ⟨c, e2⟩ := Option.isSome_iff_exists.mp (cellsFrom_some (n := s.heap.objs.size + 1) (acc := []) (.inl hk'))
    have hab := x.above y c (mem_of_lookup e2)
    exact ⟨c, _, e2, x.cell y c e2, fun ⟨o, e⟩ => (by rw [dead c (Nat.le_of_lt hab)] at e; cases e), ok.none_of_dead (dead c (Nat.le_of_lt hab))⟩
  · have hab : s.heap.objs.size < c := x.above y c (mem_of_lookup e)
    exact ⟨Nat.ne_of_gt hab, ok.notT (dead c (Nat.le_of_lt hab)), cellLive (x.cell y c e)⟩
/- what a call gives: a value, nothing written -/
structure Fn (C : Cx) (d : Nat) (F : Ghost) (f : Value) (args : List AV) (kw : Rho) (res : AV) : Prop where
  of ::
  h :
  ∀ F₁ s A vals kvs, GLe F F₁ → Ok C F₁ s → Room A d → Reps F₁ args vals → Binds F₁ kw kvs →
    wpAny C.M A (call f vals kvs) (fun v s' => ∃ F', Grow C F₁ s F' s' ∧ Rep F' res v) (fun _ _ => False) s
noncomputable def Out.res : Out → Option AV
  | .ret a _ => some a
  | .nxt _ _ => some .none
  | _ => .none
/- a def's contract from its body -/
theorem Fn.body {C : Cx} {d : Nat} {a : Addr} {fd : FuncData} {body : List Stmt} {sc : Scope} {args : List AV} {kw ρ : Rho} {res : AV} {F : Ghost} {I : Ghost → Prop}
    (D : Def C a fd body sc) (hI : I F) (hM : Mono I)
    (hb : ∀ F s vals kvs, Ok C F s → Reps F args vals → Binds F kw kvs → ∃ bs, BindsTo s fd ⟨vals, kvs⟩ bs ∧ Binds F ρ bs)
    (hn : (ρ.map (·.1)).Nodup) (hk : ∀ x ∈ ρ.map (·.1), sc.names.lookup x = some .local ∨ sc.names.lookup x = some .cell)
    (hkf : sc.kind = .function) (hco : sc.isCoroutine = false) (hgen : sc.isGenerator = false)
    (hh : ∀ A L q E, q = fd.qualname ++ ".<locals>." → Room A (d + 1) → ∃ out, out.res = some res ∧ Ex C (ffm A sc L a q fd.code E I) ρ [] body out) : Fn C (d + 1) F (.ref a) args kw res := by
  refine ⟨fun F₁ s A vals kvs hF ok room hv hkv => ?_⟩
  obtain ⟨bs, hbs, hr⟩ := hb F₁ s vals kvs ok hv hkv
  refine wpAny_call (call_in (I := I) (fs := []) (fun L hL => (nomatch hL)) D (hM _ _ hF hI) hM ok (by have := room.dep; omega) hbs hr hn hk hkf hco hgen fun L q E s₁ hq hE X g => ?_)
  obtain ⟨out, ho, hx⟩ := hh A L q E hq room
  have fin : ∀ {s' F'}, Gr C (Kf (ffm A sc L a q fd.code E I)) F₁ s₁ F' s' → Grow C F₁ s F' s' := fun {s' F'} g' => by
    have hK : ∀ b, (∃ o, s.heap.get? b = some o) → Kf (ffm A sc L a q fd.code E I) b := fun b hb => ⟨(hE b).mpr hb, fun q => nomatch q⟩
    refine ⟨g'.ok, g'.le, fun b o e => (g'.new b o e).imp id fun q => .inl ?_, fun b hb hT o e => ((g.keep b hb hT).trans (g'.keep b (hK b ⟨o, e⟩) hT)) o e, g'.os.trans g.os⟩
    cases e' : s.heap.get? b with
    | none => rfl
    | some o' =>
      rcases q with q | q
      · obtain ⟨o2, e2⟩ := g.live (a := b) trivial ⟨o', e'⟩
        rw [q] at e2; cases e2
      · exact absurd (hK b ⟨o', e'⟩) q
  refine wpAny_mono (hx.h F₁ s₁ X) (fun f s' ⟨F', g', r⟩ => ?_) fun e s' q => ?_
  · cases out with
    | nxt => obtain ⟨rfl, _⟩ := r; cases ho; exact ⟨F', fin g', rVal⟩
    | ret b => obtain ⟨v, rfl, rv, _⟩ := r; cases ho; exact ⟨F', fin g', rv⟩
    | brk => cases ho
    | cnt => cases ho
    | rse => cases ho
  · obtain ⟨P, e, _⟩ := q; subst e; cases ho
/- who keeps a call's arguments is told -/
noncomputable def KpOk (F : Ghost) (f : Value) : Prop := (∃ id, f = .builtin id) ∨ (∃ T, f = .type T) ∨ ∃ a o fd, f = .ref a ∧ F a = some o ∧ o.data = .func fd
theorem KpOk.mono {F F' : Ghost} {f} (h : GLe F F') (x : KpOk F f) : KpOk F' f := x.imp id fun x => x.imp id fun ⟨a, o, fd, e, ho, hd⟩ => ⟨a, o, fd, e, h _ _ ho, hd⟩
/- keyword arguments -/
structure Evk (C : Cx) (fm : Fm) (ρ : Rho) (σ : Sig) (kws : List Keyword) (kρ : Rho) : Prop where
  of ::
  h :
  ∀ F s pos, St C fm ρ σ F s → wpAny C.M fm.A (evalAll ((backToKw pos (keywordEach kws fm.env)).map (·.2)))
    (fun ks s' => ∃ F', Grow C F s F' s' ∧ Binds F' kρ (((backToKw pos (keywordEach kws fm.env)).filterMap (·.1)).zip ks)) (fun _ _ => False) s
section
variable {C : Cx} {fm : Fm} {ρ ρ' : Rho} {σ σ' : Sig} {F F' : Ghost} {s s' : Shared} {out : Out}
theorem Evk.nil : Evk C fm ρ σ [] [] := ⟨fun F s pos X => evalAll_nil ⟨F, Grow.refl X.ok, Binds.nil⟩⟩
theorem Evk.cons {x : Str} {e : Expr} {p : Pos} {kws : List Keyword} {a : AV} {kρ : Rho} (h : Ev C fm ρ σ e a) (hr : Evk C fm ρ σ kws kρ) : Evk C fm ρ σ (⟨some x, e, p⟩ :: kws) ((x, a) :: kρ) := ⟨fun F s pos X =>
  kws_cons (wpAny_mono (h.h F s X) (fun v s₁ ⟨F₁, g₁, r₁⟩ => wpAny_mono (hr.h F₁ s₁ pos (X.grow g₁)) (fun vs s₂ ⟨F₂, g₂, r₂⟩ => ⟨F₂, g₁.trans g₂, Binds.cons (Rep.mono g₂.le _ _ r₁) r₂⟩) fun _ _ q => q) fun _ _ q => q)⟩
theorem callWith_any {A : Around} {pos : Pos} {f : Value} {args : List (Bool × Sem Value)} {kws : List (Option Str × Sem Value)} {Q : Value → Shared → Prop} {E : Value → Shared → Prop}
    (hp : args.any (·.1) = false) (hk : kws.any (·.1.isNone) = false)
    (h : wpAny C.M A (evalArgs f true args kws) (fun a s₁ => (∃ F, Ok C F s₁ ∧ KpOk F f) ∧ wpAny C.M A (call f a.pos a.kw) Q E s₁) E s) : wpAny C.M A (callWith pos f [] args kws) Q E s := by
  unfold callWith
  refine wpAny_bind (wpAny_holding (wpAny_mono h (fun a s₁ h₁ => wpAny_bind (wpAny_standAt ?_)) fun _ _ x => x))
  simp only [hp, hk, Bool.or_false, List.nil_append]
  obtain ⟨⟨F, ok, hkp⟩, h₁⟩ := h₁
  have tail : ∀ {t : Sem Value}, wpAny C.M A t Q E s₁ → wpAny C.M A (t >>= fun r => holding [r] point >>= fun _ => pure r) Q E s₁ :=
    fun ht => wpAny_bind (wpAny_mono ht (fun r s₂ hr => wpAny_bind (wpAny_holding (wpAny_point (wpAny_pure hr)))) fun _ _ x => x)
  rcases hkp with ⟨id, rfl⟩ | ⟨T, rfl⟩ | ⟨a', o, fd, rfl, ho, hd⟩
  · exact wpAny_bind (wpAny_pure (tail h₁))
  · exact wpAny_bind (wpAny_pure (tail h₁))
  · refine wpAny_bind (m := keeperOf (.ref a')) ?_
    unfold keeperOf
    refine wpAny_bind (wpAny_load (ok.sub _ _ ho) ?_)
    rw [hd]
    refine wpAny_pure ?_
    dsimp only
    split
    · exact tail h₁
    · exact tail (by unfold callMarked; exact Calls.wpAny_keep h₁)
/- plain arguments: none is starred -/
noncomputable def Plain (es : List Expr) (env : Env) : Prop := (starEach es env).any (·.1) = false
theorem backTo_any {es : List Expr} {env : Env} {pos : Pos} (h : Plain es env) : (backTo pos (starEach es env)).any (·.1) = false := by
  unfold backTo; rw [List.any_map]; exact h
theorem evalArgs_any {A : Around} {env : Env} {f : Value} {pos : Pos} {es : List Expr} {kws : List Keyword} {Q : Args → Shared → Prop} {E : Value → Shared → Prop} (hpl : Plain es env)
    (hall : (backToKw pos (keywordEach kws env)).all (·.1.isSome) = true)
    (h : wpAny C.M A (spliced (backTo pos (starEach es env))) (fun vs s₁ => wpAny C.M A (evalAll ((backToKw pos (keywordEach kws env)).map (·.2)))
      (fun ks s₂ => Q ⟨vs, ((backToKw pos (keywordEach kws env)).filterMap (·.1)).zip ks⟩ s₂) E s₁) E s) :
    wpAny C.M A (evalArgs f true (backTo pos (starEach es env)) (backToKw pos (keywordEach kws env))) Q E s := by
  have hb := backTo_any (pos := pos) hpl
  generalize backTo pos (starEach es env) = ts at h hb ⊢
  cases ts with
  | nil =>
    unfold evalArgs
    show wpAny C.M A (spliced [] >>= _) Q E s
    refine wpAny_bind (wpAny_mono h (fun vs s₁ h₁ => ?_) fun _ _ x => x)
    refine wpAny_bind (wpAny_pure ?_)
    refine wpAny_holding ?_
    simp only [hall, if_true]
    exact wpAny_bind (wpAny_mono h₁ (fun ks s₂ h₂ => wpAny_bind (wpAny_pure (wpAny_pure h₂))) fun _ _ x => x)
  | cons t r =>
    obtain ⟨b, t⟩ := t
    have hb0 : b = false := by cases b <;> simp_all
    subst hb0
    exact evalArgs_kw hall h
theorem kwAll {kws : List Keyword} {pos : Pos} {env : Env} (h : kws.all (fun k => k.arg.isSome) = true) : (backToKw pos (keywordEach kws env)).all (·.1.isSome) = true ∧ (backToKw pos (keywordEach kws env)).any (·.1.isNone) = false := by
  induction kws with
  | nil => exact ⟨rfl, rfl⟩
  | cons k r ih =>
    obtain ⟨n, v, p⟩ := k
    rw [List.all_cons, Bool.and_eq_true] at h
    obtain ⟨h1, h2⟩ := ih h.2
    have hn : n.isSome = true := h.1
    constructor
    · show (n.isSome && (backToKw pos (keywordEach r env)).all (·.1.isSome)) = true
      rw [hn, h1]; rfl
    · show (n.isNone || (backToKw pos (keywordEach r env)).any (·.1.isNone)) = false
      rw [h2]; cases n <;> simp_all
/- a call by a name -/
theorem Ev.call {x : Str} {px pos : Pos} {es : List Expr} {kws : List Keyword} {f : Value} {as : List AV} {kρ : Rho} {res : AV} {d : Nat} (room : Room fm.A d)
    (hf : Ev C fm ρ σ (.Name x px) (.val f)) (has : Evs C fm ρ σ es as) (hks : Evk C fm ρ σ kws kρ)
    (hfn : ∀ F s, St C fm ρ σ F s → KpOk F f ∧ Fn C d F f as kρ res) (hpl : Plain es fm.env := by rfl) (hkw : kws.all (fun k => k.arg.isSome) = true := by rfl) :
    Ev C fm ρ σ (.Call (.Name x px) es kws pos) res := ⟨fun F s X => by
  refine wpAny_Call_Name_kw (wpAny_mono (hf.h F s X) (fun v s₁ ⟨F₁, g₁, r₁⟩ => ?_) fun _ _ q => q)
  obtain rfl := r₁.oval
  have X₁ := X.grow g₁
  have hk := kwAll (pos := pos) (env := fm.env) hkw
  refine callWith_any (backTo_any hpl) hk.2 (evalArgs_any hpl hk.1 (wpAny_mono (has.h F₁ s₁ pos X₁) (fun vs s₂ ⟨F₂, g₂, r₂⟩ => ?_) fun _ _ q => q))
  have X₂ := X₁.grow g₂
  refine wpAny_mono (hks.h F₂ s₂ pos X₂) (fun ks s₃ ⟨F₃, g₃, r₃⟩ => ?_) fun _ _ q => q
  have X₃ := X₂.grow g₃
  obtain ⟨hkp, hfn⟩ := hfn F₃ s₃ X₃
  refine ⟨⟨F₃, X₃.ok, hkp⟩, wpAny_mono (hfn.h F₃ s₃ fm.A vs _ (GLe.refl _) X₃.ok room (Reps.mono g₃.le _ _ r₂) r₃) (fun r s₄ ⟨F₄, g₄, r₄⟩ => ?_) fun _ _ q => q⟩
  exact ⟨F₄, ((g₁.trans g₂).trans g₃).trans g₄, r₄⟩⟩
theorem IsSq.lst {a : Addr} {vs : List Value} (ok : Ok C F s) (h : IsSq F "list" a vs) : s.heap.IsList a vs.toArray := let ⟨o, n, e, hc, hd⟩ := h; ⟨o, ok.sub _ _ e, hc, n, hd⟩
theorem IsSq.tup {a : Addr} {vs : List Value} (ok : Ok C F s) (h : IsSq F "tuple" a vs) : IsTup s.heap a vs.toArray := let ⟨o, n, e, hc, hd⟩ := h; ⟨o, ok.sub _ _ e, hc, n, hd⟩
theorem Reps.get : ∀ {xs : List AV} {vs : List Value} {i : Nat} {x : AV}, Reps F xs vs → xs[i]? = some x → ∃ v, vs[i]? = some v ∧ Rep F x v
  | [], _, _, _, _, h => by simp at h
  | y :: ys, vs, i, x, r, h => by
    obtain ⟨v, r', rfl, hv, hr⟩ := r.ocons
    cases i with
    | zero => simp at h; subst h; exact ⟨v, rfl, hv⟩
    | succ i => simp at h; obtain ⟨w, e, hw⟩ := hr.get h; exact ⟨w, by simpa using e, hw⟩
/- an item of a list, of a tuple -/
theorem Ev.item {e i : Expr} {pos : Pos} {xs : List AV} {k : Int} {x : AV} (he : Ev C fm ρ σ e (.list xs)) (hi : Ev C fm ρ σ i (.int k)) (h0 : 0 ≤ k) (hx : xs[k.toNat]? = some x) (hz : k < 2 ^ 63)
    (hs : ∀ o i', subscripted i false o i' = operate [o, i'] (getItem o i') := by intro _ _; rfl) : Ev C fm ρ σ (.Subscript e i pos) x := ⟨fun F s X =>
  Subscript_ (wpAny_mono (he.h F s X) (fun v s₁ ⟨F₁, g₁, r₁⟩ => wpAny_mono (hi.h F₁ s₁ (X.grow g₁)) (fun u s₂ ⟨F₂, g₂, r₂⟩ => by
    obtain ⟨a, vs, rfl, hq, hr⟩ := (Rep.mono g₂.le _ _ r₁).olst
    obtain ⟨t, rfl⟩ := r₂.oint
    obtain ⟨w, e1, rw⟩ := hr.get hx
    have hl := hq.lst g₂.ok
    exact tail_any hl.typeIs slot_list_getitem.lookup (wpAny_getItem_list hl h0 hz (by simpa using e1) ⟨F₂, g₁.trans g₂, rw⟩) (hs _ _)) fun _ _ q => q) fun _ _ q => q)⟩
theorem Ev.itemT {e i : Expr} {pos : Pos} {xs : List AV} {k : Int} {j : Nat} {x : AV} (he : Ev C fm ρ σ e (.tup xs)) (hi : Ev C fm ρ σ i (.int k)) (hj : seqIndex? k xs.length = some j) (hx : xs[j]? = some x) (hlo : -(2 ^ 63) ≤ k) (hz : k < 2 ^ 63)
    (hs : ∀ o i', subscripted i false o i' = operate [o, i'] (getItem o i') := by intro _ _; rfl) : Ev C fm ρ σ (.Subscript e i pos) x := ⟨fun F s X =>
  Subscript_ (wpAny_mono (he.h F s X) (fun v s₁ ⟨F₁, g₁, r₁⟩ => wpAny_mono (hi.h F₁ s₁ (X.grow g₁)) (fun u s₂ ⟨F₂, g₂, r₂⟩ => by
    obtain ⟨a, vs, rfl, hq, hr⟩ := (Rep.mono g₂.le _ _ r₁).otup
    obtain ⟨t, rfl⟩ := r₂.oint
    obtain ⟨w, e1, rw⟩ := hr.get hx
    have hl := hq.tup g₂.ok
    exact tail_any hl.typeIs slot_tuple_getitem.lookup (getItem_tuple hl hlo hz (by rw [List.size_toArray, ← hr.length]; exact hj) (by simpa using e1) ⟨F₂, g₁.trans g₂, rw⟩) (hs _ _)) fun _ _ q => q) fun _ _ q => q)⟩
/- a built-in's contract from the library's rule -/
theorem Fn.bi {d : Nat} {f : Value} {as : List AV} {res : AV}
    (h : ∀ F s A vals Q E, Ok C F s → Room A d → Reps F as vals → (∀ v s' F', Grow C F s F' s' → Rep F' res v → Q v s') → wpAny C.M A (call f vals) Q E s) : Fn C d F f as [] res := by
  refine ⟨fun F₁ s A vals kvs hF ok room hv hk => ?_⟩
  cases hk
  exact h F₁ s A vals _ _ ok room hv fun v s' F' g r => ⟨F', g, r⟩
end
noncomputable def nth : List Stmt → Nat → Stmt
  | [], _ => .Pass ⟨0,0,0,0⟩
  | s :: _, 0 => s
  | _ :: r, n+1 => nth r n
noncomputable def fnName : Stmt → Str
  | .FunctionDef n .. => n
  | _ => default
noncomputable def fnArgs : Stmt → Arguments
  | .FunctionDef _ a .. => a
  | _ => default
noncomputable def fnBody : Stmt → List Stmt
  | .FunctionDef _ _ b .. => b
  | _ => []
noncomputable def fnScope : Stmt → Scope
  | .FunctionDef _ _ _ _ _ _ sc .. => sc
  | _ => default
noncomputable def top (n : Nat) : Stmt := nth PySem.Challenge.pw_rs0182_01.main.body n
noncomputable def sInsR := top 1
noncomputable def sBisR := top 2
noncomputable def sInsL := top 3
noncomputable def sBisL := top 4
noncomputable def sD2n := top 7
noncomputable def sI2d := top 9
noncomputable def sD2i := top 10
noncomputable def sDpos := top 11
noncomputable def sDivm := top 12
noncomputable def sFlags := top 15
noncomputable def sVarint := top 16
noncomputable def sCells := top 18
noncomputable def sOctets := top 19
noncomputable def sRead := top 20
noncomputable def sOrdered := top 21
noncomputable def sWords := top 22
noncomputable def sSketch := top 23
noncomputable def sFound := top 24
noncomputable def sRefused := top 25
noncomputable def sLaw := top 26
noncomputable def fdP (st : Stmt) (pm cd doc : Value) : FuncData := Calls.docDef (fnName st) (fnArgs st) (fnBody st) (fnScope st) pm cd doc
noncomputable def fdD (st : Stmt) (pm cd doc : Value) (d k : Addr) : FuncData := { fdP st pm cd doc with defaults := .ref d, kwdefaults := .ref k }
/- a plain def of the top, without defaults -/
structure DefP (C : Cx) (a : Addr) (st : Stmt) (fd : FuncData) : Prop where
  d : Def C a fd (fnBody st) (fnScope st)
  e : ∃ pm cd doc, fd = fdP st pm cd doc
/- one of the four with defaults -/
structure DefD (C : Cx) (a : Addr) (st : Stmt) (fd : FuncData) : Prop where
  d : Def C a fd (fnBody st) (fnScope st)
  e : ∃ pm cd doc d k, fd = fdD st pm cd doc d k ∧ (∃ o t n, C.H.get? d = some o ∧ o.data = .seq #[.int 0 t, .none] n) ∧ ∃ m, C.H.Ns k m ∧ m (Str.ofString "key") = some .none
/- a def of the top that makes functions of its own -/
structure DefT (C : Cx) (a : Addr) (st : Stmt) (fd : FuncData) (c P : Addr) (nm : Str) : Prop extends DefP C a st fd where
  code : fd.code = .ref c
  mem : (c, P) ∈ C.tabs
  tq : C.tq P = (fd.qualname ++ ".<locals>.") ++ nm
/- the names of the top and of the built-ins that the text reads -/
noncomputable def GL : List (Str × Value) := [
  (Str.ofString "insort_right", .ref 23), (Str.ofString "bisect_right", .ref 32), (Str.ofString "insort_left", .ref 41), (Str.ofString "bisect_left", .ref 50),
  (Str.ofString "_div2n1n", .ref 57), (Str.ofString "_int2digits", .ref 71), (Str.ofString "_digits2int", .ref 78), (Str.ofString "_divmod_pos", .ref 85), (Str.ofString "int_divmod", .ref 92),
  (Str.ofString "COMPILER_FLAG_NAMES", .ref 93), (Str.ofString "pretty_flags", .ref 100), (Str.ofString "_parse_varint", .ref 107), (Str.ofString "_law_cells", .ref 114), (Str.ofString "_law_octets", .ref 119),
  (Str.ofString "_law_read", .ref 126), (Str.ofString "_law_ordered", .ref 133), (Str.ofString "_law_words", .ref 138), (Str.ofString "_law_sketch", .ref 143), (Str.ofString "_law_found", .ref 148), (Str.ofString "_law_refused", .ref 155),
  (Str.ofString "len", .builtin "len"), (Str.ofString "divmod", .builtin "divmod"), (Str.ofString "hex", .builtin "hex"), (Str.ofString "next", .builtin "next"), (Str.ofString "iter", .builtin "iter"), (Str.ofString "min", .builtin "min"), (Str.ofString "max", .builtin "max"),
  (Str.ofString "sorted", .builtin "sorted"), (Str.ofString "sum", .builtin "sum"), (Str.ofString "enumerate", .type "enumerate"), (Str.ofString "range", .type "range"), (Str.ofString "zip", .type "zip"), (Str.ofString "reversed", .type "reversed"),
  (Str.ofString "bytes", .type "bytes"), (Str.ofString "list", .type "list"), (Str.ofString "str", .type "str"),
  (Str.ofString "StopIteration", .type "StopIteration"), (Str.ofString "ValueError", .type "ValueError"), (Str.ofString "ZeroDivisionError", .type "ZeroDivisionError")]
/- the table of flags -/
noncomputable def flagD : List (PyData × PyData) := [(.int 1, .str (Str.ofString "OPTIMIZED")), (.int 2, .str (Str.ofString "NEWLOCALS")), (.int 4, .str (Str.ofString "VARARGS")), (.int 8, .str (Str.ofString "VARKEYWORDS")), (.int 16, .str (Str.ofString "NESTED")),
  (.int 32, .str (Str.ofString "GENERATOR")), (.int 64, .str (Str.ofString "NOFREE")), (.int 128, .str (Str.ofString "COROUTINE")), (.int 256, .str (Str.ofString "ITERABLE_COROUTINE")), (.int 512, .str (Str.ofString "ASYNC_GENERATOR"))]
/- the top of the text as the run leaves it -/
structure PX (C : Cx) : Prop where
  gl : ∀ x v, GL.lookup x = some v → C.gl x v
  bisL : ∃ fd, DefD C 50 sBisL fd
  bisR : ∃ fd, DefD C 32 sBisR fd
  insL : ∃ fd, DefD C 41 sInsL fd
  insR : ∃ fd, DefD C 23 sInsR fd
  d2n : ∃ fd, DefP C 57 sD2n fd
  tab : IntTab C.prog C.w C.H 93 flagD
  lim : ∃ t, C.gl (Str.ofString "_DIV_LIMIT") (.int 4000 t)
  i2d : ∃ fd, DefT C 71 sI2d fd 70 66 (Str.ofString "inner")
  d2i : ∃ fd, DefT C 78 sD2i fd 77 73 (Str.ofString "inner")
  dpos : ∃ fd, DefP C 85 sDpos fd
  divm : ∃ fd, DefP C 92 sDivm fd
  flags : ∃ fd, DefP C 100 sFlags fd
  varint : ∃ fd, DefP C 107 sVarint fd
  cells : ∃ fd, DefP C 114 sCells fd
  octets : ∃ fd, DefP C 119 sOctets fd
  read : ∃ fd, DefP C 126 sRead fd
  ordered : ∃ fd, DefT C 133 sOrdered fd 132 128 (Str.ofString "<lambda>")
  words : ∃ fd, DefP C 138 sWords fd
  sketch : ∃ fd, DefP C 143 sSketch fd
  found : ∃ fd, DefP C 148 sFound fd
  refused : ∃ fd, DefP C 155 sRefused fd
theorem Def.kp {C : Cx} {a fd b sc} {F : Ghost} {s : Shared} (D : Def C a fd b sc) (ok : Ok C F s) : KpOk F (.ref a) := let ⟨o, ho, hd⟩ := D.at'; .inr (.inr ⟨a, o, fd, rfl, ok.base _ _ ho, hd⟩)
noncomputable abbrev kA : Str := Str.ofString "a"
noncomputable abbrev kX : Str := Str.ofString "x"
noncomputable abbrev kLo : Str := Str.ofString "lo"
noncomputable abbrev kHi : Str := Str.ofString "hi"
noncomputable abbrev kKey : Str := Str.ofString "key"
local macro_rules | `(tactic| walk_at "ev") => `(tactic| first
  | exact Ev.int | exact Ev.non | exact Ev.bool | exact Ev.str
  | exact Ev.loc (by rfl) (by rfl)
  | exact Ev.glo (by rfl) (PX.gl (by assumption) _ _ (by rfl))
  | exact Ev.cel (by rfl) (by rfl)
  | exact Ev.fre (by rfl) (by rfl)
  | exact Ev.bin (by walk_at "ev") (by walk_at "ev") (by walk_at "bini"))
local macro_rules | `(tactic| walk_at "bini") => `(tactic| first
  | exact BinI.add | exact BinI.sub | exact BinI.and | exact BinI.or | exact BinI.xor
  | exact BinI.div (by decide) (PyProof.noPylong_small (by decide)) | exact BinI.mod (by decide))
noncomputable def ifBody : Stmt → List Stmt
  | .If _ b _ _ => b
  | _ => []
noncomputable def ifElse : Stmt → List Stmt
  | .If _ _ b _ => b
  | _ => []
noncomputable def whTest : Stmt → Expr
  | .While t .. => t
  | _ => default
noncomputable def whBody : Stmt → List Stmt
  | .While _ b .. => b
  | _ => []
noncomputable def AV.isN : AV → Bool
  | .val v => v == .none
  | _ => false
section
variable {C : Cx} {fm : Fm} {ρ ρ' : Rho} {σ σ' : Sig} {F F' : Ghost} {s s' : Shared} {out : Out}
theorem Tr.isN {e : Expr} {k pos p2} {a : AV} (he : Ev C fm ρ σ e a) : Tr C fm ρ σ (.Compare e [.Is] [.Constant .none k p2] pos) a.isN := ⟨fun F s X =>
  wpAny_isTrue_Compare1 (wpAny_mono (he.h F s X) (fun v s₁ ⟨F₁, g₁, r₁⟩ => wpAny_Constant_none (is_none (wpAny_truthy_bool ⟨by
    cases a with
    | val w => rw [r₁.oval]; rfl
    | int i => obtain ⟨t, rfl⟩ := r₁.oint; rfl
    | str i => obtain ⟨t, rfl⟩ := r₁.ostr; rfl
    | byt i => obtain ⟨t, rfl⟩ := r₁.obyt; rfl
    | list i => obtain ⟨a, vs, rfl, _⟩ := r₁.olst; rfl
    | tup i => obtain ⟨a, vs, rfl, _⟩ := r₁.otup; rfl, F₁, g₁⟩))) fun _ _ q => q)⟩
theorem Tr.eq {e : Expr} {b c : Bool} (h : Tr C fm ρ σ e b) (q : b = c) : Tr C fm ρ σ e c := q ▸ h
theorem fnLen {d : Nat} {xs : List AV} (hn : xs.length ≤ 1000000) : Fn C d F (.builtin "len") [.list xs] [] (.int xs.length) := Fn.bi fun F s A vals Q E ok room r h => by
  obtain ⟨v, r', rfl, rv, rn⟩ := r.ocons
  obtain rfl := rn.onil
  obtain ⟨a, vs, rfl, hq, hr⟩ := rv.olst
  have hl := hr.length
  refine Calls.call_len_list (hq.lst ok) (by rw [List.size_toArray, ← hl]; omega) ?_
  rw [List.size_toArray, ← hl]
  exact h _ _ F (Grow.toks ok _) rInt
theorem kpB {id : String} : KpOk F (.builtin id) := .inl ⟨id, rfl⟩
end
theorem half_cast (lo hi : Nat) : (((lo : Int) + hi).fdiv 2) = (((lo + hi) / 2 : Nat) : Int) := by rw [← Int.natCast_add]; exact (Int.ofNat_fdiv _ 2).symm
/- the places that bisect_left and bisect_right find -/
noncomputable def bisL (f : Nat → Int) (x : Int) (lo hi : Nat) : Nat :=
  if h : lo < hi then (if f ((lo + hi) / 2) < x then bisL f x ((lo + hi) / 2 + 1) hi else bisL f x lo ((lo + hi) / 2)) else lo
termination_by hi - lo
noncomputable def bisR (f : Nat → Int) (x : Int) (lo hi : Nat) : Nat :=
  if h : lo < hi then (if x < f ((lo + hi) / 2) then bisR f x lo ((lo + hi) / 2) else bisR f x ((lo + hi) / 2 + 1) hi) else lo
termination_by hi - lo
theorem bisL_stop (f : Nat → Int) (x : Int) (n : Nat) : bisL f x n n = n := by rw [bisL]; simp
theorem bisR_stop (f : Nat → Int) (x : Int) (n : Nat) : bisR f x n n = n := by rw [bisR]; simp
theorem bisL_loop {C : Cx} (P : PX C) {A L a q cd E I} {xs : List AV} {f : Nat → Int} {x : Int} {kv : Value} (key : Bool) (room : key = true → Room A 3)
    (hf : ∀ i, i < xs.length → ∃ y, xs[i]? = some y ∧ ((key = false → y = .int (f i)) ∧ (key = true → ∀ F s σ ρ, St C (ffm A (fnScope sBisL) L a q cd E I) ρ σ F s → KpOk F kv ∧ Fn C 1 F kv [y] [] (.int (f i))))) (hz : xs.length ≤ 1000000)
    (wh : Stmt) (hw : wh = nth ((if key then ifElse else ifBody) (nth (fnBody sBisL) 2)) 0) : ∀ n lo hi, hi - lo ≤ n → lo ≤ hi → hi ≤ xs.length →
    Wh C (ffm A (fnScope sBisL) L a q cd E I) [(kA, .list xs), (kX, .int x), (kLo, .int lo), (kHi, .int hi), (kKey, .val kv)] [] (whTest wh) (whBody wh) []
      (.nxt [(kA, .list xs), (kX, .int x), (kLo, .int (bisL f x lo hi)), (kHi, .int (bisL f x lo hi)), (kKey, .val kv)] []) := by
  intro n
  induction n with
  | zero =>
    intro lo hi h1 h2 h3
    have e : hi = lo := by omega
    subst e
    rw [bisL_stop, hw]
    cases key <;> exact Wh.stop (Tr.eq (Tr.cmp (by walk_at "ev") (by walk_at "ev") CmpI.lt) (by simp)) Ex.nil
  | succ n ih =>
    intro lo hi h1 h2 h3
    by_cases h : lo < hi
    · obtain ⟨y, hy, hy0, hy1⟩ := hf ((lo + hi) / 2) (by first | assumption | decide | omega)
      rw [bisL, dif_pos h]
      refine Wh.step (Tr.eq (b := decide ((lo : Int) < hi)) (by rw [hw]; cases key <;> exact (Tr.cmp (by walk_at "ev") (by walk_at "ev") CmpI.lt)) (by simpa using h)) (ρ' := [(kA, .list xs), (kX, .int x), (kLo, .int (if f ((lo + hi) / 2) < x then ((lo + hi) / 2 + 1 : Nat) else lo)), (kHi, .int (if f ((lo + hi) / 2) < x then hi else ((lo + hi) / 2 : Nat))), (kKey, .val kv)]) (σ' := []) ?_ ?_
      · rw [hw]
        cases key with
        | false =>
          obtain rfl := hy0 rfl
          refine Ex.cons (Es.asg (by walk_at "ev") (.inl (by rfl))) ?_
          rw [half_cast]
          refine Ex.one (Es.ite (Tr.cmp (Ev.item (by walk_at "ev") (by walk_at "ev") (by first | assumption | decide | omega) hy (by first | assumption | decide | omega)) (by walk_at "ev") CmpI.lt) (fun q => ?_) fun q => ?_)
          · simp only [if_pos (of_decide_eq_true q)]
            exact Ex.fgt (Ex.one (Es.asg (by walk_at "ev") (.inl (by rfl)))) (Sub.cons (by rfl) (Sub.cons (by rfl) (Sub.cons (by rfl) (Sub.cons (by rfl) (Sub.cons (by rfl) Sub.nil)))))
          · simp only [if_neg (of_decide_eq_false q)]
            exact Ex.fgt (Ex.one (Es.asg (by walk_at "ev") (.inl (by rfl)))) (Sub.cons (by rfl) (Sub.cons (by rfl) (Sub.cons (by rfl) (Sub.cons (by rfl) (Sub.cons (by rfl) Sub.nil)))))
        | true =>
          refine Ex.cons (Es.asg (by walk_at "ev") (.inl (by rfl))) ?_
          rw [half_cast]
          have hk : ∀ (ρ : Rho) (px p : Pos) (e : Expr), ρ.lookup kKey = some (.val kv) → Ev C (ffm A (fnScope sBisL) L a q cd E I) ρ [] e y → starEach [e] (ffm A (fnScope sBisL) L a q cd E I).env = [(false, eval e (ffm A (fnScope sBisL) L a q cd E I).env)] →
              Ev C (ffm A (fnScope sBisL) L a q cd E I) ρ [] (.Call (.Name kKey px) [e] [] p) (.int (f ((lo + hi) / 2))) := fun ρ px p e hl he hs =>
            Ev.call (d := 1) ((room rfl).deeper.le (by first | assumption | decide | omega)) (Ev.loc hl (by rfl)) (Evs.cons he Evs.nil (by rw [hs]; rfl)) Evk.nil (fun F s X => hy1 rfl F s [] _ X) (by unfold Plain; rw [hs]; rfl)
          refine Ex.one (Es.ite (Tr.cmp (hk _ _ _ _ (by rfl) (Ev.item (by walk_at "ev") (by walk_at "ev") (by first | assumption | decide | omega) hy (by first | assumption | decide | omega)) (by rfl)) (by walk_at "ev") CmpI.lt) (fun q => ?_) fun q => ?_)
          · simp only [if_pos (of_decide_eq_true q)]
            exact Ex.fgt (Ex.one (Es.asg (by walk_at "ev") (.inl (by rfl)))) (Sub.cons (by rfl) (Sub.cons (by rfl) (Sub.cons (by rfl) (Sub.cons (by rfl) (Sub.cons (by rfl) Sub.nil)))))
          · simp only [if_neg (of_decide_eq_false q)]
            exact Ex.fgt (Ex.one (Es.asg (by walk_at "ev") (.inl (by rfl)))) (Sub.cons (by rfl) (Sub.cons (by rfl) (Sub.cons (by rfl) (Sub.cons (by rfl) (Sub.cons (by rfl) Sub.nil)))))
      · split
        · exact ih _ _ (by first | assumption | decide | omega) (by first | assumption | decide | omega) (by first | assumption | decide | omega)
        · exact ih _ _ (by first | assumption | decide | omega) (by first | assumption | decide | omega) (by first | assumption | decide | omega)
    · have e : hi = lo := by omega
      subst e
      rw [bisL_stop, hw]
      cases key <;> exact Wh.stop (Tr.eq (Tr.cmp (by walk_at "ev") (by walk_at "ev") CmpI.lt) (by simp)) Ex.nil
theorem bisL_body {C : Cx} (P : PX C) {A L a q cd E I} {xs : List AV} {f : Nat → Int} {x : Int} {kv : Value} (key : Bool) (room : Room A 3) (hkey : (kv == .none) = !key)
    (hf : ∀ i, i < xs.length → ∃ y, xs[i]? = some y ∧ ((key = false → y = .int (f i)) ∧ (key = true → ∀ F s σ ρ, St C (ffm A (fnScope sBisL) L a q cd E I) ρ σ F s → KpOk F kv ∧ Fn C 1 F kv [y] [] (.int (f i))))) (hz : xs.length ≤ 1000000)
    (lo hi : Nat) (ha : AV) (hh : (ha = .none ∧ hi = xs.length) ∨ ha = .int hi) (h2 : lo ≤ hi) (h3 : hi ≤ xs.length) :
    Ex C (ffm A (fnScope sBisL) L a q cd E I) [(kA, .list xs), (kX, .int x), (kLo, .int lo), (kHi, ha), (kKey, .val kv)] [] (fnBody sBisL) (.ret (.int (bisL f x lo hi)) []) := by
  refine Ex.cons (Es.ite (Tr.cmp (by walk_at "ev") (by walk_at "ev") CmpI.lt) (fun q => absurd (of_decide_eq_true q) (by first | assumption | decide | omega)) fun q => Ex.nil) ?_
  refine Ex.cons (ρ' := [(kA, .list xs), (kX, .int x), (kLo, .int lo), (kHi, .int hi), (kKey, .val kv)]) (σ' := []) ?_ ?_
  · rcases hh with ⟨rfl, rfl⟩ | rfl
    · refine Es.ite (Tr.isN (by walk_at "ev")) (fun q => ?_) fun q => by simp [AV.isN] at q
      exact Ex.fgt (Ex.one (Es.asg (Ev.call (d := 1) (room.deeper.le (by decide)) (by walk_at "ev") (Evs.cons (by walk_at "ev") Evs.nil) Evk.nil fun _ _ _ => ⟨kpB, fnLen hz⟩) (.inl (by rfl)))) (Sub.cons (by rfl) (Sub.cons (by rfl) (Sub.cons (by rfl) (Sub.cons (by rfl) (Sub.cons (by rfl) Sub.nil)))))
    · exact Es.ite (Tr.isN (by walk_at "ev")) (fun q => by simp [AV.isN] at q) fun q => Ex.nil
  refine Ex.cons (ρ' := [(kA, .list xs), (kX, .int x), (kLo, .int (bisL f x lo hi)), (kHi, .int (bisL f x lo hi)), (kKey, .val kv)]) (σ' := []) ?_ (Ex.one (Es.ret (by walk_at "ev")))
  refine Es.ite (Tr.isN (by walk_at "ev")) (fun q => ?_) fun q => ?_
  · have hk : key = false := by have q' : (kv == .none) = true := q; rw [hkey] at q'; simpa using q'
    subst hk
    exact Ex.one (Es.while (bisL_loop P false (fun q => nomatch q) hf hz (nth (ifBody (nth (fnBody sBisL) 2)) 0) rfl (hi - lo) lo hi (Nat.le_refl _) h2 h3))
  · have hk : key = true := by have q' : (kv == .none) = false := q; rw [hkey] at q'; simpa using q'
    subst hk
    exact Ex.one (Es.while (bisL_loop P true (fun _ => room) hf hz (nth (ifElse (nth (fnBody sBisL) 2)) 0) rfl (hi - lo) lo hi (Nat.le_refl _) h2 h3))
theorem bisR_loop {C : Cx} (P : PX C) {A L a q cd E I} {xs : List AV} {f : Nat → Int} {x : Int} {kv : Value} (key : Bool) (room : key = true → Room A 3)
    (hf : ∀ i, i < xs.length → ∃ y, xs[i]? = some y ∧ ((key = false → y = .int (f i)) ∧ (key = true → ∀ F s σ ρ, St C (ffm A (fnScope sBisR) L a q cd E I) ρ σ F s → KpOk F kv ∧ Fn C 1 F kv [y] [] (.int (f i))))) (hz : xs.length ≤ 1000000)
    (wh : Stmt) (hw : wh = nth ((if key then ifElse else ifBody) (nth (fnBody sBisR) 2)) 0) : ∀ n lo hi, hi - lo ≤ n → lo ≤ hi → hi ≤ xs.length →
    Wh C (ffm A (fnScope sBisR) L a q cd E I) [(kA, .list xs), (kX, .int x), (kLo, .int lo), (kHi, .int hi), (kKey, .val kv)] [] (whTest wh) (whBody wh) []
      (.nxt [(kA, .list xs), (kX, .int x), (kLo, .int (bisR f x lo hi)), (kHi, .int (bisR f x lo hi)), (kKey, .val kv)] []) := by
  intro n
  induction n with
  | zero =>
    intro lo hi h1 h2 h3
    have e : hi = lo := by omega
    subst e
    rw [bisR_stop, hw]
    cases key <;> exact Wh.stop (Tr.eq (Tr.cmp (by walk_at "ev") (by walk_at "ev") CmpI.lt) (by simp)) Ex.nil
  | succ n ih =>
    intro lo hi h1 h2 h3
    by_cases h : lo < hi
    · obtain ⟨y, hy, hy0, hy1⟩ := hf ((lo + hi) / 2) (by first | assumption | decide | omega)
      rw [bisR, dif_pos h]
      refine Wh.step (Tr.eq (b := decide ((lo : Int) < hi)) (by rw [hw]; cases key <;> exact (Tr.cmp (by walk_at "ev") (by walk_at "ev") CmpI.lt)) (by simpa using h)) (ρ' := [(kA, .list xs), (kX, .int x), (kLo, .int (if x < f ((lo + hi) / 2) then lo else ((lo + hi) / 2 + 1 : Nat))), (kHi, .int (if x < f ((lo + hi) / 2) then ((lo + hi) / 2 : Nat) else hi)), (kKey, .val kv)]) (σ' := []) ?_ ?_
      · rw [hw]
        cases key with
        | false =>
          obtain rfl := hy0 rfl
          refine Ex.cons (Es.asg (by walk_at "ev") (.inl (by rfl))) ?_
          rw [half_cast]
          refine Ex.one (Es.ite (Tr.cmp (by walk_at "ev") (Ev.item (by walk_at "ev") (by walk_at "ev") (by first | assumption | decide | omega) hy (by first | assumption | decide | omega)) CmpI.lt) (fun q => ?_) fun q => ?_)
          · simp only [if_pos (of_decide_eq_true q)]
            exact Ex.fgt (Ex.one (Es.asg (by walk_at "ev") (.inl (by rfl)))) (Sub.cons (by rfl) (Sub.cons (by rfl) (Sub.cons (by rfl) (Sub.cons (by rfl) (Sub.cons (by rfl) Sub.nil)))))
          · simp only [if_neg (of_decide_eq_false q)]
            exact Ex.fgt (Ex.one (Es.asg (by walk_at "ev") (.inl (by rfl)))) (Sub.cons (by rfl) (Sub.cons (by rfl) (Sub.cons (by rfl) (Sub.cons (by rfl) (Sub.cons (by rfl) Sub.nil)))))
        | true =>
          refine Ex.cons (Es.asg (by walk_at "ev") (.inl (by rfl))) ?_
          rw [half_cast]
          have hk : ∀ (ρ : Rho) (px p : Pos) (e : Expr), ρ.lookup kKey = some (.val kv) → Ev C (ffm A (fnScope sBisR) L a q cd E I) ρ [] e y → starEach [e] (ffm A (fnScope sBisR) L a q cd E I).env = [(false, eval e (ffm A (fnScope sBisR) L a q cd E I).env)] →
              Ev C (ffm A (fnScope sBisR) L a q cd E I) ρ [] (.Call (.Name kKey px) [e] [] p) (.int (f ((lo + hi) / 2))) := fun ρ px p e hl he hs =>
            Ev.call (d := 1) ((room rfl).deeper.le (by first | assumption | decide | omega)) (Ev.loc hl (by rfl)) (Evs.cons he Evs.nil (by rw [hs]; rfl)) Evk.nil (fun F s X => hy1 rfl F s [] _ X) (by unfold Plain; rw [hs]; rfl)
          refine Ex.one (Es.ite (Tr.cmp (by walk_at "ev") (hk _ _ _ _ (by rfl) (Ev.item (by walk_at "ev") (by walk_at "ev") (by first | assumption | decide | omega) hy (by first | assumption | decide | omega)) (by rfl)) CmpI.lt) (fun q => ?_) fun q => ?_)
          · simp only [if_pos (of_decide_eq_true q)]
            exact Ex.fgt (Ex.one (Es.asg (by walk_at "ev") (.inl (by rfl)))) (Sub.cons (by rfl) (Sub.cons (by rfl) (Sub.cons (by rfl) (Sub.cons (by rfl) (Sub.cons (by rfl) Sub.nil)))))
          · simp only [if_neg (of_decide_eq_false q)]
            exact Ex.fgt (Ex.one (Es.asg (by walk_at "ev") (.inl (by rfl)))) (Sub.cons (by rfl) (Sub.cons (by rfl) (Sub.cons (by rfl) (Sub.cons (by rfl) (Sub.cons (by rfl) Sub.nil)))))
      · split
        · exact ih _ _ (by first | assumption | decide | omega) (by first | assumption | decide | omega) (by first | assumption | decide | omega)
        · exact ih _ _ (by first | assumption | decide | omega) (by first | assumption | decide | omega) (by first | assumption | decide | omega)
    · have e : hi = lo := by omega
      subst e
      rw [bisR_stop, hw]
      cases key <;> exact Wh.stop (Tr.eq (Tr.cmp (by walk_at "ev") (by walk_at "ev") CmpI.lt) (by simp)) Ex.nil
theorem bisR_body {C : Cx} (P : PX C) {A L a q cd E I} {xs : List AV} {f : Nat → Int} {x : Int} {kv : Value} (key : Bool) (room : Room A 3) (hkey : (kv == .none) = !key)
    (hf : ∀ i, i < xs.length → ∃ y, xs[i]? = some y ∧ ((key = false → y = .int (f i)) ∧ (key = true → ∀ F s σ ρ, St C (ffm A (fnScope sBisR) L a q cd E I) ρ σ F s → KpOk F kv ∧ Fn C 1 F kv [y] [] (.int (f i))))) (hz : xs.length ≤ 1000000)
    (lo hi : Nat) (ha : AV) (hh : (ha = .none ∧ hi = xs.length) ∨ ha = .int hi) (h2 : lo ≤ hi) (h3 : hi ≤ xs.length) :
    Ex C (ffm A (fnScope sBisR) L a q cd E I) [(kA, .list xs), (kX, .int x), (kLo, .int lo), (kHi, ha), (kKey, .val kv)] [] (fnBody sBisR) (.ret (.int (bisR f x lo hi)) []) := by
  refine Ex.cons (Es.ite (Tr.cmp (by walk_at "ev") (by walk_at "ev") CmpI.lt) (fun q => absurd (of_decide_eq_true q) (by first | assumption | decide | omega)) fun q => Ex.nil) ?_
  refine Ex.cons (ρ' := [(kA, .list xs), (kX, .int x), (kLo, .int lo), (kHi, .int hi), (kKey, .val kv)]) (σ' := []) ?_ ?_
  · rcases hh with ⟨rfl, rfl⟩ | rfl
    · refine Es.ite (Tr.isN (by walk_at "ev")) (fun q => ?_) fun q => by simp [AV.isN] at q
      exact Ex.fgt (Ex.one (Es.asg (Ev.call (d := 1) (room.deeper.le (by decide)) (by walk_at "ev") (Evs.cons (by walk_at "ev") Evs.nil) Evk.nil fun _ _ _ => ⟨kpB, fnLen hz⟩) (.inl (by rfl)))) (Sub.cons (by rfl) (Sub.cons (by rfl) (Sub.cons (by rfl) (Sub.cons (by rfl) (Sub.cons (by rfl) Sub.nil)))))
    · exact Es.ite (Tr.isN (by walk_at "ev")) (fun q => by simp [AV.isN] at q) fun q => Ex.nil
  refine Ex.cons (ρ' := [(kA, .list xs), (kX, .int x), (kLo, .int (bisR f x lo hi)), (kHi, .int (bisR f x lo hi)), (kKey, .val kv)]) (σ' := []) ?_ (Ex.one (Es.ret (by walk_at "ev")))
  refine Es.ite (Tr.isN (by walk_at "ev")) (fun q => ?_) fun q => ?_
  · have hk : key = false := by have q' : (kv == .none) = true := q; rw [hkey] at q'; simpa using q'
    subst hk
    exact Ex.one (Es.while (bisR_loop P false (fun q => nomatch q) hf hz (nth (ifBody (nth (fnBody sBisR) 2)) 0) rfl (hi - lo) lo hi (Nat.le_refl _) h2 h3))
  · have hk : key = true := by have q' : (kv == .none) = false := q; rw [hkey] at q'; simpa using q'
    subst hk
    exact Ex.one (Es.while (bisR_loop P true (fun _ => room) hf hz (nth (ifElse (nth (fnBody sBisR) 2)) 0) rfl (hi - lo) lo hi (Nat.le_refl _) h2 h3))
/- one entry of the mutable objects is changed -/
inductive Upd : Sig → Addr → MO → MO → Sig → Prop where
  | here {l o o' σ} : Upd ((l, o) :: σ) l o o' ((l, o') :: σ)
  | there {p σ l o o' σ'} (h : Upd σ l o o' σ') : Upd (p :: σ) l o o' (p :: σ')
theorem Upd.mem {σ l o o' σ'} (h : Upd σ l o o' σ') : (l, o) ∈ σ := by induction h with | here => exact .head _ | there _ ih => exact .tail _ ih
theorem Upd.fst {σ l o o' σ'} (h : Upd σ l o o' σ') : σ'.map (·.1) = σ.map (·.1) := by induction h with | here => rfl | there _ ih => simp [ih]
theorem Upd.elim {σ l o o' σ'} (h : Upd σ l o o' σ') (hn : (σ.map (·.1)).Nodup) : ∀ p ∈ σ', p = (l, o') ∨ (p ∈ σ ∧ p.1 ≠ l) := by
  induction h with
  | here =>
    intro p hp
    rw [List.map_cons, List.nodup_cons] at hn
    rcases List.mem_cons.mp hp with rfl | hp
    · exact .inl rfl
    · exact .inr ⟨.tail _ hp, fun q => hn.1 (q ▸ List.mem_map_of_mem (f := (·.1)) hp)⟩
  | there h ih =>
    intro p hp
    rw [List.map_cons, List.nodup_cons] at hn
    rcases List.mem_cons.mp hp with rfl | hp
    · exact .inr ⟨.head _, fun q => hn.1 (q ▸ List.mem_map_of_mem (f := (·.1)) h.mem)⟩
    · exact (ih hn.2 p hp).imp id fun q => ⟨.tail _ q.1, q.2⟩
section
variable {C : Cx} {fm : Fm} {ρ ρ' : Rho} {σ σ' : Sig} {F F' : Ghost} {s s' : Shared} {out : Out}
/- a step that changes one of the frame's mutable objects alone -/
theorem St.upd {l : Addr} {o o' : MO} (X : St C fm ρ σ F s) (u : Upd σ l o o' σ') (g : Gr C (fun b => b ≠ l) F s F' s') (hm : MOk F' s'.heap l o') (hF : F' l = none) :
    St C fm ρ σ' F' s' ∧ Gr C (Kf fm) F s F' s' := by
  obtain ⟨m1, m2, m3, m4, m5, m6⟩ := X.mu _ u.mem
  obtain ⟨m, hns, hm'⟩ := X.loc
  have hL : fm.env.locals ≠ l := fun q => m4 q.symm
  have hc : ∀ y c, fm.env.cells.lookup y = some c → c ≠ l := fun y c e q => m5 y c e q.symm
  refine ⟨⟨g.ok, X.kind, X.glb, X.blt, ⟨m, (g.keep _ hL X.locT).ns hns, fun y a e hk => let ⟨v, e1, r⟩ := hm' y a e hk; ⟨v, e1, Rep.mono g.le _ _ r⟩⟩, g.none_of_live hL (nsLive hns) X.locF, X.locT, X.locB, fun a ha => ?_,
    fun y a e hk => let ⟨c, v, e1, ho, r⟩ := X.cel y a e hk; ⟨c, v, e1, (g.keep _ (hc y c e1) (X.cne y c e1).2.1).cell ho, Rep.mono g.le _ _ r⟩,
    fun hcl y hk => let ⟨c, v, e1, ho, hB, hF⟩ := X.own hcl y hk; ⟨c, v, e1, (g.keep _ (hc y c e1) (X.cne y c e1).2.1).cell ho, hB, g.none_of_live (hc y c e1) (cellLive ho) hF⟩, X.apart, fun y c e => ⟨(X.cne y c e).1, (X.cne y c e).2.1, g.live (hc y c e) (X.cne y c e).2.2⟩, fun p hp => ?_, by rw [u.fst]; exact X.mud, X.imo _ _ g.le X.inv, X.imo, fun L hL => let ⟨h1, h2, h3⟩ := X.fr L hL; ⟨h1, h2, h3.gr g fun (q : L = l) => by subst q; exact m6.elim (fun h => h h1) h2⟩⟩,
    Gr.weak (fun a ha q => by subst q; exact m6.elim (fun h => h ha.1) ha.2) g⟩
  · by_cases hl : a = l
    · subst hl; exact hm.live
    · exact g.live hl (X.base a ha)
  rcases u.elim X.mud p hp with rfl | ⟨hp, hne⟩
  · exact ⟨hm, hF, m3, m4, m5, m6⟩
  · obtain ⟨h1, h2, h3, h4⟩ := X.mu p hp
    exact ⟨h1.gr g hne h3, g.none_of_live hne h1.live h2, h3, h4⟩
/- a target takes a value -/
structure As (C : Cx) (fm : Fm) (tgt : Expr) (x : AV) (bd : Rho) : Prop where
  of ::
  h : ∀ ρ σ F s v, St C fm ρ σ F s → Rep F x v → wpAny C.M fm.A (assign tgt fm.env v) (fun _ s' => ∃ F', Gr C (Kf fm) F s F' s' ∧ St C fm (bd ++ ρ) σ F' s') (fun _ _ => False) s
theorem As.name {x : Str} {p : Pos} {a : AV} (hk : Sto fm x) : As C fm (.Name x p) a [(x, a)] := ⟨fun ρ σ F s v X r =>
  wpAny_assign_Name (X.stor hk r fun s' g X' => ⟨F, g, X'⟩)⟩
/- targets, one by one -/
noncomputable def assignTo (es : List Expr) (env : Env) : List (Value → Sem Unit) := (assignEach es env).map (·.2)
structure Ass (C : Cx) (fm : Fm) (es : List Expr) (xs : List AV) (bd : Rho) : Prop where
  of ::
  h : ∀ ρ σ F s vs, St C fm ρ σ F s → Reps F xs vs → wpAny C.M fm.A (assignInOrder (assignTo es fm.env) vs) (fun _ s' => ∃ F', Gr C (Kf fm) F s F' s' ∧ St C fm (bd ++ ρ) σ F' s') (fun _ _ => False) s
theorem Ass.nil : Ass C fm [] [] [] := ⟨fun ρ σ F s vs X r => by obtain rfl := r.onil; exact wpAny_pure ⟨F, Gr.refl X.ok, X⟩⟩
theorem Ass.cons {e es} {x : AV} {xs : List AV} {bd bd' : Rho} (h : As C fm e x bd) (hr : Ass C fm es xs bd') (he : assignTo (e :: es) fm.env = assign e fm.env :: assignTo es fm.env := by rfl) : Ass C fm (e :: es) (x :: xs) (bd' ++ bd) := ⟨fun ρ σ F s vs X r => by
  obtain ⟨v, vs', rfl, rv, rr⟩ := r.ocons
  rw [he]
  show wpAny C.M fm.A (holding vs' (assign e fm.env v) >>= fun _ => assignInOrder (assignTo es fm.env) vs') _ _ s
  refine wpAny_bind (wpAny_holding (wpAny_mono (h.h ρ σ F s v X rv) (fun _ s₁ ⟨F₁, g₁, X₁⟩ => ?_) fun _ _ q => q))
  refine wpAny_mono (hr.h (bd ++ ρ) σ F₁ s₁ vs' X₁ (Reps.mono g₁.le _ _ rr)) (fun _ s₂ ⟨F₂, g₂, X₂⟩ => ⟨F₂, g₁.trans g₂, ?_⟩) fun _ _ q => q
  rw [List.append_assoc]; exact X₂⟩
/- an iterator: its items, its objects at each step -/
structure Itr (C : Cx) (A : Around) (it : Value) (tgt : Expr) (xs : List AV) (τ : Nat → Sig) : Prop where
  adr : ∀ i, (τ i).map (·.1) = (τ 0).map (·.1)
  item : ∀ i x F s, xs[i]? = some x → Ok C F s → SigOk F s (τ i) → (∀ a ∈ (τ 0).map (·.1), a ∉ C.T) → wpAny C.M A (pyNext it) (fun r s₁ => ∃ v, r = some v ∧ wpAny C.M A (letOwnedTupleGo tgt it v)
    (fun _ s₂ => ∃ F', Gr C (fun a => a ∉ (τ 0).map (·.1)) F s F' s₂ ∧ SigOk F' s₂ (τ (i + 1)) ∧ Rep F' x v) (fun _ _ => False) s₁) (fun _ _ => False) s
  done : ∀ F s, Ok C F s → SigOk F s (τ xs.length) → (∀ a ∈ (τ 0).map (·.1), a ∉ C.T) → wpAny C.M A (pyNext it) (fun r s₁ => r = none ∧ ∃ F', Gr C (fun a => a ∉ (τ 0).map (·.1)) F s F' s₁) (fun _ _ => False) s
  self : ∀ i F s (Q : Value → Shared → Prop) (E : Value → Shared → Prop), Ok C F s → SigOk F s (τ i) → Q it s → wpAny C.M A (pyIter it) Q E s
/- a loop's source -/
structure Src (C : Cx) (fm : Fm) (ρ : Rho) (σ : Sig) (iter tgt : Expr) (xs : List AV) : Prop where
  of ::
  h : ∀ F s, St C fm ρ σ F s → wpAny C.M fm.A (eval iter fm.env) (fun v s₁ => wpAny C.M fm.A (pyIter v) (fun it s₂ => ∃ F' τ, Grow C F s F' s₂ ∧ Itr C fm.A it tgt xs τ ∧ SigOk F' s₂ (τ 0) ∧
    (∀ p ∈ τ 0, s.heap.get? p.1 = none) ∧ ((τ 0).map (·.1)).Nodup) (fun _ _ => False) s₁) (fun _ _ => False) s
/- new objects join the frame's -/
theorem St.join {τ : Sig} (X : St C fm ρ σ F s) (g : Grow C F s F' s') (hs : SigOk F' s' τ) (hf : ∀ p ∈ τ, s.heap.get? p.1 = none) (hn : (τ.map (·.1)).Nodup) : St C fm ρ (τ ++ σ) F' s' := by
  have X' := X.grow g
  have ne : ∀ {a}, (∃ o, s.heap.get? a = some o) → ∀ p ∈ τ, p.1 ≠ a := fun ⟨o, e⟩ p hp q => by rw [← q, hf p hp] at e; cases e
  refine { X' with mu := fun p hp => ?_, mud := ?_ }
  · rcases List.mem_append.mp hp with hp | hp
    · obtain ⟨m, hns, _⟩ := X.loc
      exact ⟨(hs p hp).1, (hs p hp).2, X.ok.notT (hf p hp), ne (nsLive hns) p hp, fun x c e => ne (X.cne x c e).2.2 p hp, .inl fun hE => ne (X.base _ hE) p hp rfl⟩
    · exact X'.mu p hp
  · rw [List.map_append, List.nodup_append]
    refine ⟨hn, X.mud, fun a ha b hb q => ?_⟩
    obtain ⟨p, hp, rfl⟩ := List.mem_map.mp ha
    obtain ⟨r, hr, rfl⟩ := List.mem_map.mp hb
    exact ne (X.mu r hr).1.live p hp q
end
section
variable {C : Cx} {fm : Fm} {ρ ρ' : Rho} {σ σ' : Sig} {F F' : Ghost} {s s' : Shared} {out : Out}
theorem IsSq.tuple {a : Addr} {vs : List Value} (ok : Ok C F s) (h : IsSq F "tuple" a vs) : s.heap.IsTuple a vs.toArray := let ⟨o, n, e, hc, hd⟩ := h; ⟨o, ok.sub _ _ e, hc, n, hd⟩
/- a tuple unpacked -/
theorem As.tup {es : List Expr} {k : Nat} {p : Pos} {xs : List AV} {bd : Rho} (hh : fm.A.handled = none) (h : Ass C fm es xs bd) (hn : (assignEach es fm.env).length = xs.length := by rfl) (hs : (assignEach es fm.env).findIdx? (·.1) = none := by rfl) :
    As C fm (.Tuple es k p) (.tup xs) bd := ⟨fun ρ σ F s v X r => by
  obtain ⟨a, vs, rfl, hq, hr⟩ := r.otup
  refine wpAny_assign_Tuple hh (hq.tuple X.ok) (by rw [hn, List.size_toArray, hr.length]) hs fun h' he => ?_
  have g : Grow C F s F { s with heap := h' } := Grow.heap X.ok fun b o e => he b o (fun q => by rw [q, dead_top] at e; cases e) e
  refine wpAny_mono (h.h ρ σ F _ vs (X.grow g) hr) (fun _ s₂ ⟨F₂, g₂, X₂⟩ => ⟨F₂, g.any.trans g₂, X₂⟩) fun _ _ q => q⟩
theorem Es.asgT {t : Expr} {e : Expr} {pos : Pos} {x : AV} {bd : Rho} (he : Ev C fm ρ σ e x) (h : As C fm t x bd)
    (hs : exec (.Assign [t] e pos) fm.env = (do standAt pos; let v ← eval e fm.env; assign t fm.env v; pure .next) := by rfl) : Es C fm ρ σ (.Assign [t] e pos) (.nxt (bd ++ ρ) σ) := ⟨fun F s X => by
  rw [hs]
  refine wpAny_bind (wpAny_standAt (wpAny_bind (wpAny_mono (he.h F s X) (fun v s₁ ⟨F₁, g₁, r₁⟩ => ?_) fun _ _ q => q.elim)))
  exact wpAny_bind (wpAny_mono (h.h ρ σ F₁ s₁ v (X.grow g₁) r₁) (fun _ s₂ ⟨F₂, g₂, X₂⟩ => wpAny_pure ⟨F₂, g₁.any.trans g₂, rfl, X₂⟩) fun _ _ q => q.elim)⟩
/- a for's run from where it stands -/
structure Fo (C : Cx) (fm : Fm) (ρ : Rho) (σ : Sig) (tgt : Expr) (it : Value) (xs ys : List Stmt) (out : Out) : Prop where
  of ::
  h : ∀ F s, St C fm ρ σ F s → codeAny C.M fm.A (.forLoop tgt it xs ys fm.env) (fun r s' => match r with
    | .ok f => OutQ C fm F s out f s'
    | .error e => False) s
theorem Fo.sub {tgt it xs ys} (h : Fo C fm ρ' σ tgt it xs ys out) (hs : Sub ρ' ρ) : Fo C fm ρ σ tgt it xs ys out := ⟨fun F s X => h.h F s (X.sub hs)⟩
theorem St.drop {τ : Sig} (X : St C fm ρ (τ ++ σ) F s) : St C fm ρ σ F s := X.sig (List.sublist_append_right _ _)
theorem St.sigOk {τ : Sig} (X : St C fm ρ (τ ++ σ) F s) : SigOk F s τ := fun p hp => let ⟨h1, h2, _⟩ := X.mu p (List.mem_append_left _ hp); ⟨h1, h2⟩
theorem St.step {τ τ' : Sig} (X : St C fm ρ (τ ++ σ) F s) (g : Gr C (fun a => a ∉ τ.map (·.1)) F s F' s') (he : τ'.map (·.1) = τ.map (·.1)) (hs : SigOk F' s' τ') : St C fm ρ (τ' ++ σ) F' s' ∧ Gr C (Kf fm) F s F' s' :=
  ⟨X.gr g he hs, Gr.weak (fun a ha q => by
    obtain ⟨p, hp, rfl⟩ := List.mem_map.mp q
    obtain ⟨_, _, _, _, _, h6⟩ := X.mu p (List.mem_append_left _ hp)
    exact h6.elim (fun h => h ha.1) ha.2) g⟩
/- an ended iterator's objects are let go -/
theorem St.leave {τ : Sig} (X : St C fm ρ (τ ++ σ) F s) (g : Gr C (fun a => a ∉ τ.map (·.1)) F s F' s') (hE : ∀ p ∈ τ, ¬ fm.E p.1) : St C fm ρ σ F' s' ∧ Gr C (Kf fm) F s F' s' := by
  have hd := X.mud
  rw [List.map_append, List.nodup_append] at hd
  have inτ : ∀ a, a ∈ τ.map (·.1) → a ≠ fm.env.locals ∧ (∀ y c, fm.env.cells.lookup y = some c → a ≠ c) := fun a ha => by
    obtain ⟨p, hp, rfl⟩ := List.mem_map.mp ha
    obtain ⟨_, _, _, h4, h5, _⟩ := X.mu p (List.mem_append_left _ hp)
    exact ⟨h4, h5⟩
  obtain ⟨m, hns, hm'⟩ := X.loc
  have hL : fm.env.locals ∉ τ.map (·.1) := fun q => (inτ _ q).1 rfl
  have hc : ∀ y c, fm.env.cells.lookup y = some c → c ∉ τ.map (·.1) := fun y c e q => (inτ _ q).2 y c e rfl
  have hEτ : ∀ a, fm.E a → a ∉ τ.map (·.1) := fun a ha q => by obtain ⟨p, hp, rfl⟩ := List.mem_map.mp q; exact hE p hp ha
  refine ⟨⟨g.ok, X.kind, X.glb, X.blt, ⟨m, (g.keep _ hL X.locT).ns hns, fun y a e hk => let ⟨v, e1, r⟩ := hm' y a e hk; ⟨v, e1, Rep.mono g.le _ _ r⟩⟩, g.none_of_live hL (nsLive hns) X.locF, X.locT, X.locB, fun a ha => g.live (hEτ a ha) (X.base a ha),
    fun y a e hk => let ⟨c, v, e1, ho, r⟩ := X.cel y a e hk; ⟨c, v, e1, (g.keep _ (hc y c e1) (X.cne y c e1).2.1).cell ho, Rep.mono g.le _ _ r⟩,
    fun hcl y hk => let ⟨c, v, e1, ho, hB, hF⟩ := X.own hcl y hk; ⟨c, v, e1, (g.keep _ (hc y c e1) (X.cne y c e1).2.1).cell ho, hB, g.none_of_live (hc y c e1) (cellLive ho) hF⟩, X.apart,
    fun y c e => ⟨(X.cne y c e).1, (X.cne y c e).2.1, g.live (hc y c e) (X.cne y c e).2.2⟩, fun p hp => ?_, hd.2.1, X.imo _ _ g.le X.inv, X.imo, fun L hL => let ⟨h1, h2, h3⟩ := X.fr L hL; ⟨h1, h2, h3.gr g (hEτ L h1)⟩⟩, Gr.weak (fun a ha => hEτ a ha.1) g⟩
  obtain ⟨h1, h2, h3, h4⟩ := X.mu p (List.mem_append_right _ hp)
  have hnτ : p.1 ∉ τ.map (·.1) := fun q => (hd.2.2 _ q _ (List.mem_map_of_mem (f := (·.1)) hp)) rfl
  exact ⟨h1.gr g hnτ h3, g.none_of_live hnτ h1.live h2, h3, h4⟩
theorem forUnder {tgt it xs ys} {env : Env} {A : Around} : A.under (.forLoop tgt it xs ys env) = A := rfl
/- the loop has come to its end -/
theorem Fo.done {tgt it xs ys} {vs : List AV} {τ : Nat → Sig} (I : Itr C fm.A it tgt vs τ) (hE : ∀ p ∈ τ vs.length, ¬ fm.E p.1) (hy : Ex C fm ρ σ ys out) (hc : out.calm = true := by rfl) : Fo C fm ρ (τ vs.length ++ σ) tgt it xs ys out := ⟨fun F s X => by
  refine codeAny_of_tree ?_
  show wpAny _ fm.A ((forTurn tgt it xs ys fm.env).onRaise (fun x => do noteFrame x fm.env; theTreesLotGoes x)) _ _ s
  refine wpAny_noted ?_
  simp only [forTurn]
  have hT : ∀ a ∈ (τ 0).map (·.1), a ∉ C.T := fun a ha => by
    rw [← I.adr vs.length] at ha
    obtain ⟨p, hp, rfl⟩ := List.mem_map.mp ha
    exact (X.mu p (List.mem_append_left _ hp)).2.2.1
  refine wpAny_bind (wpAny_standAt (wpAny_bind (wpAny_onRaise (wpAny_mono (I.done F s X.ok X.sigOk hT) (fun r s₁ ⟨e, F₁, g₁⟩ => ?_) fun _ _ q => q.elim))))
  subst e
  obtain ⟨X₁, g₁'⟩ := X.leave (F' := F₁) (s' := s₁) (by rw [I.adr]; exact g₁) hE
  refine wpAny_pure ⟨rfl, codeAny_block ?_⟩
  exact wpAny_mono (hy.h F₁ s₁ X₁) (fun f s₂ q => q.pre g₁') fun _ _ q => (Out.calm.no hc q).elim⟩
/- one turn -/
theorem Fo.turn {tgt it xs ys} {vs : List AV} {τ : Nat → Sig} {i : Nat} {x : AV} {bd : Rho} (I : Itr C fm.A it tgt vs τ) (hx : vs[i]? = some x) (ha : As C fm tgt x bd) (hc : out.calm = true := by rfl)
    (h : (∃ ρ₁ σ₁, (Ex C fm (bd ++ ρ) (τ (i + 1) ++ σ) xs (.nxt ρ₁ σ₁) ∨ Ex C fm (bd ++ ρ) (τ (i + 1) ++ σ) xs (.cnt ρ₁ σ₁)) ∧ Fo C fm ρ₁ σ₁ tgt it xs ys out) ∨
      (∃ a σ₁, out = .ret a σ₁ ∧ Ex C fm (bd ++ ρ) (τ (i + 1) ++ σ) xs out) ∨ (∃ ρ₁ σ₁, out = .nxt ρ₁ σ₁ ∧ Ex C fm (bd ++ ρ) (τ (i + 1) ++ σ) xs (.brk ρ₁ σ₁))) :
    Fo C fm ρ (τ i ++ σ) tgt it xs ys out := ⟨fun F s X => by
  refine codeAny_of_tree ?_
  show wpAny _ fm.A ((forTurn tgt it xs ys fm.env).onRaise (fun x => do noteFrame x fm.env; theTreesLotGoes x)) _ _ s
  refine wpAny_noted ?_
  simp only [forTurn]
  have hT : ∀ a ∈ (τ 0).map (·.1), a ∉ C.T := fun a ha => by
    rw [← I.adr i] at ha
    obtain ⟨p, hp, rfl⟩ := List.mem_map.mp ha
    exact (X.mu p (List.mem_append_left _ hp)).2.2.1
  refine wpAny_bind (wpAny_standAt (wpAny_bind (wpAny_onRaise (wpAny_mono (I.item i x F s hx X.ok X.sigOk hT) (fun r s₁ ⟨v, e, hw⟩ => ?_) fun _ _ q => q.elim))))
  subst e
  refine wpAny_bind (wpAny_mono hw (fun _ s₂ ⟨F₂, g₂, hs₂, r₂⟩ => ?_) fun _ _ q => q.elim)
  obtain ⟨X₂, g₂'⟩ := X.step (τ' := τ (i + 1)) (F' := F₂) (s' := s₂) (by rw [I.adr i]; exact g₂) (by rw [I.adr, I.adr i]) hs₂
  refine wpAny_bind (wpAny_mono (ha.h ρ _ F₂ s₂ v X₂ r₂) (fun _ s₃ ⟨F₃, g₃, X₃⟩ => ?_) fun _ _ q => q.elim)
  have g13 := g₂'.trans g₃
  rcases h with ⟨ρ₁, σ₁, h1, h2⟩ | ⟨a, σ₁, ho, h1⟩ | ⟨ρ₁, σ₁, ho, h1⟩
  · have : wpAny C.M fm.A (execs xs fm.env) (fun f s₂ => (f = .next ∨ f = .cont) ∧ ∃ F₂, Gr C (Kf fm) F₃ s₃ F₂ s₂ ∧ St C fm ρ₁ σ₁ F₂ s₂) (fun _ _ => False) s₃ := by
      rcases h1 with h1 | h1
      · exact wpAny_mono (h1.h F₃ s₃ X₃) (fun f s₂ ⟨F₂, g₂, e, X₂⟩ => ⟨.inl e, F₂, g₂, X₂⟩) fun _ _ q => Out.calm.no rfl q
      · exact wpAny_mono (h1.h F₃ s₃ X₃) (fun f s₂ ⟨F₂, g₂, e, X₂⟩ => ⟨.inr e, F₂, g₂, X₂⟩) fun _ _ q => Out.calm.no rfl q
    refine wpAny_bind (wpAny_mono this (fun f s₄ ⟨hf, F₄, g₄, X₄⟩ => ?_) fun _ _ q => q.elim)
    have hw := codeAny_mono (h2.h F₄ s₄ X₄) (R' := fun r s' => match r with | .ok f => OutQ C fm F s out f s' | .error e => False) fun r s' q => by
      cases r with
      | ok f => exact OutQ.pre (g13.trans g₄) q
      | error e => exact q
    rcases hf with rfl | rfl
    · exact wpAny_pure ⟨rfl, hw⟩
    · exact wpAny_pure ⟨rfl, hw⟩
  · subst ho
    refine wpAny_bind (wpAny_mono (h1.h F₃ s₃ X₃) (fun f s₄ ⟨F₄, g₄, v, e, r⟩ => ?_) fun _ _ q => (Out.calm.no rfl q).elim)
    subst e
    exact wpAny_pure ⟨F₄, g13.trans g₄, v, rfl, r⟩
  · subst ho
    refine wpAny_bind (wpAny_mono (h1.h F₃ s₃ X₃) (fun f s₄ ⟨F₄, g₄, e, r⟩ => ?_) fun _ _ q => (Out.calm.no rfl q).elim)
    subst e
    exact wpAny_pure ⟨F₄, g13.trans g₄, rfl, r⟩⟩
theorem Es.for {tgt iter xs ys pos} {vs : List AV} (hs : Src C fm ρ σ iter tgt vs) (h : ∀ it τ, Itr C fm.A it tgt vs τ → (∀ i, ∀ p ∈ τ i, ¬ fm.E p.1) → Fo C fm ρ (τ 0 ++ σ) tgt it xs ys out)
    (hf : ∀ x, foldedSetIterable iter fm.env x = pure x := by intro _; rfl) (hc : out.calm = true := by rfl) : Es C fm ρ σ (.For tgt iter xs ys pos) out := ⟨fun F s X => by
  refine wpAny_For (wpAny_mono (hs.h F s X) (fun x s₁ h₁ => wpAny_mono h₁ (fun it s₂ ⟨F₂, τ, g₂, I, hs₂, hfr, hnd⟩ => ?_) fun _ _ q => q.elim) fun _ _ q => q.elim) hf
  have X₂ := X.join g₂ hs₂ hfr hnd
  have hE : ∀ i, ∀ p ∈ τ i, ¬ fm.E p.1 := fun i p hp hE => by
    have : p.1 ∈ (τ 0).map (·.1) := by rw [← I.adr i]; exact List.mem_map_of_mem (f := (·.1)) hp
    obtain ⟨r, hr, e⟩ := List.mem_map.mp this
    obtain ⟨o, eo⟩ := X.base _ hE
    rw [← e, hfr r hr] at eo; cases eo
  refine codeAny_mono ((h it τ I hE).h F₂ s₂ X₂) fun r s' q => ?_
  cases r with
  | ok f => exact OutQ.pre g₂.any q
  | error e => exact q.elim⟩
/- a loop through all its items, without a break -/
theorem Fo.all {tgt it xs ys} {vs : List AV} {τ : Nat → Sig} (I : Itr C fm.A it tgt vs τ) (hE : ∀ i, ∀ p ∈ τ i, ¬ fm.E p.1) (ρs : Nat → Rho) (σs : Nat → Sig) (bd : AV → Rho) (ha : ∀ x ∈ vs, As C fm tgt x (bd x))
    (step : ∀ i x, vs[i]? = some x → Ex C fm (bd x ++ ρs i) (τ (i + 1) ++ σs i) xs (.nxt (ρs (i + 1)) (τ (i + 1) ++ σs (i + 1)))) (hy : Ex C fm (ρs vs.length) (σs vs.length) ys out) (hc : out.calm = true := by rfl) :
    Fo C fm (ρs 0) (τ 0 ++ σs 0) tgt it xs ys out := by
  have key : ∀ n i, i + n = vs.length → Fo C fm (ρs i) (τ i ++ σs i) tgt it xs ys out := by
    intro n
    induction n with
    | zero => intro i hi; have : i = vs.length := by omega
              subst this; exact Fo.done I (hE _) hy hc
    | succ n ih =>
      intro i hi
      have hx : vs[i]? = some vs[i] := by simp
      exact Fo.turn I hx (ha _ (List.getElem_mem _)) hc (.inl ⟨_, _, .inl (step i _ hx), ih (i + 1) (by first | assumption | decide | omega)⟩)
  exact key vs.length 0 (by first | assumption | decide | omega)
end
section
variable {C : Cx} {fm : Fm} {ρ ρ' : Rho} {σ σ' : Sig} {F F' : Ghost} {s s' : Shared} {out : Out}
/- a call of a built-in or a type by its name, to any end -/
theorem evCall {x : Str} {px pos : Pos} {es : List Expr} {f : Value} {as : List AV} {Q : Value → Shared → Prop} (X : St C fm ρ σ F s)
    (hf : Ev C fm ρ σ (.Name x px) (.val f)) (has : Evs C fm ρ σ es as) (hk : KpOk F f) (h : ∀ F₁ s₁ vs, Grow C F s F₁ s₁ → Reps F₁ as vs → wpAny C.M fm.A (call f vs) Q (fun _ _ => False) s₁) (hpl : Plain es fm.env := by rfl) :
    wpAny C.M fm.A (eval (.Call (.Name x px) es [] pos) fm.env) Q (fun _ _ => False) s := by
  refine wpAny_Call_Name_kw (wpAny_mono (hf.h F s X) (fun v s₁ ⟨F₁, g₁, r₁⟩ => ?_) fun _ _ q => q)
  obtain rfl := r₁.oval
  have X₁ := X.grow g₁
  have hk' := kwAll (kws := []) (pos := pos) (env := fm.env) rfl
  refine callWith_any (backTo_any hpl) hk'.2 (evalArgs_any hpl hk'.1 (wpAny_mono (has.h F₁ s₁ pos X₁) (fun vs s₂ ⟨F₂, g₂, r₂⟩ => ?_) fun _ _ q => q))
  exact evalAll_nil ⟨⟨F₂, g₂.ok, hk.mono (g₁.le.trans g₂.le)⟩, h F₂ s₂ vs (g₁.trans g₂) r₂⟩
theorem letGo_list {A : Around} {tgt : Expr} {it l : Addr} {i : Nat} {v : Value} {Q : Unit → Shared → Prop} {E : Value → Shared → Prop} {o : Obj} (ho : s.heap.get? it = some o) (hc : o.cls = .type "list_iterator" ∨ o.cls = .type "range_iterator" ∨ o.cls = .type "tuple_iterator" ∨ o.cls = .type "list_reverseiterator") (h : Q () s) :
    wpAny C.M A (letOwnedTupleGo tgt (.ref it) v) Q E s := by
  have key : ∀ (Y : Prop), True := fun _ => trivial
  unfold letOwnedTupleGo
  split
  · split
    · rename_i heq
      injection heq with h1 h2
      injection h1 with h1
      subst h1
      refine wpAny_bind (wpAny_load ho ?_)
      split
      · rename_i hn hd
        rcases hc with hc | hc | hc | hc <;> (rw [hc] at hn; injection hn with hn; subst hn; exact wpAny_pure h)
      · exact wpAny_pure h
    · exact wpAny_pure h
  · split
    · rename_i heq
      injection heq with h1 h2
      injection h1 with h1
      subst h1
      refine wpAny_bind (wpAny_load ho ?_)
      split
      · rename_i hn hd
        rcases hc with hc | hc | hc | hc <;> (rw [hc] at hn; injection hn with hn; subst hn; exact wpAny_pure h)
      · exact wpAny_pure h
    · exact wpAny_pure h
  · exact wpAny_pure h
/- a list's iterator -/
noncomputable def LIt (l : Addr) (xs : List AV) (i : Nat) : MO := .obj (fun F o => (o.cls = .type "list_iterator" ∧ o.data = .fields #[.ref l, .int i 0]) ∧ ∃ vs, IsSq F "list" l vs ∧ Reps F xs vs)
  fun F F' o h q => ⟨q.1, let ⟨vs, a, b⟩ := q.2; ⟨vs, a.mono h, Reps.mono h _ _ b⟩⟩
theorem LIt.open {it l : Addr} {xs : List AV} {i : Nat} (ok : Ok C F s) (h : MOk F s.heap it (LIt l xs i)) : s.heap.IsListIter it l i ∧ ∃ vs, IsSq F "list" l vs ∧ Reps F xs vs ∧ s.heap.IsList l vs.toArray := by
  obtain ⟨o, ho, _, ⟨hc, hd⟩, vs, hq, hr⟩ := h
  exact ⟨⟨o, ho, hc, hd⟩, vs, hq, hr, hq.lst ok⟩
theorem LIt.mk {it l : Addr} {xs : List AV} {vs : List Value} {i : Nat} (h : s.heap.IsListIter it l i) (hq : IsSq F "list" l vs) (hr : Reps F xs vs) : MOk F s.heap it (LIt l xs i) := by
  obtain ⟨o, ho, hc, hd⟩ := h
  exact ⟨o, ho, IsDc.fields hd, ⟨hc, hd⟩, vs, hq, hr⟩
theorem sig1 {it : Addr} {o : MO} (h : MOk F s.heap it o) (hn : F it = none) : SigOk F s [(it, o)] := fun p hp => by
  rw [List.mem_singleton] at hp; subst hp; exact ⟨h, hn⟩
/- a step that writes one object alone, given by its heap -/
theorem Gr.one {l : Addr} (ok : Ok C F s) (hn : F l = none) (hT : l ∉ C.T) {h' : Heap} {n : Nat} (hk : ∀ b o, b ≠ l → s.heap.get? b = some o → h'.get? b = some o) : Gr C (fun a => a ∉ [l]) F s F { s with heap := h', toks := n } :=
  Gr.heap ok (fun b o e q => by rw [List.mem_singleton] at q; subst q; rw [hn] at e; cases e) (fun b hb q => by rw [List.mem_singleton] at q; exact hT (q ▸ hb)) fun b o hb e => hk b o (fun q => hb (by simp [q])) e
theorem Itr.list {A : Around} {tgt : Expr} {it l : Addr} {xs : List AV} (hh : A.handled = none) (hl : it ≠ l) : Itr C A (.ref it) tgt xs (fun i => [(it, LIt l xs i)]) where
  adr := fun _ => rfl
  item := fun i x F s hx ok hs hT => by
    obtain ⟨hm, hn⟩ := hs _ (.head _)
    obtain ⟨hit, vs, hq, hr, hL⟩ := LIt.open ok hm
    obtain ⟨v, e, rv⟩ := hr.get hx
    refine wpAny_pyNext_list_item hit hL (by simpa using e) fun h' hit' hs' => ⟨v, rfl, ?_⟩
    have g : Gr C (fun a => a ∉ [it]) F s F { s with heap := h' } := Gr.one ok hn (hT _ (by simp)) fun b o hb e => hs'.extBut b o hb e
    obtain ⟨o, ho, hc, hd⟩ := id hit'
    exact letGo_list (l := l) (i := i) ho (.inl hc) ⟨F, g, sig1 (LIt.mk hit' hq hr) hn, rv⟩
  done := fun F s ok hs hT => by
    obtain ⟨hm, hn⟩ := hs _ (.head _)
    obtain ⟨hit, vs, hq, hr, hL⟩ := LIt.open ok hm
    refine wpAny_pyNext_list_end hh hit hL (by simp [hr.length]) fun h' he => ⟨rfl, F, Gr.one ok hn (hT _ (by simp)) fun b o hb e => he b o hb e⟩
  self := fun i F s Q E ok hs h => by
    obtain ⟨hm, hn⟩ := hs _ (.head _)
    obtain ⟨hit, _⟩ := LIt.open ok hm
    exact wpAny_pyIter_listiter hit h
theorem Src.list {iter tgt : Expr} {xs : List AV} (hh : fm.A.handled = none) (he : Ev C fm ρ σ iter (.list xs)) : Src C fm ρ σ iter tgt xs := ⟨fun F s X =>
  wpAny_mono (he.h F s X) (fun v s₁ ⟨F₁, g₁, r₁⟩ => by
    obtain ⟨l, vs, rfl, hq, hr⟩ := r₁.olst
    have hL := hq.lst g₁.ok
    have hne : s₁.heap.objs.size ≠ l := by obtain ⟨o, ho, _⟩ := hL; exact Nat.ne_of_gt (Heap.lt_size ho)
    refine wpAny_pyIter_list hL ?_
    have g : Grow C F₁ s₁ F₁ { s₁ with heap := s₁.heap.push { cls := .type "list_iterator", data := .fields #[.ref l, .int 0 0] } } := Grow.heap g₁.ok fun b o e => Heap.get?_push_of_some _ e
    have hdead : s.heap.get? s₁.heap.objs.size = none := by
      cases e : s.heap.get? s₁.heap.objs.size with
      | none => rfl
      | some o => obtain ⟨o', e'⟩ := g₁.live (a := s₁.heap.objs.size) trivial ⟨o, e⟩; rw [dead_top] at e'; cases e'
    exact ⟨F₁, fun i => [(s₁.heap.objs.size, LIt l xs i)], g₁.trans g, Itr.list hh hne, sig1 (LIt.mk ⟨_, Heap.get?_push_size _ rfl, rfl, rfl⟩ hq hr) (g₁.ok.none_of_dead (dead_top _)),
      fun p hp => by rw [List.mem_singleton] at hp; subst hp; exact hdead, by simp⟩) fun _ _ q => q⟩
theorem Gr.dead (g : Gr C All F s F' s') {a : Addr} (h : s'.heap.get? a = none) : s.heap.get? a = none := by
  cases e : s.heap.get? a with
  | none => rfl
  | some o => obtain ⟨o', e'⟩ := g.live (a := a) trivial ⟨o, e⟩; rw [h] at e'; cases e'
/- a tuple's iterator -/
noncomputable def TIt (l : Addr) (xs : List AV) (i : Nat) : MO := .obj (fun F o => (o.cls = .type "tuple_iterator" ∧ o.data = .fields #[.ref l, .int i 0]) ∧ ∃ vs, IsSq F "tuple" l vs ∧ Reps F xs vs)
  fun F F' o h q => ⟨q.1, let ⟨vs, a, b⟩ := q.2; ⟨vs, a.mono h, Reps.mono h _ _ b⟩⟩
theorem TIt.open {it l : Addr} {xs : List AV} {i : Nat} (ok : Ok C F s) (h : MOk F s.heap it (TIt l xs i)) : s.heap.IsTupleIter it l i ∧ ∃ vs, IsSq F "tuple" l vs ∧ Reps F xs vs ∧ s.heap.IsTuple l vs.toArray := by
  obtain ⟨o, ho, _, ⟨hc, hd⟩, vs, hq, hr⟩ := h
  exact ⟨⟨o, ho, hc, hd⟩, vs, hq, hr, hq.tuple ok⟩
theorem TIt.mk {it l : Addr} {xs : List AV} {vs : List Value} {i : Nat} (h : s.heap.IsTupleIter it l i) (hq : IsSq F "tuple" l vs) (hr : Reps F xs vs) : MOk F s.heap it (TIt l xs i) := by
  obtain ⟨o, ho, hc, hd⟩ := h
  exact ⟨o, ho, IsDc.fields hd, ⟨hc, hd⟩, vs, hq, hr⟩
theorem Itr.tuple {A : Around} {tgt : Expr} {it l : Addr} {xs : List AV} (hh : A.handled = none) : Itr C A (.ref it) tgt xs (fun i => [(it, TIt l xs i)]) where
  adr := fun _ => rfl
  item := fun i x F s hx ok hs hT => by
    obtain ⟨hm, hn⟩ := hs _ (.head _)
    obtain ⟨hit, vs, hq, hr, hL⟩ := TIt.open ok hm
    obtain ⟨v, e, rv⟩ := hr.get hx
    refine wpAny_pyNext_tuple_item hit hL (by simpa using e) fun h' hit' hs' => ⟨v, rfl, ?_⟩
    have g : Gr C (fun a => a ∉ [it]) F s F { s with heap := h' } := Gr.one ok hn (hT _ (by simp)) fun b o hb e => hs'.extBut b o hb e
    obtain ⟨o, ho, hc, hd⟩ := id hit'
    exact letGo_list (l := l) (i := i) ho (.inr (.inr (.inl hc))) ⟨F, g, sig1 (TIt.mk hit' hq hr) hn, rv⟩
  done := fun F s ok hs hT => by
    obtain ⟨hm, hn⟩ := hs _ (.head _)
    obtain ⟨hit, vs, hq, hr, hL⟩ := TIt.open ok hm
    refine wpAny_pyNext_tuple_end hh hit hL (by simp [hr.length]) fun h' he => ⟨rfl, F, Gr.one ok hn (hT _ (by simp)) fun b o hb e => he b o hb e⟩
  self := fun i F s Q E ok hs h => by
    obtain ⟨hm, hn⟩ := hs _ (.head _)
    obtain ⟨hit, _⟩ := TIt.open ok hm
    exact wpAny_pyIter_tupleiter hit h
theorem Src.tuple {iter tgt : Expr} {xs : List AV} (hh : fm.A.handled = none) (he : Ev C fm ρ σ iter (.tup xs)) : Src C fm ρ σ iter tgt xs := ⟨fun F s X =>
  wpAny_mono (he.h F s X) (fun v s₁ ⟨F₁, g₁, r₁⟩ => by
    obtain ⟨l, vs, rfl, hq, hr⟩ := r₁.otup
    refine wpAny_pyIter_tuple (hq.tuple g₁.ok) ?_
    have g : Grow C F₁ s₁ F₁ { s₁ with heap := s₁.heap.push { cls := .type "tuple_iterator", data := .fields #[.ref l, .int 0 0] } } := Grow.heap g₁.ok fun b o e => Heap.get?_push_of_some _ e
    exact ⟨F₁, fun i => [(s₁.heap.objs.size, TIt l xs i)], g₁.trans g, Itr.tuple hh, sig1 (TIt.mk ⟨_, Heap.get?_push_size _ rfl, rfl, rfl⟩ hq hr) (g₁.ok.none_of_dead (dead_top _)),
      fun p hp => by rw [List.mem_singleton] at hp; subst hp; exact g₁.dead (dead_top _), by simp⟩) fun _ _ q => q⟩
/- a range's iterator -/
noncomputable def RIt (n : Nat) (i : Nat) : MO := .obj (fun F o => o = { cls := .type "range_iterator", dict := none, data := .fields #[rawInt i, rawInt ((n : Int) - i), rawInt 1], slots := #[] }) fun F F' o h q => q
theorem Itr.range {A : Around} {tgt : Expr} {it : Addr} {n : Nat} (hh : A.handled = none) : Itr C A (.ref it) tgt ((List.range n).map fun i : Nat => AV.int (i : Int)) (fun i => [(it, RIt n i)]) where
  adr := fun _ => rfl
  item := fun i x F s hx ok hs hT => by
    obtain ⟨⟨o, ho, _, rfl⟩, hn⟩ := hs _ (.head _)
    have hi : i < n := by have := (List.getElem?_eq_some_iff.mp hx).1; simpa using this
    have hx' : x = .int i := by simp [hi] at hx; exact hx.symm
    subst hx'
    refine wpAny_pyNext_range_item ho (by first | assumption | decide | omega) fun h' hit' hs' => ⟨_, rfl, ?_⟩
    have g : Gr C (fun a => a ∉ [it]) F s F { s with heap := h', toks := s.toks + 1 } := Gr.one ok hn (hT _ (by simp)) fun b o hb e => hs'.extBut b o hb e
    refine letGo_list (l := 0) (i := i) hit' (.inr (.inl rfl)) ⟨F, g, sig1 ⟨_, hit', (IsDc.fields rfl), ?_⟩ hn, rInt⟩
    simp only [Obj.mk.injEq, true_and, and_true, Data.fields.injEq]
    have e1 : (i : Int) + 1 = ((i + 1 : Nat) : Int) := by omega
    have e2 : (n : Int) - i - 1 = (n : Int) - ((i + 1 : Nat) : Int) := by omega
    rw [e1, e2]
  done := fun F s ok hs hT => by
    obtain ⟨⟨o, ho, _, rfl⟩, hn⟩ := hs _ (.head _)
    refine wpAny_pyNext_range_end hh ho (by simp) fun h' he => ⟨rfl, F, Gr.one ok hn (hT _ (by simp)) fun b o hb e => he b o hb e⟩
  self := fun i F s Q E ok hs h => by
    obtain ⟨⟨o, ho, _, rfl⟩, hn⟩ := hs _ (.head _)
    exact wpAny_pyIter_rangeiter ho h
theorem Src.range {x : Str} {px pos : Pos} {e tgt : Expr} {n : Nat} (hh : fm.A.handled = none) (hf : Ev C fm ρ σ (.Name x px) (.val (.type "range"))) (he : Ev C fm ρ σ e (.int n)) (hz : n ≤ 1000000) (hpl : Plain [e] fm.env := by rfl)
    (hst : starEach [e] fm.env = [(false, eval e fm.env)] := by rfl) :
    Src C fm ρ σ (.Call (.Name x px) [e] [] pos) tgt ((List.range n).map fun i : Nat => AV.int (i : Int)) := ⟨fun F s X => by
  refine evCall X hf (Evs.cons he Evs.nil (by rw [hst]; rfl)) (.inr (.inl ⟨_, rfl⟩)) (fun F₁ s₁ vs g₁ r₁ => ?_) hpl
  obtain ⟨v, r, rfl, rv, rr⟩ := r₁.ocons
  obtain rfl := rr.onil
  obtain ⟨t, rfl⟩ := rv.oint
  refine call_range_1 ?_
  have g2 : Grow C F₁ s₁ F₁ { s₁ with heap := s₁.heap.push { cls := .type "range", data := .fields #[.int 0 s₁.toks, .int n t, .int 1 (s₁.toks + 1)] }, toks := s₁.toks + 1 + 1 } := Grow.heap g₁.ok fun b o e => Heap.get?_push_of_some _ e
  have hsz : Builtin.Range.rangeSize 0 n 1 = n := by simp [Builtin.Range.rangeSize]; omega
  refine wpAny_pyIter_range (Heap.get?_push_size _ rfl) (by
    unfold Builtin.Range.small
    rw [hsz]
    have : ∀ k : Int, 0 ≤ k → k ≤ 2000000 → Builtin.Range.rangeFitsLong k = true := fun k h0 h1 => by simp [Builtin.Range.rangeFitsLong]; omega
    rw [this 0 (by first | assumption | decide | omega) (by first | assumption | decide | omega), this n (by first | assumption | decide | omega) (by first | assumption | decide | omega), this 1 (by first | assumption | decide | omega) (by first | assumption | decide | omega)]
    simp [this (n : Int) (by first | assumption | decide | omega) (by first | assumption | decide | omega)]) ?_
  rw [hsz]
  have g3 := Grow.heap g2.ok (h' := (s₁.heap.push { cls := .type "range", data := .fields #[.int 0 s₁.toks, .int n t, .int 1 (s₁.toks + 1)] }).push { cls := .type "range_iterator", data := .fields #[rawInt 0, rawInt n, rawInt 1] }) (n := s₁.toks + 1 + 1) fun b o e => Heap.get?_push_of_some _ e
  refine ⟨F₁, fun i => [((s₁.heap.push { cls := .type "range", data := .fields #[.int 0 s₁.toks, .int n t, .int 1 (s₁.toks + 1)] }).objs.size, RIt n i)], (g₁.trans g2).trans g3, Itr.range hh, sig1 ⟨_, Heap.get?_push_size _ rfl, (IsDc.fields rfl), ?_⟩ (g2.ok.none_of_dead (dead_top _)),
    fun p hp => ?_, by simp⟩
  · simp
  · rw [List.mem_singleton] at hp; subst hp; exact (g₁.trans g2).dead (dead_top _)⟩
/- a list's iterator backwards -/
noncomputable def VIt (l : Addr) (xs : List AV) (i : Nat) : MO := .obj (fun F o => (o.cls = .type "list_reverseiterator" ∧ o.data = .fields #[.ref l, rawInt ((xs.length : Int) - 1 - i)]) ∧ ∃ vs, IsSq F "list" l vs ∧ Reps F xs vs)
  fun F F' o h q => ⟨q.1, let ⟨vs, a, b⟩ := q.2; ⟨vs, a.mono h, Reps.mono h _ _ b⟩⟩
theorem Itr.rev {A : Around} {tgt : Expr} {it l : Addr} {xs : List AV} (hh : A.handled = none) : Itr C A (.ref it) tgt xs.reverse (fun i => [(it, VIt l xs i)]) where
  adr := fun _ => rfl
  item := fun i x F s hx ok hs hT => by
    obtain ⟨⟨o, ho, hcf, ⟨hc, hd⟩, vs, hq, hr⟩, hn⟩ := hs _ (.head _)
    have hi : i < xs.length := by have := (List.getElem?_eq_some_iff.mp hx).1; simpa using this
    have hx' : xs[xs.length - 1 - i]? = some x := by rwa [List.getElem?_reverse hi] at hx
    obtain ⟨v, e, rv⟩ := hr.get hx'
    have e1 : (xs.length : Int) - 1 - i = ((xs.length - 1 - i : Nat) : Int) := by omega
    have hit : s.heap.IsRevIter it l ((xs.length - 1 - i : Nat) : Int) := ⟨o, ho, hc, by rw [← e1]; exact hd⟩
    refine wpAny_pyNext_rev_item hit (hq.lst ok) (by simpa using e) fun h' hit' hs' => ⟨v, rfl, ?_⟩
    have g : Gr C (fun a => a ∉ [it]) F s F { s with heap := h' } := Gr.one ok hn (hT _ (by simp)) fun b o hb e => hs'.extBut b o hb e
    obtain ⟨o', ho', hc', hd'⟩ := id hit'
    refine letGo_list (l := l) (i := i) ho' (.inr (.inr (.inr hc'))) ⟨F, g, sig1 ⟨o', ho', IsDc.fields hd', ⟨hc', ?_⟩, vs, hq, hr⟩ hn, rv⟩
    rw [hd', ← e1]
    have e2 : (xs.length : Int) - 1 - i - 1 = (xs.length : Int) - 1 - ((i + 1 : Nat) : Int) := by omega
    rw [e2]
  done := fun F s ok hs hT => by
    obtain ⟨⟨o, ho, hcf, ⟨hc, hd⟩, vs, hq, hr⟩, hn⟩ := hs _ (.head _)
    have hit : s.heap.IsRevIter it l (-1) := ⟨o, ho, hc, by rw [hd, List.length_reverse, show (xs.length : Int) - 1 - (xs.length : Nat) = -1 by omega]⟩
    refine wpAny_pyNext_rev_end hh hit fun h' he => ⟨rfl, F, Gr.one ok hn (hT _ (by simp)) fun b o hb e => he b o hb e⟩
  self := fun i F s Q E ok hs h => by
    obtain ⟨⟨o, ho, hcf, ⟨hc, hd⟩, vs, hq, hr⟩, hn⟩ := hs _ (.head _)
    exact wpAny_pyIter_revIter (l := l) (i := (xs.length : Int) - 1 - i) ⟨o, ho, hc, hd⟩ h
theorem Src.rev {x : Str} {px pos : Pos} {e tgt : Expr} {xs : List AV} (hh : fm.A.handled = none) (hf : Ev C fm ρ σ (.Name x px) (.val (.type "reversed"))) (he : Ev C fm ρ σ e (.list xs)) (hpl : Plain [e] fm.env := by rfl)
    (hst : starEach [e] fm.env = [(false, eval e fm.env)] := by rfl) : Src C fm ρ σ (.Call (.Name x px) [e] [] pos) tgt xs.reverse := ⟨fun F s X => by
  refine evCall X hf (Evs.cons he Evs.nil (by rw [hst]; rfl)) (.inr (.inl ⟨_, rfl⟩)) (fun F₁ s₁ vs g₁ r₁ => ?_) hpl
  obtain ⟨v, r, rfl, rv, rr⟩ := r₁.ocons
  obtain rfl := rr.onil
  obtain ⟨l, ws, rfl, hq, hr⟩ := rv.olst
  refine call_reversed_list (hq.lst g₁.ok) ?_
  have g2 := Grow.heap g₁.ok (h' := s₁.heap.push (revObj l ((ws.toArray.size : Int) - 1))) (n := s₁.toks) fun b o e => Heap.get?_push_of_some _ e
  have hit : (s₁.heap.push (revObj l ((ws.toArray.size : Int) - 1))).IsRevIter s₁.heap.objs.size l ((ws.toArray.size : Int) - 1) := ⟨_, Heap.get?_push_size _ rfl, rfl, rfl⟩
  refine wpAny_pyIter_revIter (s := { s₁ with heap := s₁.heap.push (revObj l ((ws.toArray.size : Int) - 1)) }) hit ⟨F₁, fun i => [(s₁.heap.objs.size, VIt l xs i)], g₁.trans g2, Itr.rev hh, sig1 ?_ (g₁.ok.none_of_dead (dead_top _)), fun p hp => ?_, by simp⟩
  · refine ⟨_, Heap.get?_push_size _ rfl, (IsDc.fields rfl), ⟨rfl, ?_⟩, ws, hq, hr⟩
    show Data.fields #[.ref l, rawInt ((ws.toArray.size : Int) - 1)] = Data.fields #[.ref l, rawInt ((xs.length : Int) - 1 - ((0 : Nat) : Int))]
    rw [List.size_toArray, hr.length]; simp
  · rw [List.mem_singleton] at hp; subst hp; exact g₁.dead (dead_top _)⟩
/- enumerate over a list -/
noncomputable def EIt (it : Addr) (i : Nat) : MO := .obj (fun F o => ∃ old, o = { cls := .type "enumerate", dict := none, data := .fields #[.none, .bool false, .ref it, rawInt i, .none, old], slots := #[] }) fun F F' o h q => q
noncomputable def enumOf (xs : List AV) : List AV := xs.zipIdx.map fun p => .tup [.int p.2, p.1]
theorem sig2 {a b : Addr} {o o' : MO} (h : MOk F s.heap a o) (hn : F a = none) (h' : MOk F s.heap b o') (hn' : F b = none) : SigOk F s [(a, o), (b, o')] := fun p hp => by
  simp only [List.mem_cons, List.mem_nil_iff, or_false] at hp
  rcases hp with rfl | rfl
  · exact ⟨h, hn⟩
  · exact ⟨h', hn'⟩
theorem Gr.heapX {X : List Addr} (ok : Ok C F s) (hn : ∀ l ∈ X, F l = none) (hT : ∀ l ∈ X, l ∉ C.T) {h' : Heap} {n : Nat} (hk : ∀ b o, b ∉ X → s.heap.get? b = some o → h'.get? b = some o) : Gr C (fun a => a ∉ X) F s F { s with heap := h', toks := n } :=
  Gr.heap ok (fun b o e q => by rw [hn b q] at e; cases e) (fun b hb q => hT b q hb) fun b o hb e => hk b o hb e
theorem Itr.enum {A : Around} {es : List Expr} {k : Nat} {p : Pos} {e it l : Addr} {xs : List AV} (hh : A.handled = none) (hne : e ≠ it) : Itr C A (.ref e) (.Tuple es k p) (enumOf xs) (fun i => [(e, EIt it i), (it, LIt l xs i)]) where
  adr := fun _ => rfl
  item := fun i x F s hx ok hs hT => by
    obtain ⟨⟨o, ho, _, old, rfl⟩, hn1⟩ := hs _ (.head _)
    obtain ⟨hm, hn2⟩ := hs _ (.tail _ (.head _))
    obtain ⟨hit, vs, hq, hr, hL⟩ := LIt.open ok hm
    have hi : i < xs.length := by have := (List.getElem?_eq_some_iff.mp hx).1; simpa [enumOf] using this
    have hxi : xs[i]? = some xs[i] := by simp
    have hx' : x = .tup [.int i, xs[i]] := by simp [enumOf, hi] at hx; exact hx.symm
    subst hx'
    obtain ⟨v, ev, rv⟩ := hr.get hxi
    refine wpAny_pyNext_enum_item ho hit hL (by simpa using ev) hne fun h' he' hit' hT' hsz hk => ⟨_, rfl, ?_⟩
    refine wpAny_letOwnedTupleGo_enum he' fun h'' he'' hs'' => ?_
    have eS : e ≠ s.heap.objs.size := Nat.ne_of_lt (Heap.lt_size ho)
    have itS : it ≠ s.heap.objs.size := by obtain ⟨o, ho', _⟩ := hit; exact Nat.ne_of_lt (Heap.lt_size ho')
    have g : Gr C (fun a => a ∉ [e, it]) F s F { s with heap := h'', toks := s.toks + 1 } := Gr.heapX ok (fun l hl => by
        simp only [List.mem_cons, List.mem_nil_iff, or_false] at hl; rcases hl with rfl | rfl; exact hn1; exact hn2) (fun l hl => hT l (by simpa using hl)) fun b o hb e => by
        simp only [List.mem_cons, List.mem_nil_iff, or_false, not_or] at hb
        exact hs''.extBut b o hb.1 (hk b o hb.1 hb.2 e)
    have hTup : h''.get? s.heap.objs.size = some { cls := .type "tuple", data := .seq #[.int i s.toks, v] } := hs''.extBut _ _ (Ne.symm eS) hT'
    have hSn : F s.heap.objs.size = none := ok.none_of_dead (dead_top _)
    have g' : Gr C (fun a => a ∉ [e, it]) F s (F.add s.heap.objs.size { cls := .type "tuple", data := .seq #[.int i s.toks, v] }) { s with heap := h'', toks := s.toks + 1 } := by
      have le := Ghost.le_add (o := { cls := .type "tuple", data := .seq #[.int i s.toks, v] }) hSn
      refine ⟨g.ok.add hTup hSn (ok.notT (dead_top _)), le, fun a o e => ?_, g.keep, g.os⟩
      by_cases ha : a = s.heap.objs.size
      · exact .inr (.inl (ha ▸ dead_top _))
      · rw [Ghost.add_ne ha] at e; exact .inl e
    refine ⟨_, g', sig2 ⟨_, he'', (IsDc.fields rfl), v, ?_⟩ (by rw [Ghost.add_ne eS]; exact hn1) (LIt.mk (hit'.extBut hs''.extBut (Ne.symm hne)) (hq.mono g'.le) (Reps.mono g'.le _ _ hr)) (by rw [Ghost.add_ne itS]; exact hn2), ?_⟩
    · have e1 : ((i + 1 : Nat) : Int) = (i : Int) + 1 := by omega
      rw [e1]
    · exact rTup (vs := [.int i s.toks, v]) ⟨_, _, Ghost.add_self _ _ _, rfl, rfl⟩ (rCons rInt (rCons (Rep.mono g'.le _ _ rv) rNil))
  done := fun F s ok hs hT => by
    obtain ⟨⟨o, ho, _, old, rfl⟩, hn1⟩ := hs _ (.head _)
    obtain ⟨hm, hn2⟩ := hs _ (.tail _ (.head _))
    obtain ⟨hit, vs, hq, hr, hL⟩ := LIt.open ok hm
    refine wpAny_pyNext_enum_end hh ho hit hL (by simp [enumOf, hr.length]) fun h' he => ⟨rfl, F, Gr.heapX ok (fun l hl => by
        simp only [List.map_cons, List.map_nil, List.mem_cons, List.mem_nil_iff, or_false] at hl; rcases hl with rfl | rfl; exact hn1; exact hn2) (fun l hl => hT l (by simpa using hl)) fun b o hb e => ?_⟩
    simp only [List.map_cons, List.map_nil, List.mem_cons, List.mem_nil_iff, or_false, not_or] at hb
    exact he b o hb.2 e
  self := fun i F s Q E ok hs h => by
    obtain ⟨⟨o, ho, _, old, rfl⟩, hn1⟩ := hs _ (.head _)
    exact wpAny_pyIter_enum ho h
theorem Src.enum {x : Str} {px pos : Pos} {e : Expr} {es : List Expr} {k : Nat} {p : Pos} {xs : List AV} (hh : fm.A.handled = none) (hf : Ev C fm ρ σ (.Name x px) (.val (.type "enumerate"))) (he : Ev C fm ρ σ e (.list xs)) (hpl : Plain [e] fm.env := by rfl)
    (hst : starEach [e] fm.env = [(false, eval e fm.env)] := by rfl) : Src C fm ρ σ (.Call (.Name x px) [e] [] pos) (.Tuple es k p) (enumOf xs) := ⟨fun F s X => by
  refine evCall X hf (Evs.cons he Evs.nil (by rw [hst]; rfl)) (.inr (.inl ⟨_, rfl⟩)) (fun F₁ s₁ vs g₁ r₁ => ?_) hpl
  obtain ⟨v, r, rfl, rv, rr⟩ := r₁.ocons
  obtain rfl := rr.onil
  obtain ⟨l, ws, rfl, hq, hr⟩ := rv.olst
  refine call_enumerate_list (hq.lst g₁.ok) fun h' he hit hsz hk => ?_
  have g2 : Grow C F₁ s₁ F₁ { s₁ with heap := h' } := Grow.heap g₁.ok hk
  have d1 : s₁.heap.get? (s₁.heap.objs.size + 1) = none := Heap.get?_none_of_le (by first | assumption | decide | omega)
  refine wpAny_pyIter_enum (s := { s₁ with heap := h' }) he ⟨F₁, fun i => [(s₁.heap.objs.size + 1, EIt s₁.heap.objs.size i), (s₁.heap.objs.size, LIt l xs i)], g₁.trans g2, Itr.enum hh (Nat.succ_ne_self _), sig2 ⟨_, he, (IsDc.fields rfl), _, rfl⟩ (g₁.ok.none_of_dead d1) (LIt.mk hit hq hr) (g₁.ok.none_of_dead (dead_top _)), fun p hp => ?_, by simp⟩
  simp only [List.mem_cons, List.mem_nil_iff, or_false] at hp
  rcases hp with rfl | rfl
  · exact g₁.dead d1
  · exact g₁.dead (dead_top _)⟩
end
/- the scope, the frame of a comprehension -/
noncomputable def cscope (env : Env) (scope : Scope) : Scope := { scope with names := scope.names.map fun (n, k) => if k == .free && env.scope.kind == .function && env.kindOf n == some .cell then (n, .cell) else (n, k) }
noncomputable abbrev cenv (env : Env) (scope : Scope) (cl : List (Str × Addr)) (L : Addr) : Env :=
  { scope := cscope env scope, locals := L, globals := env.globals, cells := cl, qual := env.qual, func := none, code := env.code, frame := env.frame, builtins := env.builtins }
noncomputable abbrev cfm (fm : Fm) (scope : Scope) (cl : List (Str × Addr)) (L : Addr) (E : Addr → Prop) : Fm := ⟨fm.A, cenv fm.env scope cl L, E, [], false, fm.I, []⟩
noncomputable def cloOf (env : Env) : List (Str × NameKind) → List (Str × Addr) → List (Str × Addr)
  | [], acc => acc
  | (n, k) :: r, acc => cloOf env r (if k == .free then (n, (env.cells.lookup n).getD 0) :: acc else acc)
theorem closure_loop {env : Env} (f : Str × NameKind → List (Str × Addr) → Sem (ForInStep (List (Str × Addr))))
    (hf : ∀ n k cs, f (n, k) cs = if k == .free then (do let a ← cellOf env n; pure (.yield ((n, a) :: cs))) else pure (.yield cs)) :
    ∀ (names : List (Str × NameKind)) (acc : List (Str × Addr)), (∀ x ∈ names, x.2 = .free → (env.cells.lookup x.1).isSome = true) → forIn names acc f = pure (cloOf env names acc)
  | [], acc, _ => rfl
  | (n, k) :: r, acc, h => by
    rw [List.forIn_cons, hf]
    unfold cloOf
    cases hk : k == .free with
    | true =>
      obtain ⟨c, hc⟩ := Option.isSome_iff_exists.mp (h (n, k) (.head _) (by simpa using hk))
      simp only [if_true, cellOf, hc, pure_bind, Option.getD_some]
      exact closure_loop f hf r _ fun x hx => h x (.tail _ hx)
    | false =>
      simp only [Bool.false_eq_true, if_false, pure_bind]
      exact closure_loop f hf r _ fun x hx => h x (.tail _ hx)
theorem closureFor_eq {env : Env} {scope : Scope} (h : ∀ x ∈ scope.names, x.2 = .free → (env.cells.lookup x.1).isSome = true) : closureFor scope env = pure (cloOf env scope.names []) := by
  simp only [closureFor]
  rw [closure_loop _ (fun n k cs => by cases hk : k == NameKind.free <;> simp [hk]) scope.names [] h]
  rfl
theorem cloOf_mem {env : Env} {x : Str} {c : Addr} : ∀ {names : List (Str × NameKind)} {acc : List (Str × Addr)}, (x, c) ∈ cloOf env names acc → (x, c) ∈ acc ∨ ((x, .free) ∈ names ∧ c = (env.cells.lookup x).getD 0)
  | [], acc, h => .inl h
  | (n, k) :: r, acc, h => by
    unfold cloOf at h
    rcases cloOf_mem h with h | ⟨h, e⟩
    · split at h
      · rename_i hk
        rcases List.mem_cons.mp h with e | h
        · cases e
          refine .inr ⟨?_, rfl⟩
          have : k = .free := by simpa using hk
          subst this; exact .head _
        · exact .inl h
      · exact .inl h
    · exact .inr ⟨.tail _ h, e⟩
theorem cloOf_find {env : Env} {x : Str} : ∀ {names : List (Str × NameKind)} {acc : List (Str × Addr)}, ((x, .free) ∈ names ∨ (acc.lookup x).isSome = true) → ((cloOf env names acc).lookup x).isSome = true
  | [], _, h => h.elim (fun q => nomatch q) id
  | (n, k) :: r, acc, h => by
    unfold cloOf
    refine cloOf_find ?_
    by_cases hxn : x = n
    · subst hxn
      by_cases hk : k = .free
      · subst hk; right; simp
      · have : (k == NameKind.free) = false := by simpa using hk
        rw [this]
        rcases h with h | h
        · rcases List.mem_cons.mp h with e | h
          · cases e; exact absurd rfl hk
          · exact .inl h
        · exact .inr h
    · rcases h with h | h
      · rcases List.mem_cons.mp h with e | h
        · cases e; exact absurd rfl hxn
        · exact .inl h
      · right
        split
        · rw [List.lookup_cons, beq_eq_false_iff_ne.mpr hxn]; exact h
        · exact h
section
variable {C : Cx} {fm : Fm} {ρ ρ' ρc : Rho} {σ σ' : Sig} {F F' F'' : Ghost} {s s' s'' : Shared} {out : Out}
/- two steps, the second of which keeps what stood before the first -/
theorem Gr.comp {E : Addr → Prop} (hE : ∀ b, (∃ o, s.heap.get? b = some o) → E b) (g : Gr C All F s F' s') (g' : Gr C E F' s' F'' s'') : Grow C F s F'' s'' := by
  refine ⟨g'.ok, g.le.trans g'.le, fun b o e => (g'.new b o e).elim (fun e' => g.new b o e') fun q => .inr (.inl ?_), fun b hb hT o e => ((g.keep b hb hT).trans (g'.keep b (hE b ⟨o, e⟩) hT)) o e, g'.os.trans g.os⟩
  cases e' : s.heap.get? b with
  | none => rfl
  | some o' =>
    rcases q with q | q
    · obtain ⟨o2, e2⟩ := g.live (a := b) trivial ⟨o', e'⟩
      rw [q] at e2; cases e2
    · exact absurd (hE b ⟨o', e'⟩) q
/- a comprehension's loop from where it stands -/
structure Co (C : Cx) (fm : Fm) (ρ : Rho) (σ : Sig) (e : Expr) (depth : Nat) (it acc : Value) (σ' : Sig) : Prop where
  of ::
  h : ∀ F s, St C fm ρ σ F s → codeAny C.M fm.A (.compLoop e depth it acc fm.env) (fun r s' => r = .ok .next ∧ ∃ F', Gr C (Kf fm) F s F' s' ∧ St C fm [] σ' F' s') s
/- the tests of a clause -/
structure Ts (C : Cx) (fm : Fm) (ρ : Rho) (σ : Sig) (cs : List Expr) (b : Bool) : Prop where
  of ::
  h : ∀ F s, St C fm ρ σ F s → wpAny C.M fm.A (forIn cs true fun c r => if r = true then do let ok ← isTrue c fm.env (eval c fm.env); pure (ForInStep.yield ok) else pure (ForInStep.yield r))
    (fun ok s' => ok = b ∧ ∃ F', Grow C F s F' s') (fun _ _ => False) s
theorem Ts.nil : Ts C fm ρ σ [] true := ⟨fun F s X => by rw [List.forIn_nil]; exact wpAny_pure ⟨rfl, F, Grow.refl X.ok⟩⟩
theorem Ts.one {c : Expr} {b : Bool} (h : Tr C fm ρ σ c b) : Ts C fm ρ σ [c] b := ⟨fun F s X => by
  rw [List.forIn_cons]
  simp only [if_true]
  refine wpAny_bind (wpAny_bind (wpAny_mono (h.h F s X) (fun v s₁ ⟨e, F₁, g₁⟩ => wpAny_pure ?_) fun _ _ q => q))
  dsimp only
  rw [List.forIn_nil]
  exact wpAny_pure ⟨e, F₁, g₁⟩⟩
/- what a turn does with its items -/
structure Cb (C : Cx) (fm : Fm) (ρ : Rho) (σ : Sig) (t : Sem Unit) (σ' : Sig) : Prop where
  of ::
  h : ∀ F s, St C fm ρ σ F s → wpAny C.M fm.A t (fun _ s' => ∃ F', Gr C (Kf fm) F s F' s' ∧ St C fm ρ σ' F' s') (fun _ _ => False) s
theorem Reps.snoc {y : AV} {v : Value} (hv : Rep F y v) : ∀ {xs : List AV} {ws : List Value}, Reps F xs ws → Reps F (xs ++ [y]) (ws ++ [v]) := by
  intro xs
  induction xs with
  | nil => intro ws h; obtain rfl := h.onil; exact rCons hv rNil
  | cons x xs ih => intro ws h; obtain ⟨w, r, rfl, hw, hr⟩ := h.ocons; exact rCons hw (ih hr)
theorem Cb.emit {elt : Expr} {l : Addr} {ys : List AV} {y : AV} (he : Ev C fm ρ σ elt y) (u : Upd σ l (.lst ys) (.lst (ys ++ [y])) σ') (hz : ys.length ≤ 1000000) :
    Cb C fm ρ σ (do let _ ← call (.builtin "list.append") [.ref l, ← eval elt fm.env]) σ' := ⟨fun F s X => by
  refine wpAny_bind (wpAny_mono (he.h F s X) (fun v s₁ ⟨F₁, g₁, r₁⟩ => ?_) fun _ _ q => q)
  have X₁ := X.grow g₁
  obtain ⟨⟨vs, hp, hr⟩, hn, hT, _⟩ := X₁.mu _ u.mem
  refine wpAny_bind (wpAny_list_append_plain hp (fun h' hp' hs' => ?_) (by rw [List.size_toArray, ← hr.length, sizeLine_eq]; omega))
  have g2 : Gr C (fun b => b ≠ l) F₁ s₁ F₁ { s₁ with heap := h' } := Gr.weak (fun a (h : a ≠ l) (q : a ∈ [l]) => h (List.mem_singleton.mp q)) (Gr.one (l := l) (n := s₁.toks) g₁.ok hn hT fun b o hb e => hs'.extBut b o hb e)
  obtain ⟨X₂, g3⟩ := X₁.upd u g2 ⟨vs ++ [v], by simpa using hp', Reps.snoc r₁ hr⟩ hn
  exact wpAny_pure ⟨F₁, g₁.any.trans g3, X₂⟩⟩
/- a comprehension over one source: the tree of a turn -/
theorem Co.done {elt tgt iter : Expr} {ifs : List Expr} {scope : Scope} {pos : Pos} {it acc : Value} {vs : List AV} {τ : Nat → Sig} (I : Itr C fm.A it tgt vs τ) (hE : ∀ p ∈ τ vs.length, ¬ fm.E p.1) :
    Co C fm ρ (τ vs.length ++ σ) (.ListComp elt [⟨tgt, iter, ifs, 0⟩] scope pos) 0 it acc σ := ⟨fun F s X => by
  refine codeAny_of_tree ?_
  show wpAny _ fm.A ((compTurn (.ListComp elt [⟨tgt, iter, ifs, 0⟩] scope pos) 0 it acc fm.env).onRaise (fun x => do noteFrame x fm.env; theTreesLotGoes x)) _ _ s
  refine wpAny_noted ?_
  rw [compTurn_list]
  have hT : ∀ a ∈ (τ 0).map (·.1), a ∉ C.T := fun a ha => by
    rw [← I.adr vs.length] at ha
    obtain ⟨p, hp, rfl⟩ := List.mem_map.mp ha
    exact (X.mu p (List.mem_append_left _ hp)).2.2.1
  refine wpAny_bind (wpAny_standAt (wpAny_bind (wpAny_mono (I.done F s X.ok X.sigOk hT) (fun r s₁ ⟨e, F₁, g₁⟩ => ?_) fun _ _ q => q.elim)))
  subst e
  obtain ⟨X₁, g₁'⟩ := X.leave (F' := F₁) (s' := s₁) (by rw [I.adr]; exact g₁) hE
  exact wpAny_pure ⟨rfl, F₁, g₁', X₁.sub Sub.nil⟩⟩
theorem Co.turn {elt tgt iter : Expr} {ifs : List Expr} {scope : Scope} {pos : Pos} {it acc : Value} {vs : List AV} {τ : Nat → Sig} {i : Nat} {x : AV} {bd : Rho} {b : Bool} {σ₁ : Sig} (I : Itr C fm.A it tgt vs τ) (hx : vs[i]? = some x) (ha : As C fm tgt x bd)
    (ht : Ts C fm (bd ++ ρ) (τ (i + 1) ++ σ) ifs b) (hb : b = true → Cb C fm (bd ++ ρ) (τ (i + 1) ++ σ) (do let _ ← call (.builtin "list.append") [acc, ← eval elt fm.env]) σ₁) (hn : b = false → σ₁ = τ (i + 1) ++ σ)
    (hr : Co C fm (bd ++ ρ) σ₁ (.ListComp elt [⟨tgt, iter, ifs, 0⟩] scope pos) 0 it acc σ') :
    Co C fm ρ (τ i ++ σ) (.ListComp elt [⟨tgt, iter, ifs, 0⟩] scope pos) 0 it acc σ' := ⟨fun F s X => by
  refine codeAny_of_tree ?_
  show wpAny _ fm.A ((compTurn (.ListComp elt [⟨tgt, iter, ifs, 0⟩] scope pos) 0 it acc fm.env).onRaise (fun x => do noteFrame x fm.env; theTreesLotGoes x)) _ _ s
  refine wpAny_noted ?_
  rw [compTurn_list]
  have hT : ∀ a ∈ (τ 0).map (·.1), a ∉ C.T := fun a ha => by
    rw [← I.adr i] at ha
    obtain ⟨p, hp, rfl⟩ := List.mem_map.mp ha
    exact (X.mu p (List.mem_append_left _ hp)).2.2.1
  refine wpAny_bind (wpAny_standAt (wpAny_bind (wpAny_mono (I.item i x F s hx X.ok X.sigOk hT) (fun r s₁ ⟨v, e, hw⟩ => ?_) fun _ _ q => q.elim)))
  subst e
  dsimp only
  refine wpAny_bind (wpAny_mono hw (fun _ s₂ ⟨F₂, g₂, hs₂, r₂⟩ => ?_) fun _ _ q => q.elim)
  obtain ⟨X₂, g₂'⟩ := X.step (τ' := τ (i + 1)) (F' := F₂) (s' := s₂) (by rw [I.adr i]; exact g₂) (by rw [I.adr, I.adr i]) hs₂
  refine wpAny_bind (wpAny_mono (ha.h ρ _ F₂ s₂ v X₂ r₂) (fun _ s₃ ⟨F₃, g₃, X₃⟩ => ?_) fun _ _ q => q.elim)
  refine wpAny_bind (wpAny_mono (ht.h F₃ s₃ X₃) (fun ok s₄ ⟨e, F₄, g₄⟩ => ?_) fun _ _ q => q.elim)
  subst e
  have X₄ := X₃.grow g₄
  have g14 := (g₂'.trans g₃).trans g₄.any
  have fin : ∀ F₅ s₅, Gr C (Kf fm) F s F₅ s₅ → St C fm (bd ++ ρ) σ₁ F₅ s₅ → wpAny C.M fm.A (again (.compLoop (.ListComp elt [⟨tgt, iter, ifs, 0⟩] scope pos) 0 it acc fm.env) : Sem Fin)
      (fun fin s' => match fin with | .done f => (Except.ok f : Result) = .ok .next ∧ ∃ F', Gr C (Kf fm) F s F' s' ∧ St C fm [] σ' F' s' | .again c' => c'.quiet = true ∧ codeAny C.M fm.A c' (fun r s' => r = .ok .next ∧ ∃ F', Gr C (Kf fm) F s F' s' ∧ St C fm [] σ' F' s') s')
      (notedBy C.M fm.A fm.env fun e s' => (Except.error e : Result) = .ok .next ∧ ∃ F', Gr C (Kf fm) F s F' s' ∧ St C fm [] σ' F' s') s₅ := fun F₅ s₅ g₅ X₅ =>
    wpAny_pure ⟨rfl, codeAny_mono (hr.h F₅ s₅ X₅) fun r s' ⟨e, F', g', X'⟩ => ⟨e, F', g₅.trans g', X'⟩⟩
  cases ok with
  | false =>
    simp only [Bool.false_eq_true, if_false]
    obtain rfl := hn rfl
    refine wpAny_bind (wpAny_pure ?_)
    exact fin F₄ s₄ g14 X₄
  | true =>
    simp only [if_true]
    exact wpAny_bind (wpAny_mono ((hb rfl).h F₄ s₄ X₄) (fun _ s₅ ⟨F₅, g₅, X₅⟩ => fin F₅ s₅ (g14.trans g₅) X₅) fun _ _ q => q.elim)⟩
/- names that a comprehension takes from its frame -/
noncomputable def Cap (scope : Scope) (ρc ρ : Rho) : Prop := ∀ x a, ρc.lookup x = some a → ρ.lookup x = some a ∧ (x, .free) ∈ scope.names
/- the comprehension's own frame stands -/
theorem St.comp {scope : Scope} {L : Addr} {cl : List (Str × Addr)} {E : Addr → Prop} {s₁ : Shared} {F₁ : Ghost} {τ : Sig} {h' : Heap} {n : Nat} (X : St C fm ρ σ F s) (g : Grow C F s F₁ s₁) (hcl : cl = cloOf fm.env scope.names [])
    (hkf : ∀ x, (x, NameKind.free) ∈ scope.names → fm.env.kindOf x = some .cell ∨ fm.env.kindOf x = some .free) (hks : scope.kind = .function) (hcap : Cap scope ρc ρ)
    (hkc : ∀ x a, ρc.lookup x = some a → (cscope fm.env scope).names.lookup x = some .cell ∨ (cscope fm.env scope).names.lookup x = some .free)
    (hfree : ∀ x, (x, NameKind.free) ∈ scope.names → ∃ a, ρ.lookup x = some a)
    (hE : ∀ b, E b ↔ ∃ o, s.heap.get? b = some o) (hL : L = s₁.heap.objs.size) (hns : h'.Ns L fun _ => none) (hk : ∀ b o, s₁.heap.get? b = some o → h'.get? b = some o)
    (hτ : SigOk F₁ s₁ τ) (hτf : ∀ p ∈ τ, s.heap.get? p.1 = none) (hτn : (τ.map (·.1)).Nodup) :
    St C (cfm fm scope cl L E) ρc τ F₁ { s₁ with heap := h', toks := n } := by
  have g2 : Grow C F₁ s₁ F₁ { s₁ with heap := h', toks := n } := Grow.heap g.ok hk
  have X₁ := X.grow g
  have cells : ∀ x c, cl.lookup x = some c → fm.env.cells.lookup x = some c ∧ (x, NameKind.free) ∈ scope.names := fun x c e => by
    subst hcl
    rcases cloOf_mem (mem_of_lookup e) with q | ⟨q, e2⟩
    · cases q
    · obtain ⟨a, ha⟩ := hfree x q
      obtain ⟨c', v, e3, _⟩ := X.cel x a ha (hkf x q)
      rw [e2, e3]; exact ⟨rfl, q⟩
  have fresh : ∀ a, E a → a ≠ L := fun a ha q => by
    obtain ⟨o, e⟩ := (hE a).mp ha
    obtain ⟨o', e'⟩ := g.live (a := a) trivial ⟨o, e⟩
    rw [q, hL, dead_top] at e'; cases e'
  refine { ok := g2.ok, kind := hks, glb := X.glb, blt := X.blt, loc := ⟨_, hns, fun x a e hk' => ?_⟩, locF := by show F₁ L = none; rw [hL]; exact g.ok.none_of_dead (dead_top _), locT := by show L ∉ C.T; rw [hL]; exact g.ok.notT (dead_top _), locB := fun q => fresh _ q rfl, base := fun a ha => (g.trans g2).live trivial ((hE a).mp ha), cel := fun x a e hk' => ?_, own := fun q => (nomatch q), apart := fun x y c e1 e2 => X.apart x y c (cells x c e1).1 (cells y c e2).1, cne := fun x c e => ?_, mu := fun p hp => ?_, mud := hτn, inv := X₁.inv, imo := X.imo, fr := fun L hL => (nomatch hL) }
  · have := hkc x a e
    have hk'' : (cscope fm.env scope).names.lookup x = some .local := hk'
    rw [hk''] at this
    rcases this with q | q <;> cases q
  · obtain ⟨e1, hm⟩ := hcap x a e
    obtain ⟨c, v, e2, hc, r⟩ := X₁.cel x a e1 (hkf x hm)
    obtain ⟨c', e3⟩ := Option.isSome_iff_exists.mp (cloOf_find (env := fm.env) (names := scope.names) (acc := []) (.inl hm))
    rw [← hcl] at e3
    have e4 := (cells x c' e3).1
    rw [e2] at e4; cases e4
    exact ⟨c, v, e3, hc.keeps hk, r⟩
  · have e1 := (cells x c e).1
    obtain ⟨o, ho⟩ := (X₁.cne x c e1).2.2
    exact ⟨fun q => (by have q' : c = L := q; rw [q', hL, dead_top] at ho; cases ho), (X₁.cne x c e1).2.1, ⟨o, hk _ _ ho⟩⟩
  · have hl := (hτ p hp).1.live
    refine ⟨(hτ p hp).1.gr g2 trivial (X.ok.notT (hτf p hp)), (hτ p hp).2, X.ok.notT (hτf p hp), fun q => ?_, fun x c e q => ?_, .inl fun q => ?_⟩
    · obtain ⟨o, ho⟩ := hl
      have q' : p.1 = L := q
      rw [q', hL, dead_top] at ho; cases ho
    · obtain ⟨o, ho⟩ := (X.cne x c (cells x c e).1).2.2
      rw [← q, hτf p hp] at ho; cases ho
    · obtain ⟨o, ho⟩ := (hE _).mp q
      rw [hτf p hp] at ho; cases ho
theorem Co.sub {e depth it acc} (h : Co C fm ρ' σ e depth it acc σ') (hs : Sub ρ' ρ) : Co C fm ρ σ e depth it acc σ' := ⟨fun F s X => h.h F s (X.sub hs)⟩
/- what is wanted behind a comprehension's loop -/
noncomputable def CompEnd (C : Cx) (A : Around) (use : Option (Value → Sem Unit)) (L : Addr) (v : Value) (Q : Value → Shared → Prop) (E : Value → Shared → Prop) (s' : Shared) : Prop :=
  match use with
  | none => ∃ m, s'.heap.Ns L m ∧ ∀ h', Heap.SameBut L s'.heap h' → Q v { s' with heap := h' }
  | some u => wpAny C.M A (u v) (fun _ s'' => ∃ m, s''.heap.Ns L m ∧ ∀ h', Heap.SameBut L s''.heap h' → Q .none { s'' with heap := h' }) E s'
/- a comprehension: its source, its loop, what it leaves -/
theorem comp_tree {e : Expr} {scope : Scope} {env : Env} {pos : Pos} {first : Sem Value} {g : Comprehension} {gs : List Comprehension} {A : Around} {cl : List (Str × Addr)} {use : Option (Value → Sem Unit)} {Q : Value → Shared → Prop} {E : Value → Shared → Prop}
    (hcl : clausesOf e = g :: gs) (hs : ∀ x, foldedSetIterable g.iter env x = pure x) (hclo : closureFor scope env = pure cl) (hkind : scope.kind = .function)
    (hnames : ∀ x ∈ scope.names, x.2 = .local → (cscope env scope).names.lookup x.1 = some .local)
    (h : wpAny C.M A first (fun x s₁ => wpAny C.M A (pyIter x) (fun it s₂ => wpAny C.M A (newList []) (fun acc s₃ =>
      wpAny C.M A (newFunctionEnv scope env.globals cl [] env.qual none .none (some env)) (fun c₀ s₄ =>
        codeAny C.M A (.compStart e 0 it acc { c₀ with scope := cscope env scope }) (fun r s' => (∃ f, r = .ok f) ∧ CompEnd C A use c₀.locals acc Q E s') s₄) E s₃) E s₂) E s₁) E s) :
    wpAny C.M A (comprehension e scope env pos (newList []) false first use) Q E s := by
  unfold comprehension
  rw [hclo, hcl]
  refine wpAny_bind (wpAny_mono h (fun x s₁ h₁ => wpAny_bind (wpAny_standAt (wpAny_bind (wpAny_of_eq (hs x) (wpAny_bind (wpAny_holding (wpAny_mono h₁ (fun it s₂ h₂ =>
    wpAny_standIf (wpAny_bind (wpAny_mono h₂ (fun acc s₃ h₃ => wpAny_bind (wpAny_pure (wpAny_bind (wpAny_mono h₃ (fun cenv s₄ h₄ => ?_) fun _ _ h' => h')))) fun _ _ h' => h')))
      fun _ _ h' => h'))))))) fun _ _ h' => h')
  dsimp only
  have hv : ∀ x ∈ (scope.names.filter fun x => (x.2 == .local || x.2 == .cell) && x.1 != (".0" : Str)).reverse, x.2 = .local →
      Env.kindOf { cenv with scope := cscope env scope } x.1 = some .local := fun x hx hl => hnames x (List.mem_filter.mp (List.mem_reverse.mp hx)).1 hl
  have hv' : ∀ x ∈ (scope.names.filter fun x => (x.2 == .local || x.2 == .cell) && x.1 != (".0" : Str)).reverse.drop 1 ++ (scope.names.filter fun x => (x.2 == .local || x.2 == .cell) && x.1 != (".0" : Str)).reverse.take 1,
      x.2 = .local → Env.kindOf { cenv with scope := cscope env scope } x.1 = some .local := fun x hx hl => by
    rcases List.mem_append.mp hx with h1 | h1
    · exact hv x (List.mem_of_mem_drop h1) hl
    · exact hv x (List.mem_of_mem_take h1) hl
  refine wpAny_holding (wpAny_bind (wpAny_attempt (wpAny_holding (wpAny_run (codeAny_mono h₄ fun r s' hr => ?_)))))
  obtain ⟨⟨f, rfl⟩, hr⟩ := hr
  cases use with
  | none =>
    obtain ⟨m, hn, hr⟩ := hr
    exact wpAny_bind (wpAny_holding (wpAny_comp_letGo (cenv := { cenv with scope := cscope env scope }) hkind _ s' m hv hn fun h' m' _ hs' => wpAny_pure (hr h' hs')))
  | some u =>
    refine wpAny_bind (wpAny_rule (wpAny_bind (wpAny_holding (wpAny_mono hr (fun _ s'' hr' => ?_) fun _ _ h' => h'))))
    obtain ⟨m, hn, hr'⟩ := hr'
    exact wpAny_bind (wpAny_comp_letGo (cenv := { cenv with scope := cscope env scope }) hkind _ s'' m hv' hn fun h' m' _ hs' => wpAny_pure (hr' h' hs'))
/- what a comprehension's scope must be -/
structure CScope (fm : Fm) (scope : Scope) (ρc ρ : Rho) : Prop where
  kind : scope.kind = .function
  nocell : ∀ x ∈ scope.names, x.2 ≠ .cell
  locs : ∀ x ∈ scope.names, x.2 = .local → (cscope fm.env scope).names.lookup x.1 = some .local
  frees : ∀ x ∈ scope.names, x.2 = .free → (ρ.lookup x.1).isSome = true ∧ (fm.env.kindOf x.1 = some .cell ∨ fm.env.kindOf x.1 = some .free)
  cap : Cap scope ρc ρ
  capk : ∀ x a, ρc.lookup x = some a → (cscope fm.env scope).names.lookup x = some .cell ∨ (cscope fm.env scope).names.lookup x = some .free
theorem comp_run {elt tgt iter : Expr} {ifs : List Expr} {rest : List Comprehension} {scope : Scope} {pos : Pos} {vs ys : List AV} (hs : Src C fm ρ σ iter tgt vs) (S : CScope fm scope ρc ρ)
    (hf : ∀ x, foldedSetIterable iter fm.env x = pure x)
    (h : ∀ L cl E it acc τ, Itr C fm.A it tgt vs τ → (∀ i, ∀ p ∈ τ i, ¬ E p.1) → Co C (cfm fm scope cl L E) ρc (τ 0 ++ [(acc, .lst [])]) (.ListComp elt (⟨tgt, iter, ifs, 0⟩ :: rest) scope pos) 0 it (.ref acc) [(acc, .lst ys)])
    {use : Option (Value → Sem Unit)} {Q : Value → Shared → Prop} (X : St C fm ρ σ F s)
    (hQ : ∀ L F' s' v, Grow C F s F' s' → Rep F' (.list ys) v → s.heap.get? L = none → F' L = none → (∃ m, s'.heap.Ns L m) → CompEnd C fm.A use L v Q (fun _ _ => False) s') :
    wpAny C.M fm.A (comprehension (.ListComp elt (⟨tgt, iter, ifs, 0⟩ :: rest) scope pos) scope fm.env (firstIterPos (⟨tgt, iter, ifs, 0⟩ :: rest) pos) (newList []) false (eval iter fm.env) use) Q (fun _ _ => False) s := by
  have hfree : ∀ x, (x, NameKind.free) ∈ scope.names → ∃ a, ρ.lookup x = some a := fun x hx => Option.isSome_iff_exists.mp (S.frees _ hx rfl).1
  have hkf : ∀ x, (x, NameKind.free) ∈ scope.names → fm.env.kindOf x = some .cell ∨ fm.env.kindOf x = some .free := fun x hx => (S.frees _ hx rfl).2
  have hclo : closureFor scope fm.env = pure (cloOf fm.env scope.names []) := closureFor_eq fun x hx hk => by
    obtain ⟨n, k⟩ := x
    have hk' : k = .free := hk
    subst hk'
    obtain ⟨a, ha⟩ := hfree n hx
    obtain ⟨c, v, e, _⟩ := X.cel n a ha (hkf n hx)
    rw [e]; rfl
  refine comp_tree rfl hf hclo S.kind S.locs (wpAny_mono (hs.h F s X) (fun x s₁ h₁ => wpAny_mono h₁ (fun it s₂ ⟨F₂, τ, g₂, I, hτ, hτf, hτn⟩ => ?_) fun _ _ q => q) fun _ _ q => q)
  refine wpAny_newObj_type ?_ (by size_fits)
  refine wpAny_newFunctionEnv S.nocell (by intro y hy; simp at hy) (fun h₃ hns₃ hsb₃ => ?_) S.kind
  dsimp only at hns₃ hsb₃ ⊢
  -- the new list
  have gl : Grow C F₂ s₂ F₂ { s₂ with heap := s₂.heap.push { cls := .type "list", data := .seq ([] : List Value).toArray } } := Grow.heap g₂.ok fun b o e => Heap.get?_push_of_some _ e
  have hacc : s.heap.get? s₂.heap.objs.size = none := g₂.dead (dead_top _)
  have hτ' : SigOk F₂ { s₂ with heap := s₂.heap.push { cls := .type "list", data := .seq ([] : List Value).toArray } } (τ 0 ++ [(s₂.heap.objs.size, .lst [])]) := fun p hp => by
    rcases List.mem_append.mp hp with hp | hp
    · exact ⟨(hτ p hp).1.gr gl trivial (X.ok.notT (hτf p hp)), (hτ p hp).2⟩
    · rw [List.mem_singleton] at hp; subst hp
      exact ⟨⟨[], ⟨0, Heap.get?_push_size _ rfl⟩, rNil⟩, g₂.ok.none_of_dead (dead_top _)⟩
  have hk₃ : ∀ b o, (s₂.heap.push { cls := .type "list", data := .seq ([] : List Value).toArray }).get? b = some o → h₃.get? b = some o := fun b o e =>
    hsb₃.extBut b o (Nat.ne_of_lt (Heap.lt_size e)) (Heap.get?_push_of_some _ e)
  have X₃ := X.comp (ρc := ρc) (E := fun b => ∃ o, s.heap.get? b = some o) (n := s₂.toks + ([] : List (Str × Value)).length) (g₂.trans gl) rfl hkf S.kind S.cap S.capk hfree (fun _ => Iff.rfl) rfl hns₃ hk₃ hτ' (fun p hp => by
      rcases List.mem_append.mp hp with hp | hp
      · exact hτf p hp
      · rw [List.mem_singleton] at hp; subst hp; exact hacc) (by
      rw [List.map_append, List.nodup_append]
      refine ⟨hτn, by simp, fun a ha b hb q => ?_⟩
      obtain ⟨p, hp, rfl⟩ := List.mem_map.mp ha
      simp at hb; subst hb
      obtain ⟨o, e⟩ := (hτ p hp).1.live
      rw [q, dead_top] at e; cases e)
  have hEτ : ∀ i, ∀ p ∈ τ i, ¬ ∃ o, s.heap.get? p.1 = some o := fun i p hp ⟨o, e⟩ => by
    have : p.1 ∈ (τ 0).map (·.1) := by rw [← I.adr i]; exact List.mem_map_of_mem (f := (·.1)) hp
    obtain ⟨r, hr, e'⟩ := List.mem_map.mp this
    rw [← e', hτf r hr] at e; cases e
  have loop := (h _ (cloOf fm.env scope.names []) _ it s₂.heap.objs.size τ I hEτ).h F₂ _ X₃
  have g₃ : Grow C F₂ s₂ F₂ { s₂ with heap := h₃, toks := s₂.toks + ([] : List (Str × Value)).length } := Grow.heap g₂.ok fun b o e => hk₃ b o (Heap.get?_push_of_some _ e)
  have fin : codeAny C.M fm.A (.compLoop (.ListComp elt (⟨tgt, iter, ifs, 0⟩ :: rest) scope pos) 0 it (.ref s₂.heap.objs.size) (cenv fm.env scope (cloOf fm.env scope.names []) (s₂.heap.push { cls := .type "list", data := .seq ([] : List Value).toArray }).objs.size))
      (fun r s' => (∃ f, r = .ok f) ∧ CompEnd C fm.A use (s₂.heap.push { cls := .type "list", data := .seq ([] : List Value).toArray }).objs.size (.ref s₂.heap.objs.size) Q (fun _ _ => False) s')
      { s₂ with heap := h₃, toks := s₂.toks + ([] : List (Str × Value)).length } := by
    refine codeAny_mono loop fun r s' ⟨hr, F', g', X'⟩ => ⟨⟨_, hr⟩, ?_⟩
    have gAll : Grow C F s F' s' := Gr.comp (E := fun b => ∃ o, s.heap.get? b = some o) (fun _ q => q) (g₂.trans g₃) (Gr.weak (fun b hb => ⟨hb, fun q => (nomatch q)⟩) g')
    obtain ⟨m', hns', _⟩ := X'.loc
    obtain ⟨⟨ws, ⟨k, hl⟩, hr⟩, hn, hT, hneL, _⟩ := X'.mu _ (.head _)
    have gF : Gr C All F s (F'.add s₂.heap.objs.size { cls := .type "list", data := .seq ws.toArray k }) s' := by
      refine ⟨gAll.ok.add hl hn hT, gAll.le.trans (Ghost.le_add hn), fun a o e => ?_, gAll.keep, gAll.os⟩
      by_cases ha : a = s₂.heap.objs.size
      · exact .inr (.inl (ha ▸ hacc))
      · rw [Ghost.add_ne ha] at e; exact gAll.new a o e
    have hLne : (s₂.heap.push { cls := .type "list", data := .seq ([] : List Value).toArray }).objs.size ≠ s₂.heap.objs.size := by rw [Heap.size_push]; exact Nat.succ_ne_self _
    have hLd : s.heap.get? (s₂.heap.push { cls := .type "list", data := .seq ([] : List Value).toArray }).objs.size = none := g₂.dead (Heap.get?_none_of_le (by rw [Heap.size_push]; omega))
    exact hQ (s₂.heap.push { cls := .type "list", data := .seq ([] : List Value).toArray }).objs.size _ s' (.ref s₂.heap.objs.size) gF (rLst ⟨_, _, Ghost.add_self _ _ _, rfl, rfl⟩ (Reps.mono (Ghost.le_add hn) _ _ hr)) hLd
      (by rw [Ghost.add_ne hLne]; exact X'.locF) ⟨m', hns'⟩
  exact codeAny_compStart_list fin (I.self 0 F₂ _ _ _ g₃.ok (fun p hp => ⟨(hτ p hp).1.gr g₃ trivial (X.ok.notT (hτf p hp)), (hτ p hp).2⟩) fin)
/- an object that is none of the frame's is written -/
theorem St.other {L : Addr} {h' : Heap} (X : St C fm ρ σ F s) (hs : Heap.SameBut L s.heap h') (hF : F L = none) (hT : L ∉ C.T) (h1 : L ≠ fm.env.locals) (h2 : ∀ x c, fm.env.cells.lookup x = some c → L ≠ c) (h3 : ∀ p ∈ σ, L ≠ p.1) (h4 : ¬ fm.E L) :
    St C fm ρ σ F { s with heap := h' } ∧ Gr C (Kf fm) F s F { s with heap := h' } := by
  have g : Gr C (fun b => b ≠ L) F s F { s with heap := h' } :=
    Gr.heap X.ok (fun b o e (q : b = L) => by rw [q, hF] at e; cases e) (fun b hb (q : b = L) => hT (q ▸ hb)) (fun b o hb e => (hs.2 b hb).trans e)
  obtain ⟨m, hns, hm⟩ := X.loc
  refine ⟨{ X with ok := g.ok, loc := ⟨m, (g.keep _ h1.symm X.locT).ns hns, hm⟩, base := fun a ha => g.live (fun (q : a = L) => h4 (q ▸ ha)) (X.base a ha), cel := fun y b e hk' => ?_, cne := fun y c e => ⟨(X.cne y c e).1, (X.cne y c e).2.1, g.live (h2 y c e).symm (X.cne y c e).2.2⟩, own := fun hcl y hk' => ?_, mu := fun p hp => ?_, fr := fun M hM => let ⟨k1, k2, k3⟩ := X.fr M hM; ⟨k1, k2, k3.gr g fun (q : M = L) => h4 (q ▸ k1)⟩ }, Gr.weak (fun a ha (q : a = L) => h4 (q ▸ ha.1)) g⟩
  · obtain ⟨c, w, e1, ho, r1⟩ := X.cel y b e hk'
    exact ⟨c, w, e1, (g.keep _ (h2 y c e1).symm (X.cne y c e1).2.1).cell ho, r1⟩
  · obtain ⟨c, w, e1, ho, r1⟩ := X.own hcl y hk'
    exact ⟨c, w, e1, (g.keep _ (h2 y c e1).symm (X.cne y c e1).2.1).cell ho, r1⟩
  · obtain ⟨m1, m2, m3, m4⟩ := X.mu p hp
    exact ⟨m1.gr g (h3 p hp).symm m3, m2, m3, m4⟩
theorem St.apartDead (X : St C fm ρ σ F s) {L : Addr} (hd : s.heap.get? L = none) : L ∉ C.T ∧ L ≠ fm.env.locals ∧ (∀ x c, fm.env.cells.lookup x = some c → L ≠ c) ∧ (∀ p ∈ σ, L ≠ p.1) ∧ ¬ fm.E L := by
  have ne : ∀ {a}, (∃ o, s.heap.get? a = some o) → L ≠ a := fun ⟨o, e⟩ q => by rw [← q, hd] at e; cases e
  obtain ⟨m, hns, _⟩ := X.loc
  exact ⟨X.ok.notT hd, ne (nsLive hns), fun x c e => ne (X.cne x c e).2.2, fun p hp => ne (X.mu p hp).1.live, fun q => ne (X.base _ q) rfl⟩
theorem Ev.comp {elt tgt iter : Expr} {ifs : List Expr} {rest : List Comprehension} {scope : Scope} {pos : Pos} {vs ys : List AV} (hs : Src C fm ρ σ iter tgt vs) (S : CScope fm scope ρc ρ)
    (h : ∀ L cl E it acc τ, Itr C fm.A it tgt vs τ → (∀ i, ∀ p ∈ τ i, ¬ E p.1) → Co C (cfm fm scope cl L E) ρc (τ 0 ++ [(acc, .lst [])]) (.ListComp elt (⟨tgt, iter, ifs, 0⟩ :: rest) scope pos) 0 it (.ref acc) [(acc, .lst ys)])
    (hf : ∀ x, foldedSetIterable iter fm.env x = pure x := by intro _; rfl) : Ev C fm ρ σ (.ListComp elt (⟨tgt, iter, ifs, 0⟩ :: rest) scope pos) (.list ys) := ⟨fun F s X => by
  rw [eval_ListComp]
  refine comp_run (use := none) hs S hf h X fun L F' s' v g r hd hF hns => ?_
  obtain ⟨m, hns⟩ := hns
  refine ⟨m, hns, fun h' hs' => ⟨F', ?_, r⟩⟩
  have hT : L ∉ C.T := X.ok.notT hd
  have g2 : Gr C (fun b => b ≠ L) F' s' F' { s' with heap := h' } :=
    Gr.heap g.ok (fun b o e (q : b = L) => by rw [q, hF] at e; cases e) (fun b hb (q : b = L) => hT (q ▸ hb)) (fun b o hb e => (hs'.2 b hb).trans e)
  exact Gr.comp (E := fun b => b ≠ L) (fun b ⟨o, e⟩ q => by rw [q, hd] at e; cases e) g g2⟩
theorem Es.asgComp {x : Str} {px : Pos} {elt tgt iter : Expr} {ifs : List Expr} {rest : List Comprehension} {scope : Scope} {pos p : Pos} {vs ys : List AV} (hs : Src C fm ρ σ iter tgt vs) (S : CScope fm scope ρc ρ)
    (h : ∀ L cl E it acc τ, Itr C fm.A it tgt vs τ → (∀ i, ∀ p ∈ τ i, ¬ E p.1) → Co C (cfm fm scope cl L E) ρc (τ 0 ++ [(acc, .lst [])]) (.ListComp elt (⟨tgt, iter, ifs, 0⟩ :: rest) scope p) 0 it (.ref acc) [(acc, .lst ys)])
    (hk : Sto fm x) (hsw : swapsWith (.ListComp elt (⟨tgt, iter, ifs, 0⟩ :: rest) scope p) (some (.Name x px)) pos.line fm.env = pure true := by rfl)
    (hf : ∀ x, foldedSetIterable iter fm.env x = pure x := by intro _; rfl) : Es C fm ρ σ (.Assign [.Name x px] (.ListComp elt (⟨tgt, iter, ifs, 0⟩ :: rest) scope p) pos) (.nxt ((x, .list ys) :: ρ) σ) := ⟨fun F s X => by
  rw [exec_Assign_Name_used x px _ pos hsw]
  refine wpAny_bind (wpAny_standAt (wpAny_bind ?_))
  show wpAny C.M fm.A (comprehension (.ListComp elt (⟨tgt, iter, ifs, 0⟩ :: rest) scope p) scope fm.env (firstIterPos (⟨tgt, iter, ifs, 0⟩ :: rest) p) (newList []) false (eval iter fm.env) (some (assign (.Name x px) fm.env)) >>= fun _ => pure ()) _ _ s
  refine wpAny_bind (wpAny_mono (comp_run (use := some (assign (.Name x px) fm.env)) (Q := fun _ s' => OutQ C fm F s (.nxt ((x, .list ys) :: ρ) σ) .next s') hs S hf h X fun L F' s' v g r hd hF hns => ?_) (fun _ s' q => wpAny_pure (wpAny_pure q)) fun _ _ q => q.elim)
  have X' := X.grow g
  obtain ⟨aT, a1, a2, a3, a4⟩ := X.apartDead hd
  refine wpAny_assign_Name (X'.storK hk r fun s'' g' X'' hkp => ?_)
  obtain ⟨m, hns⟩ := hns
  refine ⟨m, (hkp L a1 a2 aT).ns hns, fun h' hs' => ?_⟩
  obtain ⟨X3, g3⟩ := X''.other hs' hF aT a1 a2 a3 a4
  exact ⟨F', g.any.trans (g'.trans g3), rfl, X3⟩⟩
end
section
variable {C : Cx} {fm : Fm} {ρ ρ' ρc : Rho} {σ σ' : Sig} {F F' F'' : Ghost} {s s' s'' : Shared} {out : Out}
/- a method's call, behind its object -/
theorem callWith_meth {A : Around} {pos : Pos} {id : String} {v : Value} {es : List Expr} {env : Env} {Q : Value → Shared → Prop} {E : Value → Shared → Prop} (hpl : Plain es env)
    (h : wpAny C.M A (spliced (backTo pos (starEach es env))) (fun vs s₁ => wpAny C.M A (call (.builtin id) (v :: vs)) Q E s₁) E s) : wpAny C.M A (callWith pos (.builtin id) [v] (backTo pos (starEach es env)) []) Q E s :=
  Calls.callWith_builtin (backTo_any hpl) (evalArgs_any (kws := []) hpl (kwAll (kws := []) rfl).1 (wpAny_mono h (fun vs s₁ h₁ => evalAll_nil h₁) fun _ _ q => q))
theorem Ev.meth {o : Expr} {name : Str} {apos pos : Pos} {es : List Expr} {pl : Sem Bool} {id : String} {a res : AV} {as : List AV}
    (ho : Ev C fm ρ σ o a) (has : Evs C fm ρ σ es as)
    (hg : ∀ F s v Q E, Ok C F s → Rep F a v → Q (.builtin id, [v]) s → wpAny C.M fm.A (getMethod v name pl) Q E s)
    (hc : ∀ F s v vs Q E, Ok C F s → Rep F a v → Reps F as vs → (∀ r s' F', Grow C F s F' s' → Rep F' res r → Q r s') → wpAny C.M fm.A (PySem.call (.builtin id) (v :: vs)) Q E s)
    (he : eval (.Call (.Attribute o name apos) es [] pos) fm.env = (do
      let ov ← eval o fm.env
      standAt apos.atName
      let (f, first) ← holding [ov] (getMethod ov name pl)
      callWith pos f first (backTo pos (starEach es fm.env)) []) := by rfl) (hpl : Plain es fm.env := by rfl) : Ev C fm ρ σ (.Call (.Attribute o name apos) es [] pos) res := ⟨fun F s X => by
  refine MethodCall_ (wpAny_mono (ho.h F s X) (fun v s₁ ⟨F₁, g₁, r₁⟩ => ?_) fun _ _ q => q) he
  refine hg F₁ s₁ v _ _ g₁.ok r₁ ?_
  refine callWith_meth hpl (wpAny_mono (has.h F₁ s₁ pos (X.grow g₁)) (fun vs s₂ ⟨F₂, g₂, r₂⟩ => ?_) fun _ _ q => q)
  exact hc F₂ s₂ v vs _ _ g₂.ok (Rep.mono g₂.le _ _ r₁) r₂ fun r s' F' g r' => ⟨F', (g₁.trans g₂).trans g, r'⟩⟩
theorem Ev.bits {o : Expr} {apos pos : Pos} {a : Int} (ho : Ev C fm ρ σ o (.int a))
    (he : ∃ pl, eval (.Call (.Attribute o (Str.ofString "bit_length") apos) [] [] pos) fm.env = (do
      let ov ← eval o fm.env
      standAt apos.atName
      let (f, first) ← holding [ov] (getMethod ov (Str.ofString "bit_length") pl)
      callWith pos f first (backTo pos (starEach [] fm.env)) []) := by exact ⟨_, rfl⟩) : Ev C fm ρ σ (.Call (.Attribute o (Str.ofString "bit_length") apos) [] [] pos) (.int (Builtin.Int.intBits a)) := by
  obtain ⟨pl, he⟩ := he
  refine Ev.meth (id := "int.bit_length") (pl := pl) ho Evs.nil (fun F s v Q E ok r h => ?_) (fun F s v vs Q E ok r rs h => ?_) he rfl
  · obtain ⟨t, rfl⟩ := r.oint; exact getMethod_int_bit_length h
  · obtain ⟨t, rfl⟩ := r.oint; obtain rfl := rs.onil; exact call_int_bit_length (h _ _ F (Grow.tok1 ok) rInt)
/- an expression that writes the frame's mutable objects -/
structure EvM (C : Cx) (fm : Fm) (ρ : Rho) (σ : Sig) (e : Expr) (a : AV) (σ' : Sig) : Prop where
  of ::
  h : ∀ F s, St C fm ρ σ F s → wpAny C.M fm.A (eval e fm.env) (fun v s' => ∃ F', Gr C (Kf fm) F s F' s' ∧ St C fm ρ σ' F' s' ∧ Rep F' a v) (fun _ _ => False) s
theorem Es.expr {e : Expr} {pos : Pos} (h : EvM C fm ρ σ e .none σ') (hi : interactive fm.env = false := by rfl) (hs : swapsWith e none pos.line fm.env = pure false := by rfl) : Es C fm ρ σ (.Expr e pos) (.nxt ρ σ') := ⟨fun F s X =>
  wpAny_Expr (wpAny_mono (h.h F s X) (fun v s₁ ⟨F₁, g₁, X₁, r⟩ => by obtain rfl := r.oval; exact ⟨F₁, g₁, rfl, X₁⟩) fun _ _ q => q.elim) hi hs⟩
/- a built-in that writes one list -/
structure Wr (C : Cx) (A : Around) (id : String) (o : MO) (as : List AV) (res : AV) (o' : MO) : Prop where
  h : ∀ F s l vs Q E, Ok C F s → MOk F s.heap l o → F l = none → l ∉ C.T → Reps F as vs → (∀ r s' F', Gr C (fun b => b ≠ l) F s F' s' → MOk F' s'.heap l o' → F' l = none → Rep F' res r → Q r s') → wpAny C.M A (call (.builtin id) (.ref l :: vs)) Q E s
theorem Gr.upd1 {l : Addr} {f : Obj → Obj} (ok : Ok C F s) (hn : F l = none) (hT : l ∉ C.T) : Gr C (fun b => b ≠ l) F s F { s with heap := s.heap.update l f } :=
  Gr.weak (fun a (h : a ≠ l) (q : a ∈ [l]) => h (List.mem_singleton.mp q)) (Gr.one (l := l) (n := s.toks) ok hn hT fun b o hb e => (Heap.get?_update_other s.heap f (Ne.symm hb)).trans e)
theorem sizeLine_ge {n : Nat} (h : n ≤ 1000000) : n ≤ sizeLine := by rw [sizeLine_eq]; omega
theorem Wr.append {A : Around} {xs : List AV} {x : AV} (hz : xs.length ≤ 1000000) : Wr C A "list.append" (.lst xs) [x] .none (.lst (xs ++ [x])) := ⟨fun F s l vs Q E ok hm hn hT hr h => by
  obtain ⟨v, r', rfl, rv, rn⟩ := hr.ocons
  obtain rfl := rn.onil
  obtain ⟨ws, hp, hr⟩ := hm
  refine wpAny_list_append_plain hp (fun h' hp' hs' => ?_) (by rw [List.size_toArray, ← hr.length]; exact sizeLine_ge hz)
  have g2 : Gr C (fun b => b ≠ l) F s F { s with heap := h' } := Gr.weak (fun a (h : a ≠ l) (q : a ∈ [l]) => h (List.mem_singleton.mp q)) (Gr.one (l := l) (n := s.toks) ok hn hT fun b o hb e => hs'.extBut b o hb e)
  exact h _ _ F g2 ⟨ws ++ [v], by simpa using hp', Reps.snoc rv hr⟩ hn rVal⟩
theorem Reps.append : ∀ {xs ys : List AV} {vs ws : List Value}, Reps F xs vs → Reps F ys ws → Reps F (xs ++ ys) (vs ++ ws)
  | [], _, _, _, h, h' => by obtain rfl := h.onil; exact h'
  | x :: xs, _, _, _, h, h' => by obtain ⟨v, r, rfl, hv, hr⟩ := h.ocons; exact rCons hv (Reps.append hr h')
theorem Reps.take : ∀ {xs : List AV} {vs : List Value} (n : Nat), Reps F xs vs → Reps F (xs.take n) (vs.take n)
  | _, _, 0, _ => rNil
  | [], _, n + 1, h => by obtain rfl := h.onil; exact rNil
  | x :: xs, _, n + 1, h => by obtain ⟨v, r, rfl, hv, hr⟩ := h.ocons; exact rCons hv (Reps.take n hr)
theorem Reps.drop : ∀ {xs : List AV} {vs : List Value} (n : Nat), Reps F xs vs → Reps F (xs.drop n) (vs.drop n)
  | _, _, 0, h => h
  | [], _, n + 1, h => by obtain rfl := h.onil; exact rNil
  | x :: xs, _, n + 1, h => by obtain ⟨v, r, rfl, hv, hr⟩ := h.ocons; exact Reps.drop n hr
theorem Reps.reverse : ∀ {xs : List AV} {vs : List Value}, Reps F xs vs → Reps F xs.reverse vs.reverse
  | [], _, h => by obtain rfl := h.onil; exact rNil
  | x :: xs, _, h => by obtain ⟨v, r, rfl, hv, hr⟩ := h.ocons; rw [List.reverse_cons, List.reverse_cons]; exact Reps.snoc hv (Reps.reverse hr)
theorem Reps.set {y : AV} {w : Value} (hw : Rep F y w) : ∀ {xs : List AV} {vs : List Value} (n : Nat), Reps F xs vs → Reps F (xs.set n y) (vs.set n w)
  | [], _, _, h => by obtain rfl := h.onil; exact rNil
  | x :: xs, _, 0, h => by obtain ⟨v, r, rfl, hv, hr⟩ := h.ocons; exact rCons hw hr
  | x :: xs, _, n + 1, h => by obtain ⟨v, r, rfl, hv, hr⟩ := h.ocons; exact rCons hv (Reps.set hw n hr)
theorem Reps.replicate {y : AV} {w : Value} (hw : Rep F y w) : ∀ (n : Nat), Reps F (List.replicate n y) (List.replicate n w)
  | 0 => rNil
  | n + 1 => rCons hw (Reps.replicate hw n)
theorem Wr.reverse {A : Around} {xs : List AV} (hz : xs.length ≤ 1000000) : Wr C A "list.reverse" (.lst xs) [] .none (.lst xs.reverse) := ⟨fun F s l vs Q E ok hm hn hT hr h => by
  obtain rfl := hr.onil
  obtain ⟨ws, ⟨n, ho⟩, hr⟩ := hm
  refine call_meets PySem.F.slot_list_reverse ⟨_, ho, rfl⟩ PySem.F.entry_list_reverse (PySem.F.args_list_reverse_1 _) (AutoListH.list_reverse_list_0 l ws.toArray n (by rw [List.size_toArray, ← hr.length]; exact sizeLine_ge hz)) ⟨ho, ?_⟩
  refine h .none { s with heap := s.heap.update l (Obj.mapSeq fun x => x.reverse) } F (Gr.upd1 ok hn hT) ⟨ws.reverse, ⟨(if ws.toArray.reverse.size == ws.toArray.size then n else n + 1), ?_⟩, hr.reverse⟩ hn rVal
  have := IsL.update (h := s.heap) (l := l) (items := ws.toArray) (n := n) ho (fun x => x.reverse)
  rw [← List.reverse_toArray]
  exact this⟩
theorem plainUpd {h : Heap} {l : Addr} {items items' : Array Value} {n : Nat} {f : Array Value → Array Value} (x : h.get? l = some { cls := .type "list", dict := none, data := .seq items n, slots := #[] }) (e : f items = items') : (h.update l (Obj.mapSeq f)).PlainList l items' := by
  subst e; exact ⟨_, IsL.update (h := h) (l := l) (items := items) (n := n) x f⟩
theorem insArr {ws : List Value} {v' : Value} {k : Nat} {x : Int} (hx : x = k) (hk : k ≤ ws.length) :
    (fun xs : Array Value => have k := if x < 0 then (x + ((xs.size : Nat) : Int)).toNat else min x.toNat xs.size; (xs.extract 0 k).push v' ++ xs.extract k) ws.toArray = (ws.take k ++ v' :: ws.drop k).toArray := by
  have e0 : (if x < 0 then (x + ((ws.toArray.size : Nat) : Int)).toNat else min x.toNat ws.toArray.size) = k := by
    rw [if_neg (by first | assumption | decide | omega), List.size_toArray]; omega
  show (ws.toArray.extract 0 (if x < 0 then (x + ((ws.toArray.size : Nat) : Int)).toNat else min x.toNat ws.toArray.size)).push v' ++ ws.toArray.extract (if x < 0 then (x + ((ws.toArray.size : Nat) : Int)).toNat else min x.toNat ws.toArray.size) = _
  rw [e0]
  simp [List.extract_eq_take_drop]
  rw [List.take_of_length_le (by simp)]
theorem Wr.insert {A : Around} {xs : List AV} {k : Nat} {y : AV} (hz : xs.length ≤ 1000000) (hk : k ≤ xs.length) : Wr C A "list.insert" (.lst xs) [.int k, y] .none (.lst (xs.take k ++ y :: xs.drop k)) := ⟨fun F s l vs Q E ok hm hn hT hr h => by
  obtain ⟨v, r', rfl, rv, rn⟩ := hr.ocons
  obtain ⟨v', r', rfl, rv', rn⟩ := rn.ocons
  obtain rfl := rn.onil
  obtain ⟨t, rfl⟩ := rv.oint
  obtain ⟨ws, ⟨n, ho⟩, hr⟩ := hm
  obtain ⟨x, hx⟩ : ∃ x : Int, x = k := ⟨_, rfl⟩
  rw [← hx]
  have hfi : ¬ (!Builtin.List.listFitsIndex x) = true := by rw [fitsIndex_of (by first | assumption | decide | omega) (by first | assumption | decide | omega)]; exact Bool.false_ne_true
  have hz' : ws.toArray.size ≤ sizeLine := by rw [List.size_toArray, ← hr.length]; exact sizeLine_ge hz
  refine call_meets PySem.F.slot_list_insert ⟨_, ho, rfl⟩ PySem.F.entry_list_insert (PySem.F.args_list_insert_3 _ _ _) (AutoListH.list_insert_list_int_val_1 l ws.toArray n x t v' hfi hz') ⟨ho, ?_⟩
  exact h .none _ F (Gr.upd1 ok hn hT) ⟨ws.take k ++ v' :: ws.drop k, plainUpd ho (insArr (v' := v') hx (by rw [← hr.length]; exact hk)), (hr.take k).append (rCons rv' (hr.drop k))⟩ hn rVal⟩
/- a method that writes a list of the frame's -/
theorem EvM.meth {o : Expr} {name : Str} {apos pos : Pos} {es : List Expr} {id : String} {l : Addr} {xs : List AV} {res : AV} {as : List AV} {m' : MO} (slot : Slot "list" name id) (hty : typeOf (.builtin id) = pure (.type "method_descriptor"))
    (ho : Ev C fm ρ σ o (.val (.ref l))) (has : Evs C fm ρ σ es as) (w : Wr C fm.A id (.lst xs) as res m') (u : Upd σ l (.lst xs) m' σ')
    (he : ∃ pl, eval (.Call (.Attribute o name apos) es [] pos) fm.env = (do
      let ov ← eval o fm.env
      standAt apos.atName
      let (f, first) ← holding [ov] (getMethod ov name pl)
      callWith pos f first (backTo pos (starEach es fm.env)) []) := by exact ⟨_, rfl⟩) (hpl : Plain es fm.env := by rfl) : EvM C fm ρ σ (.Call (.Attribute o name apos) es [] pos) res σ' := ⟨fun F s X => by
  obtain ⟨pl, he⟩ := he
  refine MethodCall_ (wpAny_mono (ho.h F s X) (fun v s₁ ⟨F₁, g₁, r₁⟩ => ?_) fun _ _ q => q) he
  obtain rfl := r₁.oval
  have X₁ := X.grow g₁
  obtain ⟨⟨ws, ⟨n, hl⟩, hr⟩, hn, hT, _⟩ := X₁.mu _ u.mem
  refine getMethod_list_of slot hty ⟨_, hl, rfl, n, rfl⟩ ⟨_, hl, rfl⟩ ?_
  refine callWith_meth hpl (wpAny_mono (has.h F₁ s₁ pos X₁) (fun vs s₂ ⟨F₂, g₂, r₂⟩ => ?_) fun _ _ q => q)
  have X₂ := X₁.grow g₂
  obtain ⟨hm, hn, hT, _⟩ := X₂.mu _ u.mem
  refine w.h F₂ s₂ l vs _ _ g₂.ok hm hn hT r₂ fun r s' F' g hm' hn' rr => ?_
  obtain ⟨X₃, g₃⟩ := X₂.upd u g hm' hn'
  exact ⟨F', (g₁.trans g₂).any.trans g₃, X₃, rr⟩⟩
/- an item of a list of the frame's is stored -/
theorem setItem_plain {A : Around} {l : Addr} {items : Array Value} {k : Int} {t : Tok} {v : Value} {Q : Unit → Shared → Prop} {E : Value → Shared → Prop} (hl : s.heap.PlainList l items) (h0 : 0 ≤ k) (hfit : k < 2 ^ 63) (hn : k < items.size)
    (hQ : ∀ h', h'.PlainList l (items.setIfInBounds k.toNat v) → Heap.SameBut l s.heap h' → Q () { s with heap := h' }) : wpAny C.M A (setItem (.ref l) (.int k t) v) Q E s := by
  obtain ⟨n, ho⟩ := hl
  have hL : s.heap.IsList l items := ⟨_, ho, rfl, n, rfl⟩
  have hfi : Builtin.List.listFitsIndex k = true := fitsIndex_of h0 hfit
  clear hfit
  have fin : ∀ {Q' : Value → Shared → Prop}, Q' .none { s with heap := s.heap.update l (Obj.mapSeq (·.setIfInBounds k.toNat v)) } → wpAny C.M A (call (.builtin "list.__setitem__") [.ref l, .int k t, v]) Q' E s := by
    intro Q' h
    refine wpAny_call_entry slot_list_setitem hL.typeIs entry_list_setitem ?_ (args_list_setitem _ _ _)
    show wpAny _ _ (Builtin.List.listSubscript? (.int k t) >>= _) _ _ s
    refine wpAny_bind (wpAny_listSubscript_int hfi ?_)
    clear hfi
    obtain ⟨j, rfl⟩ := Int.eq_ofNat_of_zero_le h0
    have hx : items[j]? = some items[j] := Array.getElem?_eq_getElem (by first | assumption | decide | omega)
    show wpAny _ _ ((seqItemAt l j >>= fun r => pure (r.map (j, ·))) >>= _) _ _ s
    refine wpAny_bind (wpAny_bind (wpAny_seqItemAt ho rfl (wpAny_pure ?_)))
    rw [hx]
    show wpAny _ _ (setSeqItemAt l j v >>= _) _ _ s
    refine wpAny_bind (wpAny_setSeqItemAt ho rfl ?_)
    exact wpAny_pure ⟨.none, rfl, h⟩
  unfold setItem
  try with_reducible refine wpAny_holding ?_
  first | refine wpAny_bind (wpAny_pure ?_) | skip
  refine wpAny_bind (wpAny_sequenceKey hL.typeIs (by decide) ?_)
  refine wpAny_bind (wpAny_callSpecial?_slot (name := Str.ofString "__setitem__") hL.typeIs slot_list_setitem (fin (wpAny_pure ?_)))
  exact hQ _ ⟨_, IsL.update (n := n) ho _⟩ (Heap.SameBut.update ..)
theorem MOk.mono {h : Heap} {l : Addr} {o : MO} (hF : GLe F F') (x : MOk F h l o) : MOk F' h l o := by
  cases o with
  | lst xs => obtain ⟨vs, hl, hr⟩ := x; exact ⟨vs, hl, Reps.mono hF _ _ hr⟩
  | obj P hm => obtain ⟨o, ho, hc, hp⟩ := x; exact ⟨o, ho, hc, hm _ _ _ hF hp⟩
/- a list of the frame's is given to the frozen ones -/
theorem St.freeze' {l : Addr} {xs : List AV} {x : Str} (X : St C fm ((x, .val (.ref l)) :: ρ) ((l, .lst xs) :: σ) F s) : ∃ F', Gr C (Kf fm) F s F' s ∧ St C fm ((x, .list xs) :: ρ) σ F' s ∧ (∀ a o, F' a = some o → a = l ∨ F a = some o) ∧ ∃ o, F' l = some o ∧ o.cls = .type "list" := by
  obtain ⟨⟨vs, ⟨n, ho⟩, hr⟩, hn, hT, hL, hc, hE⟩ := X.mu _ (.head _)
  have hK : ¬ Kf fm l := fun h => hE.elim (fun q => q h.1) h.2
  have g : Gr C (Kf fm) F s (F.add l { cls := .type "list", dict := none, data := .seq vs.toArray n, slots := #[] }) s := Gr.add X.ok ho hn hT hK
  have hd := X.mud
  rw [List.map_cons, List.nodup_cons] at hd
  have rep : Rep (F.add l { cls := .type "list", dict := none, data := .seq vs.toArray n, slots := #[] }) (.list xs) (.ref l) := rLst ⟨_, _, Ghost.add_self _ _ _, rfl, rfl⟩ (Reps.mono g.le _ _ hr)
  have new : ∀ y a w, ((x, AV.list xs) :: ρ).lookup y = some a → (∀ b, ((x, AV.val (.ref l)) :: ρ).lookup y = some b → Rep F b w) → Rep (F.add l { cls := .type "list", dict := none, data := .seq vs.toArray n, slots := #[] }) a w := fun y a w e h => by
    rw [List.lookup_cons] at e
    by_cases hy : y = x
    · subst hy
      simp at e; subst e
      obtain rfl := (h (.val (.ref l)) (by simp)).oval
      exact rep
    · rw [beq_eq_false_iff_ne.mpr hy] at e
      exact Rep.mono g.le _ _ (h a (by rw [List.lookup_cons, beq_eq_false_iff_ne.mpr hy]; exact e))
  have some' : ∀ y a, ((x, AV.list xs) :: ρ).lookup y = some a → ∃ b, ((x, AV.val (.ref l)) :: ρ).lookup y = some b := fun y a e => by
    rw [List.lookup_cons] at e ⊢
    by_cases hy : y = x
    · subst hy; simp
    · rw [beq_eq_false_iff_ne.mpr hy] at e ⊢; exact ⟨a, e⟩
  obtain ⟨m, hns, hm⟩ := X.loc
  refine ⟨_, g, { X with ok := g.ok, loc := ⟨m, hns, fun y a e hk => ?_⟩, locF := (by rw [Ghost.add_ne hL.symm]; exact X.locF), cel := fun y a e hk => ?_, own := fun hcl y hk => ?_, mu := fun p hp => ?_, mud := hd.2, inv := X.imo _ _ g.le X.inv, fr := fun M hM => let ⟨k1, k2, k3, k4, k5⟩ := X.fr M hM; ⟨k1, k2, by rw [Ghost.add_ne fun (q : M = l) => hE.elim (fun h => h (q ▸ k1)) fun h => k2 (q ▸ h)]; exact k3, k4, k5⟩ }, fun a o e => (by by_cases ha : a = l; exact .inl ha; rw [Ghost.add_ne ha] at e; exact .inr e), _, Ghost.add_self _ _ _, rfl⟩
  · obtain ⟨b, e'⟩ := some' y a e
    obtain ⟨v, e1, r⟩ := hm y b e' hk
    exact ⟨v, e1, new y a v e fun b' e'' => by rw [e'] at e''; cases e''; exact r⟩
  · obtain ⟨b, e'⟩ := some' y a e
    obtain ⟨c, v, e1, hv, r⟩ := X.cel y b e' hk
    exact ⟨c, v, e1, hv, new y a v e fun b' e'' => by rw [e'] at e''; cases e''; exact r⟩
  · obtain ⟨c, v, e1, ho', hB, hF⟩ := X.own hcl y hk
    exact ⟨c, v, e1, ho', hB, by rw [Ghost.add_ne (hc y c e1).symm]; exact hF⟩
  · obtain ⟨h1, h2, h3⟩ := X.mu p (.tail _ hp)
    have hne : p.1 ≠ l := fun q => hd.1 (q ▸ List.mem_map_of_mem (f := (·.1)) hp)
    exact ⟨MOk.mono g.le h1, by rw [Ghost.add_ne hne]; exact h2, h3⟩
theorem St.freeze {l : Addr} {xs : List AV} {x : Str} (X : St C fm ((x, .val (.ref l)) :: ρ) ((l, .lst xs) :: σ) F s) : ∃ F', Gr C (Kf fm) F s F' s ∧ St C fm ((x, .list xs) :: ρ) σ F' s := let ⟨F', g, X', _⟩ := X.freeze'; ⟨F', g, X'⟩
end
section
variable {C : Cx} {fm : Fm} {ρ ρ' ρc : Rho} {σ σ' : Sig} {F F' F'' : Ghost} {s s' s'' : Shared} {out : Out}
/- an expression that makes a new list -/
structure EvN (C : Cx) (fm : Fm) (ρ : Rho) (σ : Sig) (e : Expr) (xs : List AV) : Prop where
  of ::
  h : ∀ F s, St C fm ρ σ F s → wpAny C.M fm.A (eval e fm.env) (fun v s' => ∃ l F', v = .ref l ∧ Grow C F s F' s' ∧ s.heap.get? l = none ∧ F' l = none ∧ MOk F' s'.heap l (.lst xs)) (fun _ _ => False) s
theorem Gr.frz {l : Addr} {o : Obj} (ok : Ok C F s) (g : Grow C F s F' s') (hd : s.heap.get? l = none) (ho : s'.heap.get? l = some o) (hn : F' l = none) : Grow C F s (F'.add l o) s' := by
  refine ⟨g.ok.add ho hn (ok.notT hd), g.le.trans (Ghost.le_add hn), fun a o' e => ?_, g.keep, g.os⟩
  by_cases ha : a = l
  · exact .inr (.inl (ha ▸ hd))
  · rw [Ghost.add_ne ha] at e; exact g.new a o' e
theorem EvN.push {n : Nat} {vs : List Value} {xs : List AV} (ok : Ok C F s) (hr : Reps F xs vs) : MOk F (s.heap.push { cls := .type "list", data := .seq vs.toArray }) s.heap.objs.size (.lst xs) :=
  ⟨vs, ⟨0, Heap.get?_push_size _ rfl⟩, hr⟩
theorem EvN.lst {es pos} {as : List AV} (h : Evs C fm ρ σ es as) (hn : as.length ≤ 1000000 := by simp) : EvN C fm ρ σ (.List es pos) as := ⟨fun F s X =>
  wpAny_List (wpAny_mono (h.h F s pos X) (fun vs s₁ ⟨F₁, g₁, r₁⟩ => ⟨by rw [sizeLine_eq, ← r₁.length]; omega, s₁.heap.objs.size, F₁, rfl, g₁.trans (Grow.heap g₁.ok fun b o e => Heap.get?_push_of_some _ e),
    g₁.dead (dead_top _), g₁.ok.none_of_dead (dead_top _), EvN.push (n := 0) g₁.ok r₁⟩) fun _ _ x => x)⟩
theorem repl_flat {vs : List Value} (k : Nat) : (List.foldl (fun x1 x2 => x1 ++ x2) #[] (List.replicate (if vs.toArray.isEmpty = true then 0 else k) vs.toArray)) = (List.replicate k vs).flatten.toArray := by
  have := listMul_foldl_if vs.toArray k
  simpa using this
theorem flat_repl {v : Value} : ∀ k, (List.replicate k [v]).flatten = List.replicate k v
  | 0 => rfl
  | k + 1 => by rw [List.replicate_succ, List.flatten_cons, flat_repl k]; rfl
theorem EvN.rep1 {e r pos p2} {a : AV} {k : Nat} (h : Evs C fm ρ σ [e] [a]) (hr : Ev C fm ρ σ r (.int k)) (hz : k ≤ 1000000) : EvN C fm ρ σ (.BinOp (.List [e] p2) .Mult r pos) (List.replicate k a) := ⟨fun F s X => by
  refine wpAny_BinOp (wpAny_List (wpAny_mono (h.h F s p2 X) (fun vs s₁ ⟨F₁, g₁, r₁⟩ => ⟨by rw [sizeLine_eq, ← r₁.length]; simp, ?_⟩) fun _ _ q => q))
  have g2 := Grow.alloc g₁.ok { cls := .type "list", data := .seq vs.toArray }
  refine wpAny_mono (hr.h _ _ ((X.grow g₁).grow g2)) (fun u s₃ ⟨F₃, g₃, r₃⟩ => ?_) fun _ _ q => q
  obtain ⟨u', rfl⟩ := r₃.oint
  obtain ⟨v, r', rfl, rv, rn⟩ := r₁.ocons
  obtain rfl := rn.onil
  have hl := g₃.ok.sub _ _ (g₃.le _ _ (Ghost.add_self _ _ _))
  obtain ⟨x, hx⟩ : ∃ x : Int, x = k := ⟨_, rfl⟩
  rw [← hx]
  have hfi : ¬ (!Builtin.List.listFitsIndex x) = true := by rw [fitsIndex_of (by first | assumption | decide | omega) (by first | assumption | decide | omega)]; exact Bool.false_ne_true
  have hk : x.toNat = k := by omega
  refine wpAny_binaryOp_repeat_ref (T := "list") (U := "int") (by decide) ⟨_, hl, rfl⟩ (fun s' => typeIs_int s' x u') noFill_list_mul PySem.F.fills_int_mul PySem.F.slot_int_rmul repeat_list PySem.F.slot_int_index.lookup
    (call_meets PySem.F.slot_int_rmul (typeIs_int s₃ x u') PySem.F.entry_int_rmul (PySem.F.args_int_rmul_2 _ _) (int___rmul___int_list x u' _ [v].toArray 0)
      ⟨hl, rfl, ⟨_, hl, rfl⟩, call_meets PySem.F.slot_list_mul ⟨_, hl, rfl⟩ PySem.F.entry_list_mul (PySem.F.args_list_mul_2 _ _)
        (AutoListH.list___mul___list_int_3 _ [v].toArray 0 x u' hfi (by simp; omega) (by simp [Builtin.List.listTooLong, sizeLine]; omega))
        ⟨hl, ?_⟩⟩)
  have e : (List.foldl (fun x1 x2 => x1 ++ x2) #[] (List.replicate (if [v].toArray.isEmpty = true then 0 else x.toNat) [v].toArray)) = (List.replicate k v).toArray := by
    rw [repl_flat, hk, flat_repl]
  rw [e]
  have rk : Reps F₃ (List.replicate k a) (List.replicate k v) := Reps.replicate (Rep.mono (g2.le.trans g₃.le) _ _ rv) k
  exact ⟨s₃.heap.objs.size, F₃, rfl, ((g₁.trans g2).trans g₃).trans (Grow.heap g₃.ok fun b o e => Heap.get?_push_of_some _ e), ((g₁.trans g2).trans g₃).dead (dead_top _), g₃.ok.none_of_dead (dead_top _), EvN.push (n := 0) g₃.ok rk⟩⟩
/- a name takes a new list; what comes behind -/
theorem Ex.new {x : Str} {px : Pos} {e : Expr} {pos : Pos} {ss : List Stmt} {xs : List AV} (he : EvN C fm ρ σ e xs) (hk : Sto fm x) (h : ∀ l, ¬ fm.E l → Ex C fm ((x, .val (.ref l)) :: ρ) ((l, .lst xs) :: σ) ss out)
    (hs : swapsWith e (some (.Name x px)) pos.line fm.env = pure false := by rfl) : Ex C fm ρ σ (.Assign [.Name x px] e pos :: ss) out := ⟨fun F s X =>
  wpAny_execs_cons (wpAny_Assign_Name (wpAny_mono (he.h F s X) (fun v s₁ ⟨l, F₁, e, g₁, hd, hn, hm⟩ => by
    subst e
    have hE : ¬ fm.E l := fun q => by obtain ⟨o, e⟩ := X.base l q; rw [hd] at e; cases e
    have X₁ : St C fm ρ ([(l, .lst xs)] ++ σ) F₁ s₁ := X.join g₁ (sig1 hm hn) (fun p hp => by rw [List.mem_singleton] at hp; subst hp; exact hd) (by simp)
    exact X₁.stor hk rVal fun s₂ g₂ X₂ => wpAny_mono ((h l hE).h F₁ s₂ X₂) (fun _ _ q => q.pre (g₁.any.trans g₂)) fun _ _ q => q.pre (g₁.any.trans g₂)) fun _ _ q => q.elim) hs)⟩
/- a name's list is frozen -/
theorem Ex.frz {x : Str} {l : Addr} {xs : List AV} {ss : List Stmt} (h : Ex C fm ((x, .list xs) :: ρ) σ ss out) : Ex C fm ((x, .val (.ref l)) :: ρ) ((l, .lst xs) :: σ) ss out := ⟨fun F s X => by
  obtain ⟨F', g, X'⟩ := X.freeze
  exact wpAny_mono (h.h F' s X') (fun _ _ q => q.pre g) fun _ _ q => q.pre g⟩
theorem Ex.rets {ss} {a : AV} (h : Ex C fm ρ σ ss (.ret a σ')) : Ex C fm ρ σ ss (.ret a []) := ⟨fun F s X =>
  wpAny_mono (h.h F s X) (fun f s₁ ⟨F₁, g, v, e, r, X₁⟩ => ⟨F₁, g, v, e, r, fun p hp => (nomatch hp), X₁.ns, X₁.locF, X₁.locT, fun p hp => (nomatch hp)⟩) fun _ _ ⟨_, q, _⟩ => nomatch q⟩
theorem Ex.sig {ss} (h : Ex C fm ρ σ' ss out) (hs : σ'.Sublist σ) : Ex C fm ρ σ ss out := ⟨fun F s X => h.h F s (X.sig hs)⟩
/- two lists, end to end -/
theorem Ev.addL {l r pos} {xs ys : List AV} (hl : Ev C fm ρ σ l (.list xs)) (hr : Ev C fm ρ σ r (.list ys)) (hz : xs.length + ys.length ≤ 1000000) : Ev C fm ρ σ (.BinOp l .Add r pos) (.list (xs ++ ys)) := ⟨fun F s X =>
  wpAny_BinOp (wpAny_mono (hl.h F s X) (fun v s₁ ⟨F₁, g₁, r₁⟩ => wpAny_mono (hr.h F₁ s₁ (X.grow g₁)) (fun u s₂ ⟨F₂, g₂, r₂⟩ => by
    obtain ⟨a, vs, rfl, hq, hrs⟩ := (Rep.mono g₂.le _ _ r₁).olst
    obtain ⟨b, ws, rfl, hq2, hrs2⟩ := r₂.olst
    obtain ⟨⟨cls, dd, data, sl⟩, ho, hc, n, hd⟩ := hq.lst g₂.ok
    obtain ⟨⟨cls2, dd2, data2, sl2⟩, ho2, hc2, n2, hd2⟩ := hq2.lst g₂.ok
    simp only at hc hd hc2 hd2
    subst hc hd hc2 hd2
    have e : vs.toArray ++ ws.toArray = (vs ++ ws).toArray := by simp
    refine concat_meets ⟨_, ho, rfl⟩ ⟨_, ho2, rfl⟩ noFill_list_add seq_list_add PySem.F.slot_list_add PySem.F.entry_list_add (PySem.F.args_list_add_2 _ _) (list_addW a b vs.toArray ws.toArray n n2 dd dd2 sl sl2 (by rw [List.size_toArray, List.size_toArray, ← hrs.length, ← hrs2.length]; exact sizeLine_ge hz)) ⟨ho, ho2, ?_⟩
    rw [e]
    have g3 := Grow.alloc g₂.ok { cls := .type "list", data := .seq (vs ++ ws).toArray }
    exact ⟨_, (g₁.trans g₂).trans g3, rLst ⟨_, _, Ghost.add_self _ _ _, rfl, rfl⟩ (Reps.mono g3.le _ _ (hrs.append hrs2))⟩) fun _ _ q => q) fun _ _ q => q)⟩
/- a slice's part -/
structure Evp (C : Cx) (fm : Fm) (ρ : Rho) (σ : Sig) (e : Option Expr) (k : Option Int) : Prop where
  h : ∀ F s, St C fm ρ σ F s → wpAny C.M fm.A (evalPart e fm.env) (fun v s' => ∃ F', Grow C F s F' s' ∧ IsPart v k) (fun _ _ => False) s
theorem Evp.none : Evp C fm ρ σ none none := ⟨fun F s X => wpAny_evalPart_none ⟨F, Grow.refl X.ok, .none⟩⟩
theorem Evp.some {e : Expr} {k : Int} (h : Ev C fm ρ σ e (.int k)) : Evp C fm ρ σ (some e) (some k) := ⟨fun F s X => wpAny_evalPart_some (wpAny_mono (h.h F s X) (fun v s₁ ⟨F₁, g₁, r₁⟩ => by obtain ⟨t, rfl⟩ := r₁.oint; exact ⟨F₁, g₁, .int _ _⟩) fun _ _ q => q)⟩
noncomputable def slc {α : Type} (xs : List α) (lo hi : Option Int) : List α := (xs.drop (lo.elim 0 (clipAt xs.length))).take (hi.elim xs.length (clipAt xs.length) - lo.elim 0 (clipAt xs.length))
theorem Ev.slice {e : Expr} {lo hi : Option Expr} {p pos : Pos} {xs : List AV} {a b : Option Int} (he : Ev C fm ρ σ e (.list xs)) (hlo : Evp C fm ρ σ lo a) (hhi : Evp C fm ρ σ hi b) (hz : xs.length ≤ 1000000) (ht : ∀ o r, letTemporaryGo e o r = pure () := by intro _ _; rfl) :
    Ev C fm ρ σ (.Subscript e (.Slice lo hi none p) pos) (.list (slc xs a b)) := ⟨fun F s X =>
  wpAny_Subscript_list_slice (wpAny_mono (he.h F s X) (fun v s₁ ⟨F₁, g₁, r₁⟩ => wpAny_mono (hlo.h F₁ s₁ (X.grow g₁)) (fun vl s₂ ⟨F₂, g₂, p1⟩ => wpAny_mono (hhi.h F₂ s₂ ((X.grow g₁).grow g₂)) (fun vu s₃ ⟨F₃, g₃, p2⟩ => by
    obtain ⟨l, vs, rfl, hq, hr⟩ := (Rep.mono (g₂.le.trans g₃.le) _ _ r₁).olst
    refine ⟨l, vs.toArray, a, b, rfl, hq.lst g₃.ok, by rw [List.size_toArray, ← hr.length]; exact sizeLine_ge hz, p1, p2, ?_⟩
    have g4 : Grow C F₃ s₃ F₃ { s₃ with heap := s₃.heap.push { cls := .type "slice", data := .fields #[vl, vu, .none] } } := Grow.heap g₃.ok fun b o e => Heap.get?_push_of_some _ e
    have g5 := Grow.alloc g4.ok { cls := .type "list", data := .seq (slc vs a b).toArray }
    have e1 : slicePick vs.toArray a b none = (slc vs a b).toArray := by rw [slicePick_plain, List.size_toArray]; rfl
    rw [e1]
    refine ⟨_, (((g₁.trans g₂).trans g₃).trans g4).trans g5, ?_⟩
    have e2 : s₃.heap.objs.size + 1 = (s₃.heap.push { cls := .type "slice", data := .fields #[vl, vu, .none] }).objs.size := by rw [Heap.size_push]
    rw [e2]
    refine rLst ⟨_, _, Ghost.add_self _ _ _, rfl, rfl⟩ (Reps.mono g5.le _ _ ?_)
    unfold slc
    rw [← hr.length]
    exact (hr.drop _).take _) fun _ _ q => q) fun _ _ q => q) fun _ _ q => q) ht⟩
theorem Ev.itemN {e i : Expr} {pos : Pos} {xs : List AV} {k : Nat} {x : AV} (he : Ev C fm ρ σ e (.list xs)) (hi : Ev C fm ρ σ i (.int (-(k : Int)))) (h0 : 0 < k) (h1 : k ≤ xs.length) (hx : xs[xs.length - k]? = some x) (hz : k ≤ 1000000)
    (hs : ∀ o i', subscripted i false o i' = operate [o, i'] (getItem o i') := by intro _ _; rfl) : Ev C fm ρ σ (.Subscript e i pos) x := ⟨fun F s X =>
  Subscript_ (wpAny_mono (he.h F s X) (fun v s₁ ⟨F₁, g₁, r₁⟩ => wpAny_mono (hi.h F₁ s₁ (X.grow g₁)) (fun u s₂ ⟨F₂, g₂, r₂⟩ => by
    obtain ⟨a, vs, rfl, hq, hr⟩ := (Rep.mono g₂.le _ _ r₁).olst
    obtain ⟨t, rfl⟩ := r₂.oint
    obtain ⟨w, e1, rw⟩ := hr.get hx
    have hl := hq.lst g₂.ok
    have hlen := hr.length
    refine tail_any hl.typeIs slot_list_getitem.lookup (wpAny_getItem_list_neg hl (by first | assumption | decide | omega) (by rw [List.size_toArray]; omega) (by first | assumption | decide | omega) ?_ ⟨F₂, g₁.trans g₂, rw⟩) (hs _ _)
    have e2 : (-(k : Int) + (vs.toArray.size : Nat)).toNat = xs.length - k := by rw [List.size_toArray]; omega
    rw [e2]; simpa using e1) fun _ _ q => q) fun _ _ q => q)⟩
theorem Tv.list {xs : List AV} (hz : xs.length ≤ 1000000) : Tv (.list xs) (!xs.isEmpty) := ⟨fun C A F s v Q E X r h => by
  obtain ⟨l, vs, rfl, hq, hr⟩ := r.olst
  have hl := hr.length
  refine wpAny_truthy_list (hq.lst X) (by rw [List.size_toArray, ← hl]; omega) ?_
  have e : (!vs.toArray.isEmpty) = !xs.isEmpty := by
    cases xs <;> cases vs <;> simp_all
  rw [e]
  exact h _⟩
end
section
variable {C : Cx} {fm : Fm} {ρ ρ' ρc : Rho} {σ σ' : Sig} {F F' F'' : Ghost} {s s' s'' : Shared} {out : Out}
theorem Upd.app {τ σ σ' : Sig} {l o o'} (h : Upd σ l o o' σ') : Upd (τ ++ σ) l o o' (τ ++ σ') := by
  induction τ with
  | nil => exact h
  | cons p τ ih => exact .there ih
/- a comprehension over one source: what it keeps, what it makes of it -/
theorem Co.all {α : Type} {elt tgt iter : Expr} {ifs : List Expr} {scope : Scope} {pos : Pos} {it : Value} {acc : Addr} {xs : List α} {g f : α → AV} {p : α → Bool} {bd : α → Rho} {τ : Nat → Sig}
    (I : Itr C fm.A it tgt (xs.map g) τ) (hE : ∀ i, ∀ p ∈ τ i, ¬ fm.E p.1) (hA : ∀ x ∈ xs, As C fm tgt (g x) (bd x)) (hT : ∀ x ∈ xs, ∀ σ, Ts C fm (bd x ++ ρ) σ ifs (p x)) (hV : ∀ x ∈ xs, p x = true → ∀ σ, Ev C fm (bd x ++ ρ) σ elt (f x))
    (hS : ∀ x ∈ xs, Sub ρ (bd x ++ ρ)) (hz : xs.length ≤ 1000000) :
    Co C fm ρ (τ 0 ++ [(acc, .lst [])]) (.ListComp elt [⟨tgt, iter, ifs, 0⟩] scope pos) 0 it (.ref acc) [(acc, .lst ((xs.filter p).map f))] := by
  have key : ∀ n i, i + n = xs.length → Co C fm ρ (τ i ++ [(acc, .lst (((xs.take i).filter p).map f))]) (.ListComp elt [⟨tgt, iter, ifs, 0⟩] scope pos) 0 it (.ref acc) [(acc, .lst ((xs.filter p).map f))] := by
    intro n
    induction n with
    | zero =>
      intro i hi
      have e : i = (xs.map g).length := by simp; omega
      have e2 : xs.take i = xs := List.take_of_length_le (by first | assumption | decide | omega)
      rw [e2, e]
      exact Co.done I (hE _)
    | succ n ih =>
      intro i hi
      have hlt : i < xs.length := by omega
      have hx : xs[i]? = some xs[i] := List.getElem?_eq_getElem hlt
      have hm : xs[i] ∈ xs := List.getElem_mem _
      have hgx : (xs.map g)[i]? = some (g xs[i]) := by rw [List.getElem?_map, hx]; rfl
      have ht : xs.take (i + 1) = xs.take i ++ [xs[i]] := by rw [List.take_add_one, hx]; rfl
      have hle : (((xs.take i).filter p).map f).length ≤ 1000000 := by
        rw [List.length_map]
        exact Nat.le_trans (List.length_filter_le _ _) (by rw [List.length_take]; omega)
      have hr := (ih (i + 1) (by first | assumption | decide | omega)).sub (hS _ hm)
      cases hp : p xs[i] with
      | true =>
        have e : ((xs.take (i + 1)).filter p).map f = ((xs.take i).filter p).map f ++ [f xs[i]] := by rw [ht, List.filter_append, List.map_append]; simp only [List.filter_cons, hp, if_true, List.filter_nil, List.map_cons, List.map_nil]
        rw [e] at hr
        exact Co.turn I hgx (hA _ hm) (hT _ hm _) (fun _ => Cb.emit (hV _ hm hp _) (Upd.app .here) hle) (fun q => absurd (hp.symm.trans q) (by simp)) hr
      | false =>
        have e : ((xs.take (i + 1)).filter p).map f = ((xs.take i).filter p).map f := by rw [ht, List.filter_append, List.map_append]; simp only [List.filter_cons, hp, List.filter_nil, List.map_nil, List.append_nil, Bool.false_eq_true, if_false]
        rw [e] at hr
        exact Co.turn I hgx (hA _ hm) (hT _ hm _) (fun q => absurd (hp.symm.trans q) (by simp)) (fun _ => rfl) hr
  have := key xs.length 0 (by first | assumption | decide | omega)
  simpa using this
theorem Ev.map {α : Type} {elt tgt iter : Expr} {ifs : List Expr} {scope : Scope} {pos : Pos} (xs : List α) (g f : α → AV) (p : α → Bool) (bd : α → Rho) (hs : Src C fm ρ σ iter tgt (xs.map g)) (S : CScope fm scope ρc ρ)
    (h : ∀ L cl E, (∀ x ∈ xs, As C (cfm fm scope cl L E) tgt (g x) (bd x)) ∧ (∀ x ∈ xs, ∀ σ, Ts C (cfm fm scope cl L E) (bd x ++ ρc) σ ifs (p x)) ∧ (∀ x ∈ xs, p x = true → ∀ σ, Ev C (cfm fm scope cl L E) (bd x ++ ρc) σ elt (f x)))
    (hS : ∀ x ∈ xs, Sub ρc (bd x ++ ρc)) (hz : xs.length ≤ 1000000) (hf : ∀ x, foldedSetIterable iter fm.env x = pure x := by intro _; rfl) :
    Ev C fm ρ σ (.ListComp elt [⟨tgt, iter, ifs, 0⟩] scope pos) (.list ((xs.filter p).map f)) :=
  Ev.comp hs S (fun L cl E it acc τ I hE => let ⟨h1, h2, h3⟩ := h L cl E; Co.all I hE h1 h2 h3 hS hz) hf
theorem Es.asgMap {α : Type} {x : Str} {px p2 : Pos} {elt tgt iter : Expr} {ifs : List Expr} {scope : Scope} {pos : Pos} (xs : List α) (g f : α → AV) (p : α → Bool) (bd : α → Rho) (hs : Src C fm ρ σ iter tgt (xs.map g)) (S : CScope fm scope ρc ρ)
    (h : ∀ L cl E, (∀ x ∈ xs, As C (cfm fm scope cl L E) tgt (g x) (bd x)) ∧ (∀ x ∈ xs, ∀ σ, Ts C (cfm fm scope cl L E) (bd x ++ ρc) σ ifs (p x)) ∧ (∀ x ∈ xs, p x = true → ∀ σ, Ev C (cfm fm scope cl L E) (bd x ++ ρc) σ elt (f x)))
    (hS : ∀ x ∈ xs, Sub ρc (bd x ++ ρc)) (hz : xs.length ≤ 1000000) (hk : Sto fm x) (hsw : swapsWith (.ListComp elt [⟨tgt, iter, ifs, 0⟩] scope p2) (some (.Name x px)) pos.line fm.env = pure true := by rfl) (hf : ∀ x, foldedSetIterable iter fm.env x = pure x := by intro _; rfl) :
    Es C fm ρ σ (.Assign [.Name x px] (.ListComp elt [⟨tgt, iter, ifs, 0⟩] scope p2) pos) (.nxt ((x, .list ((xs.filter p).map f)) :: ρ) σ) :=
  Es.asgComp hs S (fun L cl E it acc τ I hE => let ⟨h1, h2, h3⟩ := h L cl E; Co.all I hE h1 h2 h3 hS hz) hk hsw hf
/- ints, strs in a list -/
theorem Reps.ints : ∀ {ns : List Int} {vs : List Value}, Reps F (ns.map AV.int) vs → IntsAre vs ns
  | [], _, h => by obtain rfl := h.onil; exact .nil
  | n :: ns, _, h => by obtain ⟨v, r, rfl, hv, hr⟩ := h.ocons; obtain ⟨t, rfl⟩ := hv.oint; exact .cons n t (Reps.ints hr)
theorem Reps.strs : ∀ {ns : List Str} {vs : List Value}, Reps F (ns.map AV.str) vs → StrsAre vs ns
  | [], _, h => by obtain rfl := h.onil; exact .nil
  | n :: ns, _, h => by obtain ⟨v, r, rfl, hv, hr⟩ := h.ocons; obtain ⟨t, rfl⟩ := hv.ostr; exact .cons n t (Reps.strs hr)
/- a comparison's rule -/
theorem Tr.cmpR {l op r pos} {a b : AV} {c : Bool} (hl : Ev C fm ρ σ l a) (hr : Ev C fm ρ σ r b)
    (ho : ∀ F s v u Q E, Ok C F s → Rep F a v → Rep F b u → (∀ n, Q (.bool c) { s with toks := n }) → wpAny C.M fm.A (compareOp op v u) Q E s) (hm : behindInMarks op r = false := by with_unfolding_all rfl) :
    Tr C fm ρ σ (.Compare l [op] [r] pos) c := ⟨fun F s X =>
  wpAny_isTrue_Compare1 (wpAny_mono (hl.h F s X) (fun v s₁ ⟨F₁, g₁, r₁⟩ => wpAny_mono (hr.h F₁ s₁ (X.grow g₁)) (fun u s₂ ⟨F₂, g₂, r₂⟩ =>
    ho F₂ s₂ v u _ _ g₂.ok (Rep.mono g₂.le _ _ r₁) r₂ fun n => wpAny_truthy_bool ⟨rfl, F₂, (g₁.trans g₂).trans (Grow.toks g₂.ok n)⟩) fun _ _ x => x) fun _ _ x => x) hm⟩
theorem Tr.inI {l r pos} {i : Int} {ns : List Int} (hl : Ev C fm ρ σ l (.int i)) (hr : Ev C fm ρ σ r (.list (ns.map .int))) (hm : behindInMarks .In r = false := by with_unfolding_all rfl) : Tr C fm ρ σ (.Compare l [.In] [r] pos) (ns.any (· == i)) :=
  Tr.cmpR hl hr (fun F s v u Q E ok r1 r2 h => by obtain ⟨t, rfl⟩ := r1.oint; obtain ⟨a, vs, rfl, hq, hrs⟩ := r2.olst; exact in_list_ints (hq.lst ok) hrs.ints (h s.toks)) hm
theorem Tr.notInI {l r pos} {i : Int} {ns : List Int} (hl : Ev C fm ρ σ l (.int i)) (hr : Ev C fm ρ σ r (.list (ns.map .int))) (hm : behindInMarks .NotIn r = false := by with_unfolding_all rfl) : Tr C fm ρ σ (.Compare l [.NotIn] [r] pos) (!ns.any (· == i)) :=
  Tr.cmpR hl hr (fun F s v u Q E ok r1 r2 h => by obtain ⟨t, rfl⟩ := r1.oint; obtain ⟨a, vs, rfl, hq, hrs⟩ := r2.olst; exact notin_list_ints (hq.lst ok) hrs.ints (h s.toks)) hm
theorem Tr.inS {l r pos} {i : Str} {ns : List Str} (hl : Ev C fm ρ σ l (.str i)) (hr : Ev C fm ρ σ r (.list (ns.map .str))) (hm : behindInMarks .In r = false := by with_unfolding_all rfl) : Tr C fm ρ σ (.Compare l [.In] [r] pos) (ns.any (· == i)) :=
  Tr.cmpR hl hr (fun F s v u Q E ok r1 r2 h => by obtain ⟨t, rfl⟩ := r1.ostr; obtain ⟨a, vs, rfl, hq, hrs⟩ := r2.olst; exact in_list_strs (hq.lst ok) hrs.strs (h s.toks)) hm
theorem Tr.neS {l r pos} {x : Str} (hl : Ev C fm ρ σ l (.str x)) (hr : Ev C fm ρ σ r (.str x)) (hm : behindInMarks .NotEq r = false := by with_unfolding_all rfl) : Tr C fm ρ σ (.Compare l [.NotEq] [r] pos) false :=
  Tr.cmpR hl hr (fun F s v u Q E ok r1 r2 h => by obtain ⟨t, rfl⟩ := r1.ostr; obtain ⟨t', rfl⟩ := r2.ostr; exact P.ne_str (by have := h s.toks; simpa using this)) hm
-- data: ints, lists and tuples of data
mutual
noncomputable def AV.isD : AV → Bool
  | .int _ => true
  | .list xs => AV.isDs xs
  | .tup xs => AV.isDs xs
  | _ => false
noncomputable def AV.isDs : List AV → Bool
  | [] => true
  | x :: xs => AV.isD x && AV.isDs xs
end
mutual
noncomputable def AV.toD : AV → PyData
  | .int i => .int i
  | .list xs => .list (AV.toDs xs)
  | .tup xs => .tuple (AV.toDs xs)
  | _ => .none
noncomputable def AV.toDs : List AV → List PyData
  | [] => []
  | x :: xs => AV.toD x :: AV.toDs xs
end
mutual
theorem Rep.reads (ok : Ok C F s) : ∀ (a : AV) (v : Value), a.isD = true → Rep F a v → ∃ as, Reads s.heap v a.toD as
  | .int i, v, _, r => by obtain ⟨t, rfl⟩ := r.oint; exact ⟨_, .int _ _⟩
  | .list xs, v, h, r => by
    obtain ⟨a, vs, rfl, ⟨o, n, ho, hc, hd⟩, hr⟩ := r.olst
    obtain ⟨as, ra⟩ := Reps.reads ok xs vs (by simpa [AV.isD] using h) hr
    simp only [AV.toD]
    exact ⟨_, .list (ok.sub _ _ ho) hc hd ra⟩
  | .tup xs, v, h, r => by
    obtain ⟨a, vs, rfl, ⟨o, n, ho, hc, hd⟩, hr⟩ := r.otup
    obtain ⟨as, ra⟩ := Reps.reads ok xs vs (by simpa [AV.isD] using h) hr
    simp only [AV.toD]
    exact ⟨_, .tuple (ok.sub _ _ ho) hc hd ra⟩
  | .val _, _, h, _ => by simp [AV.isD] at h
  | .str _, _, h, _ => by simp [AV.isD] at h
  | .byt _, _, h, _ => by simp [AV.isD] at h
theorem Reps.reads (ok : Ok C F s) : ∀ (a : List AV) (v : List Value), AV.isDs a = true → Reps F a v → ∃ as, ReadsAll s.heap v (AV.toDs a) as
  | [], v, _, r => by obtain rfl := r.onil; simp only [AV.toDs]; exact ⟨_, .nil⟩
  | x :: xs, v, h, r => by
    obtain ⟨w, ws, rfl, hw, hr⟩ := r.ocons
    simp only [AV.isDs, Bool.and_eq_true] at h
    obtain ⟨as, ra⟩ := Rep.reads ok x w h.1 hw
    obtain ⟨bs, rb⟩ := Reps.reads ok xs ws h.2 hr
    simp only [AV.toDs]
    exact ⟨_, .cons ra rb⟩
end
mutual
theorem AV.eqvSelf : ∀ a : AV, PyData.eqv a.toD a.toD = true
  | .int i => by simp [AV.toD, PyData.eqv]
  | .list xs => by simp only [AV.toD, PyData.eqv]; exact AV.eqvSelfs xs
  | .tup xs => by simp only [AV.toD, PyData.eqv]; exact AV.eqvSelfs xs
  | .val _ => by simp [AV.toD, PyData.eqv]
  | .str _ => by simp [AV.toD, PyData.eqv]
  | .byt _ => by simp [AV.toD, PyData.eqv]
theorem AV.eqvSelfs : ∀ a : List AV, PyData.eqvAll (AV.toDs a) (AV.toDs a) = true
  | [] => by simp only [AV.toDs, PyData.eqvAll]
  | x :: xs => by simp only [AV.toDs, PyData.eqvAll, AV.eqvSelf x, AV.eqvSelfs xs, Bool.and_self]
theorem AV.canLay : ∀ a : AV, a.toD.canLay0 = true
  | .int i => by simp [AV.toD, PyData.canLay0]
  | .list xs => by simp only [AV.toD, PyData.canLay0]; exact AV.canLays xs
  | .tup xs => by simp only [AV.toD, PyData.canLay0]; exact AV.canLays xs
  | .val _ => by simp [AV.toD, PyData.canLay0]
  | .str _ => by simp [AV.toD, PyData.canLay0]
  | .byt _ => by simp [AV.toD, PyData.canLay0]
theorem AV.canLays : ∀ a : List AV, PyData.canLayAll0 (AV.toDs a) = true
  | [] => by simp only [AV.toDs, PyData.canLayAll0]
  | x :: xs => by simp only [AV.toDs, PyData.canLayAll0, AV.canLay x, AV.canLays xs, Bool.and_self]
end
noncomputable def AV.flatD (a : AV) : Prop := a.isD = true ∧ a.toD.depth ≤ 64
theorem AV.toDs_map {α : Type} (f : α → AV) : ∀ xs : List α, AV.toDs (xs.map f) = xs.map fun x => (f x).toD
  | [] => rfl
  | x :: xs => by simp only [List.map_cons, AV.toDs, AV.toDs_map f xs]
theorem AV.isDs_map {α : Type} (f : α → AV) (h : ∀ x, (f x).isD = true) : ∀ xs : List α, AV.isDs (xs.map f) = true
  | [] => by simp only [List.map_nil, AV.isDs]
  | x :: xs => by simp only [List.map_cons, AV.isDs, h x, AV.isDs_map f h xs, Bool.and_self]
theorem AV.depth_map {α : Type} (f : α → AV) (n : Nat) (h : ∀ x, (f x).toD.depth ≤ n) : ∀ xs : List α, PyData.depthAll (AV.toDs (xs.map f)) ≤ n
  | [] => by simp [AV.toDs, PyData.depthAll]
  | x :: xs => by
    have := AV.depth_map f n h xs
    have := h x
    simp only [List.map_cons, AV.toDs, PyData.depthAll]; omega
theorem flatInts (ns : List Int) : (AV.list (ns.map .int)).flatD := ⟨by simp only [AV.isD]; exact AV.isDs_map _ (fun _ => rfl) _, by
  have := AV.depth_map AV.int 0 (fun _ => by simp [AV.toD, PyData.depth]) ns
  simp only [AV.toD, PyData.depth]; omega⟩
theorem flatTup2 (a b : Int) : (AV.tup [.int a, .int b]).flatD := ⟨by simp [AV.isD, AV.isDs], by simp [AV.toD, AV.toDs, PyData.depth, PyData.depthAll]⟩
theorem flatPairs (ns : List (Int × Int)) : (AV.list (ns.map fun p => .tup [.int p.1, .int p.2])).flatD := ⟨by simp only [AV.isD]; exact AV.isDs_map _ (fun _ => by simp [AV.isD, AV.isDs]) _, by
  have := AV.depth_map (fun p : Int × Int => AV.tup [.int p.1, .int p.2]) 1 (fun _ => by simp [AV.toD, AV.toDs, PyData.depth, PyData.depthAll]) ns
  simp only [AV.toD, PyData.depth]; omega⟩
theorem cmpSame {A : Around} {a : AV} {v u : Value} {Q : Value → Shared → Prop} {E : Value → Shared → Prop} (ok : Ok C F s) (hf : a.flatD) (hu : A.units + 64 < cLine) (r1 : Rep F a v) (r2 : Rep F a u) :
    (Q (.bool true) s → wpAny C.M A (compareOp .Eq v u) Q E s) ∧ (Q (.bool false) s → wpAny C.M A (compareOp .NotEq v u) Q E s) := by
  obtain ⟨as, ra⟩ := Rep.reads ok a v hf.1 r1
  obtain ⟨bs, rb⟩ := Rep.reads ok a u hf.1 r2
  have hs : SeqAt.shaped a.toD = true := by unfold SeqAt.shaped; rw [AV.canLay]; simpa using hf.2
  have e := AV.eqvSelf a
  exact ⟨fun h => SeqAt.compareEq_shaped ra rb hs hs hu (by rw [e]; exact h), fun h => SeqAt.compareNe_shaped ra rb hs hs hu (by rw [e]; exact h)⟩
theorem Room.u64 {A : Around} {d : Nat} (h : Room A d) : A.units + 64 < cLine := by have := h.un; show A.units + 64 < 9900; omega
end
theorem codeAmong_back {pos' : Pos} {x y : Int} {c cv : Value} (l : List Value) (h : TriplesOk l) : codeAmong pos' (l ++ [rawInt x, rawInt y, c]) = some cv → codeAmong pos' l = some cv ∨ cv = c := by
  fun_induction TriplesOk l with
  | case1 =>
    intro e
    simp only [List.nil_append, codeAmong, rawInt] at e
    split at e
    · right; injection e with e; exact e.symm
    · cases e
  | case2 a b d e' f' rest ih =>
    intro e
    simp only [List.cons_append, codeAmong] at e ⊢
    split at e
    · rename_i hc; left; rw [if_pos hc]; exact e
    · rename_i hc; rw [if_neg hc]; exact ih h e
  | case3 => exact h.elim
section
variable {C : Cx} {fm : Fm} {ρ ρ' ρc : Rho} {σ σ' : Sig} {F F' F'' : Ghost} {s s' s'' : Shared} {out : Out}
theorem Ok.gl (ok : Ok C F s) : s.heap.Ns mainGlobals C.mg := C.hg.keeps (hsub ok)
theorem Ok.notTab (ok : Ok C F s) {b : Addr} {o : Obj} (h : C.H.get? b = some o) : b ∉ C.T := fun q => by
  have := ok.tabF b q
  rw [ok.base b o h] at this; cases this
theorem Ok.bAt (ok : Ok C F s) {P : Addr} (hP : P ∈ C.T) : s.heap.BuiltinsAt C.mg P := by
  obtain ⟨bm, ob, h1, h2, h3, h4, h5, h6, h7⟩ := C.bm
  exact ⟨bm, ob, h1, h2, h3, fun q => ok.notTab h4 (q ▸ hP), hsub ok _ _ h4, h5, h6, h7⟩
theorem Ok.mgNe (ok : Ok C F s) {P : Addr} (hP : P ∈ C.T) : mainGlobals ≠ P := fun q => by
  obtain ⟨o, _, _, e, _⟩ := C.hg
  exact ok.notTab e (q ▸ hP)
/- a function or a lambda made anew -/
noncomputable abbrev fdX (name qual : Str) (params : Arguments) (body : FuncBody) (scope : Scope) (cl : List (Str × Addr)) (doc pm cdv ct : Value) : FuncData :=
  { name, qualname := qual, params, body, scope, globals := mainGlobals, closure := cl, defaults := .none, kwdefaults := .none, doc, pyModule := pm, annotations := none, code := cdv, closureTuple := ct, builtins := builtinsNs }
noncomputable abbrev fnObj (fd : FuncData) : Obj := { cls := .type "function", data := .func fd }
/- a new function's object stands behind a table that stands -/
theorem Gr.made (X : Ok C F s) {h' : Heap} {tk : Tok} {o : Obj} (hk : ∀ b o, s.heap.get? b = some o → h'.get? b = some o) (hsz : s.heap.objs.size ≤ h'.objs.size) (hf : o.isFreed = false := by rfl) :
    Grow C F s (F.add h'.objs.size o) { s with heap := h'.push o, toks := tk } := by
  have g : Grow C F s F { s with heap := h'.push o, toks := tk } := Grow.heap X fun b o' e => Heap.get?_push_of_some _ (hk b o' e)
  exact Gr.frz X g (Heap.get?_none_of_le hsz) (Heap.get?_push_size _ hf) (X.none_of_dead (Heap.get?_none_of_le hsz))
/- a new function's object, its code new in its table -/
theorem Gr.madeC (X : Ok C F s) {h' : Heap} {tk : Tok} {o oc : Obj} {c P c' : Addr} {ps : Array Value} {vs : Array Value} {t : Tok} {pos : Pos} (hP : P ∈ C.T) (hp : s.heap.get? P = some (tabObj ps)) (hg : TabGood F (C.tq P) ps)
    (hx : Heap.ExtBut P s.heap h') (hge : s.heap.objs.size ≤ c') (hlt : c' < h'.objs.size) (hoc : h'.get? c' = some oc) (hd : oc.data = .fields vs) (hv : vs[1]? = some (.str (C.tq P) t))
    (hP' : h'.get? P = some (tabObj (ps ++ #[rawInt pos.line, rawInt pos.col, .ref c']))) (hf : o.isFreed = false := by rfl) :
    Grow C F s ((F.add c' oc).add h'.objs.size o) { s with heap := h'.push o, toks := tk } := by
  have hcn : F c' = none := X.none_of_dead (Heap.get?_none_of_le hge)
  have hsz : s.heap.objs.size ≤ h'.objs.size := Nat.le_of_lt (Nat.lt_of_le_of_lt hge hlt)
  have hfn : F h'.objs.size = none := X.none_of_dead (Heap.get?_none_of_le hsz)
  have hcf : h'.objs.size ≠ c' := Nat.ne_of_gt hlt
  have hfn' : (F.add c' oc) h'.objs.size = none := by rw [Ghost.add_ne hcf]; exact hfn
  have le1 := Ghost.le_add (o := oc) hcn
  have le2 := Ghost.le_add (o := o) hfn'
  have sub : ∀ a o', ((F.add c' oc).add h'.objs.size o) a = some o' → (h'.push o).get? a = some o' := fun a o' e => by
    by_cases ha : a = h'.objs.size
    · subst ha; rw [Ghost.add_self] at e; cases e; exact Heap.get?_push_size _ hf
    · rw [Ghost.add_ne ha] at e
      by_cases hc : a = c'
      · subst hc; rw [Ghost.add_self] at e; cases e; exact Heap.get?_push_of_some _ hoc
      · rw [Ghost.add_ne hc] at e
        have hne : a ≠ P := fun q => by rw [q, X.tabF P hP] at e; cases e
        exact Heap.get?_push_of_some _ (hx a o' hne (X.sub a o' e))
  refine ⟨⟨fun a o' e => le2 _ _ (le1 _ _ (X.base a o' e)), sub, X.gens, fun Q hQ => ?_, fun Q hQ => ?_⟩, le1.trans le2, fun a o' e => ?_, fun a _ hT => ?_, rfl⟩
  · have h1 := X.tlt hQ
    rw [Ghost.add_ne (Nat.ne_of_lt (Nat.lt_of_lt_of_le h1 hsz)), Ghost.add_ne (Nat.ne_of_lt (Nat.lt_of_lt_of_le h1 hge))]
    exact X.tabF Q hQ
  · by_cases hQP : Q = P
    · subst hQP
      refine ⟨_, Heap.get?_push_of_some _ hP', ?_, fun pos' cv e => ?_⟩
      · have := TriplesOk_snoc pos.line pos.col (.ref c') ps.toList hg.1
        simpa using this
      · have e' : codeAmong pos' (ps.toList ++ [rawInt pos.line, rawInt pos.col, .ref c']) = some cv := by simpa using e
        rcases codeAmong_back _ hg.1 e' with q | q
        · exact ((hg.2 pos' cv q).mono le1).mono le2
        · subst q
          exact ⟨c', oc, vs, t, rfl, le2 _ _ (Ghost.add_self _ _ _), hd, hv⟩
    · obtain ⟨ps', e, g⟩ := X.tabs Q hQ
      exact ⟨ps', Heap.get?_push_of_some _ (hx _ _ hQP e), (g.mono le1).mono le2⟩
  · by_cases ha : a = h'.objs.size
    · exact .inr (.inl (ha ▸ Heap.get?_none_of_le hsz))
    · rw [Ghost.add_ne ha] at e
      by_cases hc : a = c'
      · exact .inr (.inl (hc ▸ Heap.get?_none_of_le hge))
      · rw [Ghost.add_ne hc] at e; exact .inl e
  · have hne : a ≠ P := fun q => hT (q ▸ hP)
    exact .of fun o' e => Heap.get?_push_of_some _ (hx a o' hne e)
theorem St.make {c P : Addr} {name qual : Str} {params : Arguments} {body : List Stmt} {scope : Scope} {clos : List (Str × Addr)} {pos : Pos} {fl : Nat} {Q : Value → Shared → Prop} {E : Value → Shared → Prop} (X : St C fm ρ σ F s) (hmem : (c, P) ∈ C.tabs)
    (hcode : fm.env.code = .ref c) (hq : C.tq P = qual) (hclo : closureFor scope fm.env = pure clos)
    (h : ∀ f cdv ctv doc pm F' s', Grow C F s F' s' → F' f = some (fnObj (fdX name qual params (.stmts body) scope clos doc pm cdv ctv)) → CodeF F' cdv qual → Q (.ref f) s') :
    wpAny C.M fm.A (makeFunction name qual params (.stmts body) scope fm.env [] [] [] pos fl) Q E s := by
  have hP : P ∈ C.T := List.mem_map_of_mem (f := (·.2)) hmem
  obtain ⟨ps, hp, hg⟩ := X.ok.tabs P hP
  have hcd := (C.tabsH _ hmem).1.keeps (hsub X.ok)
  cases hf : codeAmong pos ps.toList with
  | some cv =>
    have hcv := hg.2 pos cv hf
    refine makeFunction_hit (mg := C.mg) hclo X.glb X.ok.gl hcode hcd hp hg.1 hf (X.ok.bAt hP) fun ctv doc h' tk hk hsz => ?_
    have g := Gr.made (tk := tk) (o := fnObj (fdX name qual params (.stmts body) scope clos doc ((C.mg "__name__").getD .none) cv ctv)) X.ok hk hsz
    exact h _ cv ctv doc _ _ _ g (Ghost.add_self _ _ _) (by rw [← hq]; exact hcv.mono (Ghost.le_add (X.ok.none_of_dead (Heap.get?_none_of_le hsz))))
  | none =>
    refine makeFunction_K (mg := C.mg) hclo X.glb X.ok.gl hcode hcd hp hg.1 hf (X.ok.mgNe hP) (X.ok.bAt hP) fun c' ctv doc h' tk hx hge hlt hrec hP' => ?_
    obtain ⟨c2, oc, vs, t, e, hoc, hd, hv⟩ := hrec
    cases e
    have g := Gr.madeC (c := c) (tk := tk) (o := fnObj (fdX name qual params (.stmts body) scope clos doc ((C.mg "__name__").getD .none) (.ref c') ctv)) X.ok hP hp hg hx hge hlt hoc hd (by rw [hq]; exact hv) hP'
    exact h _ (.ref c') ctv doc _ _ _ g (Ghost.add_self _ _ _) ⟨c', oc, vs, t, rfl, by rw [Ghost.add_ne (Nat.ne_of_lt hlt)]; exact Ghost.add_self _ _ _, hd, hv⟩
theorem St.makeE {c P : Addr} {name qual : Str} {params : Arguments} {body : Expr} {scope : Scope} {clos : List (Str × Addr)} {pos : Pos} {fl : Nat} {Q : Value → Shared → Prop} {E : Value → Shared → Prop} (X : St C fm ρ σ F s) (hmem : (c, P) ∈ C.tabs)
    (hcode : fm.env.code = .ref c) (hq : C.tq P = qual) (hclo : closureFor scope fm.env = pure clos)
    (h : ∀ f cdv ctv pm F' s', Grow C F s F' s' → F' f = some (fnObj (fdX name qual params (.expr body) scope clos .none pm cdv ctv)) → CodeF F' cdv qual → Q (.ref f) s') :
    wpAny C.M fm.A (makeFunction name qual params (.expr body) scope fm.env [] [] [] pos fl) Q E s := by
  have hP : P ∈ C.T := List.mem_map_of_mem (f := (·.2)) hmem
  obtain ⟨ps, hp, hg⟩ := X.ok.tabs P hP
  have hcd := (C.tabsH _ hmem).1.keeps (hsub X.ok)
  cases hf : codeAmong pos ps.toList with
  | some cv =>
    have hcv := hg.2 pos cv hf
    refine kla_makeFunctionHit (mg := C.mg) hclo X.glb X.ok.gl hcode hcd hp hg.1 hf (X.ok.bAt hP) fun ctv h' tk hk hsz => ?_
    have g := Gr.made (tk := tk) (o := fnObj (fdX name qual params (.expr body) scope clos .none ((C.mg "__name__").getD .none) cv ctv)) X.ok hk hsz
    exact h _ cv ctv _ _ _ g (Ghost.add_self _ _ _) (by rw [← hq]; exact hcv.mono (Ghost.le_add (X.ok.none_of_dead (Heap.get?_none_of_le hsz))))
  | none =>
    refine kla_makeFunction (mg := C.mg) hclo X.glb X.ok.gl hcode hcd hp hg.1 hf (X.ok.mgNe hP) (X.ok.bAt hP) fun c' ctv h' tk hx hge hlt hrec hP' => ?_
    obtain ⟨c2, oc, vs, t, e, hoc, hd, hv⟩ := hrec
    cases e
    have g := Gr.madeC (c := c) (tk := tk) (o := fnObj (fdX name qual params (.expr body) scope clos .none ((C.mg "__name__").getD .none) (.ref c') ctv)) X.ok hP hp hg hx hge hlt hoc hd (by rw [hq]; exact hv) hP'
    exact h _ (.ref c') ctv _ _ _ g (Ghost.add_self _ _ _) ⟨c', oc, vs, t, rfl, by rw [Ghost.add_ne (Nat.ne_of_lt hlt)]; exact Ghost.add_self _ _ _, hd, hv⟩
/- a cell that the ghost holds -/
noncomputable def CelF (F : Ghost) (cl : List (Str × Addr)) (x : Str) (a : AV) : Prop := ∃ c o v, cl.lookup x = some c ∧ F c = some o ∧ o.data = .cell (some v) ∧ Rep F a v
theorem CelF.mono {cl x a} (h : GLe F F') (q : CelF F cl x a) : CelF F' cl x a := let ⟨c, o, v, e, ho, hd, r⟩ := q; ⟨c, o, v, e, h _ _ ho, hd, Rep.mono h _ _ r⟩
/- a function that the ghost holds, with its closure -/
structure DefG (F : Ghost) (a : Addr) (fd : FuncData) (cl : List (Str × Addr)) : Prop where
  at' : ∃ o, F a = some o ∧ o.data = .func fd
  code : CodeF F fd.code fd.qualname
  glb : fd.globals = mainGlobals
  blt : fd.builtins = builtinsNs
  clo : fd.closure = cl
  clok : ∀ x c, cl.lookup x = some c → ∃ o, F c = some o
  apart : ∀ x y c, cl.lookup x = some c → cl.lookup y = some c → x = y
theorem DefG.mono {a fd cl} (h : GLe F F') (D : DefG F a fd cl) : DefG F' a fd cl := { D with at' := let ⟨o, e, r⟩ := D.at'; ⟨o, h _ _ e, r⟩, code := D.code.mono h, clok := fun x c e => let ⟨o, q⟩ := D.clok x c e; ⟨o, h _ _ q⟩ }
theorem DefG.kp {a fd cl} (D : DefG F a fd cl) : KpOk F (.ref a) := let ⟨o, ho, hd⟩ := D.at'; .inr (.inr ⟨a, o, fd, rfl, ho, hd⟩)
noncomputable abbrev genv (sc : Scope) (L a : Addr) (q : Str) (cd : Value) (cl : List (Str × Addr)) : Env :=
  { scope := sc, locals := L, globals := mainGlobals, cells := cl, qual := q, func := some a, code := cd, frame := some L, builtins := builtinsNs }
noncomputable abbrev gfm (A : Around) (sc : Scope) (L a : Addr) (q : Str) (cd : Value) (cl : List (Str × Addr)) (E : Addr → Prop) (W : List Addr) (I : Ghost → Prop) (fs : List Addr := []) : Fm := ⟨A.deeper (genv sc L a q cd cl), genv sc L a q cd cl, E, W, false, I, fs⟩
theorem Binds.append : ∀ {ρ : Rho} {bs : List (Str × Value)} {x : Str} {a : AV}, Binds F ρ bs → (ρ ++ ρ').lookup x = some a → ρ.lookup x = some a ∨ (ρ.lookup x = none ∧ ρ'.lookup x = some a)
  | [], _, x, a, _, h => .inr ⟨rfl, h⟩
  | (y, b) :: ρ, _, x, a, ⟨v, r, e, hv, hr⟩, h => by
    subst e
    rw [List.cons_append, List.lookup_cons] at h
    rw [List.lookup_cons]
    by_cases hxy : x = y
    · subst hxy; simp at h ⊢; exact h
    · rw [beq_eq_false_iff_ne.mpr hxy] at h ⊢; exact hr.append h
/- a frame over a closure -/
theorem frame_g {A : Around} {a : Addr} {fd : FuncData} {cl : List (Str × Addr)} {bs : List (Str × Value)} {ρf : Rho} {I : Ghost → Prop} {ω : Sig} {q : Str} {Q : Env → Shared → Prop} {E' : Value → Shared → Prop} (Ar : Around)
    (D : DefG F a fd cl) (hI : I F) (hM : Mono I) (ok : Ok C F s) (hr : Binds F ρ bs) (hn : (ρ.map (·.1)).Nodup) (hk : ∀ x ∈ ρ.map (·.1), fd.scope.names.lookup x = some .local)
    (hf : ∀ x b, ρf.lookup x = some b → fd.scope.names.lookup x = some .free ∧ CelF F cl x b) (hc : ∀ x ∈ fd.scope.names, x.2 ≠ .cell) (hkf : fd.scope.kind = .function)
    (hω : SigOk F s ω) (hωT : ∀ p ∈ ω, p.1 ∉ C.T) (hωn : (ω.map (·.1)).Nodup) {fs : List Addr} (hfs : ∀ L ∈ fs, FrOk C F s L ∧ L ∉ ω.map (·.1))
    (h : ∀ L E s₁, (∀ b, E b ↔ ∃ o, s.heap.get? b = some o) → St C (gfm Ar fd.scope L a q fd.code cl E (ω.map (·.1)) I fs) (ρ ++ ρf) ω F s₁ → Grow C F s F s₁ → Q (genv fd.scope L a q fd.code cl) s₁) :
    wpAny C.M A (newFunctionEnv fd.scope fd.globals fd.closure bs q (some a) fd.code none fd.builtins) Q E' s := by
  have hkb : ∀ x ∈ bs, fd.scope.names.lookup x.1 = some .local := fun x hx => hk x.1 (by rw [← hr.names]; exact List.mem_map_of_mem hx)
  have hnb : (bs.map (·.1)).Nodup := by rw [hr.names]; exact hn
  rw [D.glb, D.blt, D.clo]
  refine wpAny_newFunctionEnv hc hkb (fun h' hns hsb => ?_) hkf
  have hkeep : ∀ b o, s.heap.get? b = some o → h'.get? b = some o := fun b o e => hsb.extBut b o (Nat.ne_of_lt (Heap.lt_size e)) (Heap.get?_push_of_some _ e)
  have g : Grow C F s F { s with heap := h', toks := s.toks + bs.length } := Grow.heap ok hkeep
  have dead : ∀ b, s.heap.objs.size ≤ b → s.heap.get? b = none := fun b hb => Heap.get?_none_of_le hb
  have live : ∀ b, (∃ o, s.heap.get? b = some o) → b ≠ s.heap.objs.size := fun b ⟨o, e⟩ q => by rw [q, dead_top] at e; cases e
  have cl1 : ∀ x c, cl.lookup x = some c → ∃ o, s.heap.get? c = some o := fun x c e => let ⟨o, e'⟩ := D.clok x c e; ⟨o, ok.sub _ _ e'⟩
  refine h s.heap.objs.size (fun b => ∃ o, s.heap.get? b = some o) _ (fun _ => Iff.rfl) ?_ g
  refine { ok := g.ok, kind := hkf, glb := rfl, blt := rfl, loc := ⟨_, hns, fun y b e hk' => ?_⟩, locF := ok.none_of_dead (dead_top _), locT := ok.notT (dead_top _), locB := fun q => live _ q rfl, base := fun a ⟨o, e⟩ => ⟨o, hkeep a o e⟩, cel := fun y b e hk' => ?_, own := fun q => (nomatch q), apart := D.apart, cne := fun y c e => ?_, mu := fun p hp => ?_, mud := hωn, inv := hI, imo := hM, fr := fun L hL => ⟨let ⟨_, _, o, ho, _⟩ := (hfs L hL).1; ⟨o, ho⟩, (hfs L hL).2, (hfs L hL).1.gr g trivial⟩ }
  · rcases hr.append e with e | ⟨_, e⟩
    · obtain ⟨v, e1, r⟩ := hr.find e
      refine ⟨v, ?_, r⟩
      rw [← e1]
      exact lookup_reverse_of_nodup _ hnb _
    · have := (hf y b e).1
      have hk'' : fd.scope.names.lookup y = some .local := hk'
      rw [this] at hk''; cases hk''
  · rcases hr.append e with e | ⟨_, e⟩
    · have hm : y ∈ ρ.map (·.1) := List.mem_map_of_mem (f := (·.1)) (mem_of_lookup e)
      have hl := hk y hm
      rcases hk' with hk' | hk' <;> (have hk'' : fd.scope.names.lookup y = _ := hk'; rw [hl] at hk''; cases hk'')
    · obtain ⟨c, o, v, e1, ho, hd, r⟩ := (hf y b e).2
      exact ⟨c, v, e1, ⟨o, hkeep _ _ (ok.sub _ _ ho), hd⟩, r⟩
  · obtain ⟨o, e'⟩ := D.clok y c e
    obtain ⟨o2, e2⟩ := cl1 y c e
    refine ⟨live _ ⟨o2, e2⟩, fun q => ?_, ⟨o2, hkeep _ _ e2⟩⟩
    rw [ok.tabF c q] at e'; cases e'
  · obtain ⟨m1, m2⟩ := hω p hp
    have hlive := m1.live
    refine ⟨m1.gr g trivial (hωT p hp), m2, hωT p hp, live _ hlive, fun x c e q => ?_, .inr (List.mem_map_of_mem (f := (·.1)) hp)⟩
    obtain ⟨o, e'⟩ := D.clok x c e
    rw [← q, m2] at e'; cases e'
end
section
variable {C : Cx} {fm : Fm} {ρ ρ' ρc ρf : Rho} {σ σ' ω ω' : Sig} {F F' F'' : Ghost} {s s' s'' : Shared} {out : Out}
/- what a call gives that writes some objects of its caller's -/
structure FnW (C : Cx) (d : Nat) (F : Ghost) (f : Value) (args : List AV) (kw : Rho) (ω : Sig) (res : AV) (ω' : Sig) : Prop where
  of ::
  h : ∀ F₁ s A vals kvs, GLe F F₁ → Ok C F₁ s → Room A d → Reps F₁ args vals → Binds F₁ kw kvs → SigOk F₁ s ω → (∀ p ∈ ω, p.1 ∉ C.T) →
    wpAny C.M A (call f vals kvs) (fun v s' => ∃ F', Gr C (fun a => a ∉ ω.map (·.1)) F₁ s F' s' ∧ SigOk F' s' ω' ∧ Rep F' res v) (fun _ _ => False) s
theorem FnW.fn {d f args kw res} (h : FnW C d F f args kw [] res []) : Fn C d F f args kw res := ⟨fun F₁ s A vals kvs hF ok room hv hk =>
  wpAny_mono (h.h F₁ s A vals kvs hF ok room hv hk (fun p hp => (nomatch hp)) (fun p hp => (nomatch hp))) (fun v s' ⟨F', g, _, r⟩ => ⟨F', Gr.weak (fun a _ q => nomatch q) g, r⟩) fun _ _ q => q⟩
theorem Fn.mono {d f args kw res} (h : Fn C d F f args kw res) (hF : GLe F F') : Fn C d F' f args kw res := ⟨fun F₁ s A vals kvs hF' => h.h F₁ s A vals kvs (hF.trans hF')⟩
theorem Fn.le {d d' f args kw res} (h : Fn C d F f args kw res) (hd : d ≤ d') : Fn C d' F f args kw res := ⟨fun F₁ s A vals kvs hF' ok room => h.h F₁ s A vals kvs hF' ok (room.le hd)⟩
noncomputable def Out.resW : Out → Option (AV × Sig)
  | .ret a σ => some (a, σ)
  | .nxt _ σ => some (.none, σ)
  | _ => .none
theorem gfin {A : Around} {sc : Scope} {L a : Addr} {q : Str} {cd : Value} {cl : List (Str × Addr)} {E : Addr → Prop} {I : Ghost → Prop} {s₁ : Shared} (hE : ∀ b, E b ↔ ∃ o, s.heap.get? b = some o) (g : Grow C F s F s₁)
    (g' : Gr C (Kf (gfm A sc L a q cd cl E (ω.map (·.1)) I)) F s₁ F' s') : Gr C (fun a => a ∉ ω.map (·.1)) F s F' s' := by
  have hK : ∀ b, (∃ o, s.heap.get? b = some o) → b ∉ ω.map (·.1) → Kf (gfm A sc L a q cd cl E (ω.map (·.1)) I) b := fun b hb hn => ⟨(hE b).mpr hb, hn⟩
  refine ⟨g'.ok, g'.le, fun b o e => (g'.new b o e).imp id fun q => ?_, fun b hb hT o e => ((g.keep b trivial hT).trans (g'.keep b (hK b ⟨o, e⟩ hb) hT)) o e, g'.os.trans g.os⟩
  by_cases hw : b ∈ ω.map (·.1)
  · exact .inr fun q => q hw
  · left
    cases e' : s.heap.get? b with
    | none => rfl
    | some o' =>
      rcases q with q | q
      · obtain ⟨o2, e2⟩ := g.live (a := b) trivial ⟨o', e'⟩
        rw [q] at e2; cases e2
      · exact absurd (hK b ⟨o', e'⟩ hw) q
theorem FnW.body {d : Nat} {a : Addr} {fd : FuncData} {cl : List (Str × Addr)} {body : List Stmt} {sc : Scope} {args : List AV} {kw : Rho} {res : AV} {I : Ghost → Prop} (D : DefG F a fd cl) (hI : I F) (hM : Mono I) (hbody : fd.body = .stmts body) (hsc : fd.scope = sc)
    (hb : ∀ F s vals kvs, Ok C F s → Reps F args vals → Binds F kw kvs → ∃ bs, BindsTo s fd ⟨vals, kvs⟩ bs ∧ Binds F ρ bs)
    (hn : (ρ.map (·.1)).Nodup) (hk : ∀ x ∈ ρ.map (·.1), sc.names.lookup x = some .local) (hf : ∀ x b, ρf.lookup x = some b → sc.names.lookup x = some .free ∧ CelF F cl x b) (hc : ∀ x ∈ sc.names, x.2 ≠ .cell)
    (hkf : sc.kind = .function) (hco : sc.isCoroutine = false) (hgen : sc.isGenerator = false) (hωn : (ω.map (·.1)).Nodup)
    (hh : ∀ A L q E, q = fd.qualname ++ ".<locals>." → Room A (d + 1) → ∃ out, out.resW = some (res, ω') ∧ Ex C (gfm A sc L a q fd.code cl E (ω.map (·.1)) I) (ρ ++ ρf) ω body out) : FnW C (d + 1) F (.ref a) args kw ω res ω' := by
  subst hsc
  refine ⟨fun F₁ s A vals kvs hF ok room hv hkv hω hωT => ?_⟩
  obtain ⟨bs, hbs, hr⟩ := hb F₁ s vals kvs ok hv hkv
  have D₁ := D.mono hF
  obtain ⟨o, ho, hd⟩ := D₁.at'
  have dep := room.dep
  refine wpAny_call (codeAny_call_function (by show A.depth < 1000; omega) (ok.sub _ _ ho) hd hco hgen hbody (by obtain ⟨c, oc, vs, t, e, hoc, r⟩ := D₁.code; exact ⟨c, oc, vs, t, e, ok.sub _ _ hoc, r⟩) (hbs _ _ _ _ ?_))
  refine frame_g A D₁ (hM _ _ hF hI) hM ok hr hn hk (fun x b e => ⟨(hf x b e).1, (hf x b e).2.mono hF⟩) hc hkf hω hωT hωn (fs := []) (fun L hL => (nomatch hL)) fun L E s₁ hE X g => ⟨C.lim.keeps (hsub g.ok), codeAny_func ?_⟩
  obtain ⟨out, ho, hx⟩ := hh A L _ E rfl room
  refine wpAny_mono (hx.h F₁ s₁ X) (fun f s' ⟨F', g', r⟩ => ?_) fun e s' q => ?_
  · have G := gfin hE g g'
    cases out with
    | nxt ρ₁ σ₁ => obtain ⟨rfl, X'⟩ := r; cases ho; exact ⟨F', G, X'.allOk, rVal⟩
    | ret b σ₁ => obtain ⟨v, rfl, rv, hs⟩ := r; cases ho; exact ⟨F', G, hs.sig, rv⟩
    | brk => cases ho
    | cnt => cases ho
    | rse => cases ho
  · obtain ⟨P, e, _⟩ := q; subst e; cases ho
/- a lambda's -/
theorem Fn.lam {d : Nat} {a : Addr} {fd : FuncData} {cl : List (Str × Addr)} {body : Expr} {sc : Scope} {args : List AV} {kw : Rho} {res : AV} {I : Ghost → Prop} (D : DefG F a fd cl) (hI : I F) (hM : Mono I) (hbody : fd.body = .expr body) (hsc : fd.scope = sc)
    (hb : ∀ F s vals kvs, Ok C F s → Reps F args vals → Binds F kw kvs → ∃ bs, BindsTo s fd ⟨vals, kvs⟩ bs ∧ Binds F ρ bs)
    (hn : (ρ.map (·.1)).Nodup) (hk : ∀ x ∈ ρ.map (·.1), sc.names.lookup x = some .local) (hf : ∀ x b, ρf.lookup x = some b → sc.names.lookup x = some .free ∧ CelF F cl x b) (hc : ∀ x ∈ sc.names, x.2 ≠ .cell)
    (hkf : sc.kind = .function) (hco : sc.isCoroutine = false) (hgen : sc.isGenerator = false)
    (hh : ∀ A L q E, q = fd.qualname ++ ".<locals>." → Room A (d + 1) → Ev C (gfm A sc L a q fd.code cl E [] I) (ρ ++ ρf) [] body res) : Fn C (d + 1) F (.ref a) args kw res := by
  subst hsc
  refine ⟨fun F₁ s A vals kvs hF ok room hv hkv => ?_⟩
  obtain ⟨bs, hbs, hr⟩ := hb F₁ s vals kvs ok hv hkv
  have D₁ := D.mono hF
  obtain ⟨o, ho, hd⟩ := D₁.at'
  have dep := room.dep
  refine wpAny_call (kla_callFunE (by show A.depth < 1000; omega) (ok.sub _ _ ho) hd hco hgen hbody (by obtain ⟨c, oc, vs, t, e, hoc, r⟩ := D₁.code; exact ⟨c, oc, vs, t, e, ok.sub _ _ hoc, r⟩) (hbs _ _ _ _ ?_))
  refine frame_g (ω := []) A D₁ (hM _ _ hF hI) hM ok hr hn hk (fun x b e => ⟨(hf x b e).1, (hf x b e).2.mono hF⟩) hc hkf (fun p hp => (nomatch hp)) (fun p hp => (nomatch hp)) List.nodup_nil (fs := []) (fun L hL => (nomatch hL)) fun L E s₁ hE X g => ⟨C.lim.keeps (hsub g.ok), kla_codeExpr ?_⟩
  exact wpAny_mono ((hh A L _ E rfl room).h F₁ s₁ X) (fun v s' ⟨F', g', r⟩ => ⟨F', g.trans g', r⟩) fun _ _ q => q.elim
/- a fact of the ghost joins the frame's -/
noncomputable abbrev Fm.and (fm : Fm) (J : Ghost → Prop) : Fm := { fm with I := fun F => fm.I F ∧ J F }
theorem Mono.and {I J : Ghost → Prop} (h : Mono I) (h' : Mono J) : Mono fun F => I F ∧ J F := fun F F' g q => ⟨h F F' g q.1, h' F F' g q.2⟩
theorem St.and {J : Ghost → Prop} (X : St C fm ρ σ F s) (hJ : J F) (hM : Mono J) : St C (fm.and J) ρ σ F s := { X with inv := ⟨X.inv, hJ⟩, imo := Mono.and X.imo hM }
theorem St.un {J : Ghost → Prop} (hI : Mono fm.I) (X : St C (fm.and J) ρ σ F s) : St C fm ρ σ F s := { X with inv := X.inv.1, imo := hI }
theorem OutQ.un {J : Ghost → Prop} {f : Flow} (hI : Mono fm.I) (h : OutQ C (fm.and J) F s out f s') : OutQ C fm F s out f s' := by
  obtain ⟨F', g, r⟩ := h
  cases out with
  | nxt => exact ⟨F', g, r.1, r.2.un hI⟩
  | brk => exact ⟨F', g, r.1, r.2.un hI⟩
  | cnt => exact ⟨F', g, r.1, r.2.un hI⟩
  | ret => exact ⟨F', g, let ⟨v, e, h, q⟩ := r; ⟨v, e, h, q.1, q.2, q.3, q.4, q.5⟩⟩
  | rse => exact r.elim
/- a def within a frame -/
theorem Ex.nest {name : Str} {params : Arguments} {body : List Stmt} {scope : Scope} {pos : Pos} {ss : List Stmt} {c P : Addr} (hmem : (c, P) ∈ C.tabs) (hcode : fm.env.code = .ref c) (hq : C.tq P = qualnameIn fm.env name name) (hst : Sto fm name)
    (hcl : fm.cl = true) (hfr : ∀ x ∈ scope.names, x.2 = .free → fm.env.kindOf x.1 = some .cell)
    (h : ∀ f fd, (∃ doc pm cdv ctv, fd = fdX name (qualnameIn fm.env name name) params (.stmts body) scope (cloOf fm.env scope.names []) doc pm cdv ctv) →
      Ex C (fm.and fun F => F f = some (fnObj fd) ∧ CodeF F fd.code fd.qualname) ((name, .val (.ref f)) :: ρ) σ ss out)
    (hd0 : params.defaults = [] := by rfl) (hk0 : params.kw_defaults = [] := by rfl) (ha : annTrees params none fm.env = [] := by rfl) :
    Ex C fm ρ σ (.FunctionDef name params body [] none [] scope none name pos :: ss) out := ⟨fun F s X => by
  have hclo : closureFor scope fm.env = pure (cloOf fm.env scope.names []) := closureFor_eq fun x hx hk => by
    obtain ⟨c, v, e, _⟩ := X.own hcl x.1 (hfr x hx hk)
    rw [e]; rfl
  refine wpAny_execs_cons (nestDef_K hd0 hk0 ha (X.make hmem hcode hq hclo fun f cdv ctv doc pm F₁ s₁ g hF hC => ?_))
  refine (X.grow g).stor hst (rVal (w := .ref f)) fun s₂ g₂ X₂ => ?_
  have hM : Mono fun F => F f = some (fnObj (fdX name (qualnameIn fm.env name name) params (.stmts body) scope (cloOf fm.env scope.names []) doc pm cdv ctv)) ∧ CodeF F cdv (qualnameIn fm.env name name) := fun F F' hle q => ⟨hle _ _ q.1, q.2.mono hle⟩
  have X₃ := X₂.and ⟨hF, hC⟩ hM
  have hx := h f _ ⟨doc, pm, cdv, ctv, rfl⟩
  exact wpAny_mono (hx.h F₁ s₂ X₃) (fun _ _ q => (q.un X.imo).pre (g.any.trans g₂)) fun e s' q => OutE.pre (g.any.trans g₂) (let ⟨P, e, F', s₀, g', r⟩ := q; ⟨P, e, F', s₀, g', r⟩)⟩
/- the frame's cells are frozen -/
noncomputable abbrev Fm.cut (fm : Fm) (J : Ghost → Prop) : Fm := { fm with cl := false, I := fun F => fm.I F ∧ J F }
noncomputable def CelsOk (fm : Fm) (ρ : Rho) (F : Ghost) : Prop := (∀ x y c, fm.env.cells.lookup x = some c → fm.env.cells.lookup y = some c → x = y) ∧ ∀ x a, ρ.lookup x = some a → fm.env.kindOf x = some .cell → CelF F fm.env.cells x a
theorem CelsOk.mono : Mono (CelsOk fm ρ) := fun F F' h q => ⟨q.1, fun x a e hk => (q.2 x a e hk).mono h⟩
theorem Ex.cells {ss : List Stmt} {a : AV} (hcl : fm.cl = true) (h : Ex C (fm.cut (CelsOk fm ρ)) ρ σ ss (.ret a σ')) : Ex C fm ρ σ ss (.ret a σ') := ⟨fun F s X => by
  let S : Addr → Prop := fun b => ∃ x, fm.env.kindOf x = some .cell ∧ fm.env.cells.lookup x = some b
  have hS : ∀ b, S b → F b = none ∧ ¬ fm.E b ∧ b ∉ C.T ∧ b ≠ fm.env.locals := fun b ⟨x, hk, e⟩ => by
    obtain ⟨c, v, e1, ho, hE, hn⟩ := X.own hcl x hk
    rw [e] at e1; cases e1
    exact ⟨hn, hE, (X.cne x b e).2.1, (X.cne x b e).1⟩
  classical
  let F' : Ghost := fun b => if S b then s.heap.get? b else F b
  have hF' : ∀ b, ¬ S b → F' b = F b := fun b h => by simp only [F', if_neg h]
  have hFS : ∀ b, S b → F' b = s.heap.get? b := fun b h => by simp only [F', if_pos h]
  have le : GLe F F' := fun b o e => by
    by_cases hb : S b
    · rw [(hS b hb).1] at e; cases e
    · rw [hF' b hb]; exact e
  have ok : Ok C F' s := ⟨fun b o e => le _ _ (X.ok.base b o e), fun b o e => by
      by_cases hb : S b
      · rw [hFS b hb] at e; exact e
      · rw [hF' b hb] at e; exact X.ok.sub b o e, X.ok.gens, fun P hP => by rw [hF' P fun q => (hS P q).2.2.1 hP]; exact X.ok.tabF P hP,
    fun P hP => let ⟨ps, e, g⟩ := X.ok.tabs P hP; ⟨ps, e, g.mono le⟩⟩
  have g : Gr C (Kf fm) F s F' s := ⟨ok, le, fun b o e => by
      by_cases hb : S b
      · exact .inr (.inr fun q => (hS b hb).2.1 q.1)
      · rw [hF' b hb] at e; exact .inl e, fun _ _ _ => .of fun _ e => e, rfl⟩
  have hJ : CelsOk fm ρ F' := ⟨X.apart, fun x a e hk => by
    obtain ⟨c, v, e1, ⟨o, ho, hd⟩, r⟩ := X.cel x a e (.inl hk)
    exact ⟨c, o, v, e1, by rw [hFS c ⟨x, hk, e1⟩]; exact ho, hd, Rep.mono le _ _ r⟩⟩
  obtain ⟨m, hns, hm⟩ := X.loc
  have X' : St C (fm.cut (CelsOk fm ρ)) ρ σ F' s := { X with
    ok := ok
    loc := ⟨m, hns, fun x a e hk => let ⟨v, e1, r⟩ := hm x a e hk; ⟨v, e1, Rep.mono le _ _ r⟩⟩
    locF := by rw [hF' _ fun q => (hS _ q).2.2.2 rfl]; exact X.locF
    cel := fun x a e hk => let ⟨c, v, e1, ho, r⟩ := X.cel x a e hk; ⟨c, v, e1, ho, Rep.mono le _ _ r⟩
    own := fun q => nomatch q
    mu := fun p hp => let ⟨h1, h2, h3, h4, h5, h6⟩ := X.mu p hp; ⟨h1.mono le, by rw [hF' _ fun ⟨x, _, e⟩ => h5 x _ e rfl]; exact h2, h3, h4, h5, h6⟩
    inv := ⟨X.imo _ _ le X.inv, hJ⟩
    imo := Mono.and X.imo CelsOk.mono
    fr := fun L hL => let ⟨h1, h2, h3, h4, h5⟩ := X.fr L hL; ⟨h1, h2, by rw [hF' _ fun q => (hS _ q).2.1 h1]; exact h3, h4, h5⟩ }
  exact wpAny_mono (h.h F' s X') (fun f s' q => OutQ.pre g (let ⟨F'', g', v, e, h, q⟩ := q; ⟨F'', g', v, e, h, q.1, q.2, q.3, q.4, q.5⟩)) fun e s' ⟨P, q, _⟩ => nomatch q⟩
/- a nested def's closure stands -/
theorem cloOf_at {env : Env} {names : List (Str × NameKind)} {x : Str} {c : Addr} (hx : (x, NameKind.free) ∈ names) (hc : env.cells.lookup x = some c) : (cloOf env names []).lookup x = some c := by
  obtain ⟨c', e⟩ := Option.isSome_iff_exists.mp (cloOf_find (env := env) (acc := []) (.inl hx))
  rcases cloOf_mem (mem_of_lookup e) with q | ⟨_, q⟩
  · cases q
  · rw [e, q, hc]; rfl
theorem DefG.nest {name qual : Str} {params : Arguments} {body : FuncBody} {scope : Scope} {doc pm cdv ctv : Value} {f : Addr} (hF : F f = some (fnObj (fdX name qual params body scope (cloOf fm.env scope.names []) doc pm cdv ctv))) (hC : CodeF F cdv qual) (hJ : CelsOk fm ρ F)
    (hfr : ∀ x ∈ scope.names, x.2 = .free → (ρ.lookup x.1).isSome = true ∧ fm.env.kindOf x.1 = some .cell) :
    DefG F f (fdX name qual params body scope (cloOf fm.env scope.names []) doc pm cdv ctv) (cloOf fm.env scope.names []) ∧ ∀ x a, ρ.lookup x = some a → (x, NameKind.free) ∈ scope.names → CelF F (cloOf fm.env scope.names []) x a := by
  have key : ∀ x c, (cloOf fm.env scope.names []).lookup x = some c → (x, NameKind.free) ∈ scope.names ∧ fm.env.cells.lookup x = some c := fun x c e => by
    rcases cloOf_mem (mem_of_lookup e) with q | ⟨q, e2⟩
    · cases q
    · obtain ⟨h1, h2⟩ := hfr _ q rfl
      obtain ⟨a, ha⟩ := Option.isSome_iff_exists.mp h1
      obtain ⟨c', o, v, e3, _⟩ := hJ.2 x a ha h2
      rw [e2, e3]; exact ⟨q, rfl⟩
  refine ⟨⟨⟨_, hF, rfl⟩, hC, rfl, rfl, rfl, fun x c e => ?_, fun x y c e1 e2 => hJ.1 x y c (key x c e1).2 (key y c e2).2⟩, fun x a e hx => ?_⟩
  · obtain ⟨q, e1⟩ := key x c e
    obtain ⟨h1, h2⟩ := hfr _ q rfl
    obtain ⟨a, ha⟩ := Option.isSome_iff_exists.mp h1
    obtain ⟨c', o, v, e3, ho, _⟩ := hJ.2 x a ha h2
    rw [e1] at e3; cases e3
    exact ⟨o, ho⟩
  · obtain ⟨h1, h2⟩ := hfr _ hx rfl
    obtain ⟨c, o, v, e3, ho, hd, r⟩ := hJ.2 x a e h2
    exact ⟨c, o, v, cloOf_at hx e3, ho, hd, r⟩
/- a def of the top, as the ghost holds it -/
theorem Def.g {a : Addr} {fd : FuncData} {body : List Stmt} {sc : Scope} (D : Def C a fd body sc) (ok : Ok C F s) : DefG F a fd [] :=
  ⟨let ⟨o, ho, hd⟩ := D.at'; ⟨o, ok.base _ _ ho, hd⟩, let ⟨c, o, vs, t, e, ho, r⟩ := D.code; ⟨c, o, vs, t, e, ok.base _ _ ho, r⟩, D.glb, D.blt, D.clo, fun x c e => (nomatch e), fun x y c e => (nomatch e)⟩
/- a call that writes one of the frame's objects -/
theorem EvM.call {x : Str} {px pos : Pos} {es : List Expr} {kws : List Keyword} {f : Value} {as : List AV} {kρ : Rho} {res : AV} {d : Nat} {l : Addr} {o o' : MO} (room : Room fm.A d)
    (hf : Ev C fm ρ σ (.Name x px) (.val f)) (has : Evs C fm ρ σ es as) (hks : Evk C fm ρ σ kws kρ) (u : Upd σ l o o' σ')
    (hfn : ∀ F s, St C fm ρ σ F s → KpOk F f ∧ FnW C d F f as kρ [(l, o)] res [(l, o')]) (hpl : Plain es fm.env := by rfl) (hkw : kws.all (fun k => k.arg.isSome) = true := by rfl) :
    EvM C fm ρ σ (.Call (.Name x px) es kws pos) res σ' := ⟨fun F s X => by
  refine wpAny_Call_Name_kw (wpAny_mono (hf.h F s X) (fun v s₁ ⟨F₁, g₁, r₁⟩ => ?_) fun _ _ q => q)
  obtain rfl := r₁.oval
  have X₁ := X.grow g₁
  have hk := kwAll (pos := pos) (env := fm.env) hkw
  refine callWith_any (backTo_any hpl) hk.2 (evalArgs_any hpl hk.1 (wpAny_mono (has.h F₁ s₁ pos X₁) (fun vs s₂ ⟨F₂, g₂, r₂⟩ => ?_) fun _ _ q => q))
  have X₂ := X₁.grow g₂
  refine wpAny_mono (hks.h F₂ s₂ pos X₂) (fun ks s₃ ⟨F₃, g₃, r₃⟩ => ?_) fun _ _ q => q
  have X₃ := X₂.grow g₃
  obtain ⟨hkp, hfn⟩ := hfn F₃ s₃ X₃
  obtain ⟨hm, hn, hT, _⟩ := X₃.mu _ u.mem
  refine ⟨⟨F₃, X₃.ok, hkp⟩, wpAny_mono (hfn.h F₃ s₃ fm.A vs _ (GLe.refl _) X₃.ok room (Reps.mono g₃.le _ _ r₂) r₃ (sig1 hm hn) (fun p hp => by rw [List.mem_singleton] at hp; subst hp; exact hT)) (fun r s₄ ⟨F₄, g₄, hs, r₄⟩ => ?_) fun _ _ q => q⟩
  obtain ⟨hm', hn'⟩ := hs _ (.head _)
  obtain ⟨X₄, g₅⟩ := X₃.upd u (Gr.weak (fun a (h : a ≠ l) (q : a ∈ [l]) => h (List.mem_singleton.mp q)) g₄) hm' hn'
  exact ⟨F₄, ((g₁.trans g₂).trans g₃).any.trans g₅, X₄, r₄⟩⟩
/- a lambda; a call that takes it by keyword -/
theorem EvM.callK {x k : Str} {px pos p2 p3 : Pos} {es : List Expr} {params : Arguments} {lb : Expr} {lsc : Scope} {f : Value} {as : List AV} {res : AV} {d : Nat} {l : Addr} {o o' : MO} {c P : Addr} (room : Room fm.A d)
    (hmem : (c, P) ∈ C.tabs) (hcode : fm.env.code = .ref c) (hq : C.tq P = fm.env.qual ++ "<lambda>") (hnf : ∀ x ∈ lsc.names, x.2 ≠ .free)
    (hf : Ev C fm ρ σ (.Name x px) (.val f)) (has : Evs C fm ρ σ es as) (u : Upd σ l o o' σ')
    (hfn : ∀ F s g fd, St C fm ρ σ F s → DefG F g fd [] → (∃ pm cdv ctv, fd = fdX "<lambda>" (fm.env.qual ++ "<lambda>") params (.expr lb) lsc [] .none pm cdv ctv) → KpOk F f ∧ FnW C d F f as [(k, .val (.ref g))] [(l, o)] res [(l, o')])
    (hpl : Plain es fm.env := by rfl) (hdef : defaultsOf params fm.env = ([], []) := by rfl) :
    EvM C fm ρ σ (.Call (.Name x px) es [⟨some k, .Lambda params lb lsc p2, p3⟩] pos) res σ' := ⟨fun F s X => by
  refine wpAny_Call_Name_kw (wpAny_mono (hf.h F s X) (fun v s₁ ⟨F₁, g₁, r₁⟩ => ?_) fun _ _ q => q)
  obtain rfl := r₁.oval
  have X₁ := X.grow g₁
  have hk := kwAll (kws := [⟨some k, .Lambda params lb lsc p2, p3⟩]) (pos := pos) (env := fm.env) rfl
  refine callWith_any (backTo_any hpl) hk.2 (evalArgs_any hpl hk.1 (wpAny_mono (has.h F₁ s₁ pos X₁) (fun vs s₂ ⟨F₂, g₂, r₂⟩ => ?_) fun _ _ q => q))
  have X₂ := X₁.grow g₂
  have hclo : closureFor lsc fm.env = pure [] := by
    have h1 := closureFor_eq (env := fm.env) (scope := lsc) fun x hx hk => absurd hk (hnf x hx)
    have h2 : ∀ (names : List (Str × NameKind)), (∀ x ∈ names, x.2 ≠ .free) → cloOf fm.env names [] = [] := by
      intro names
      induction names with
      | nil => intro _; rfl
      | cons p r ih =>
        intro h
        obtain ⟨n, kd⟩ := p
        have : (kd == NameKind.free) = false := by have := h (n, kd) (.head _); simpa using this
        unfold cloOf
        rw [this]
        exact ih fun x hx => h x (.tail _ hx)
    rw [h1, h2 _ hnf]
  refine kws_cons (kla_eval hdef (X₂.makeE hmem hcode hq hclo fun g cdv ctv pm F₃ s₃ g₃ hF hC => evalAll_nil ?_))
  have X₃ := X₂.grow g₃
  have D : DefG F₃ g (fdX "<lambda>" (fm.env.qual ++ "<lambda>") params (.expr lb) lsc [] .none pm cdv ctv) [] := ⟨⟨_, hF, rfl⟩, hC, rfl, rfl, rfl, fun x c e => (nomatch e), fun x y c e => (nomatch e)⟩
  obtain ⟨hkp, hfn⟩ := hfn F₃ s₃ g _ X₃ D ⟨pm, cdv, ctv, rfl⟩
  obtain ⟨hm, hn, hT, _⟩ := X₃.mu _ u.mem
  refine ⟨⟨F₃, X₃.ok, hkp⟩, wpAny_mono (hfn.h F₃ s₃ fm.A vs _ (GLe.refl _) X₃.ok room (Reps.mono g₃.le _ _ r₂) (Binds.cons rVal Binds.nil) (sig1 hm hn) (fun p hp => by rw [List.mem_singleton] at hp; subst hp; exact hT)) (fun r s₄ ⟨F₄, g₄, hs, r₄⟩ => ?_) fun _ _ q => q⟩
  obtain ⟨hm', hn'⟩ := hs _ (.head _)
  obtain ⟨X₄, g₅⟩ := X₃.upd u (Gr.weak (fun a (h : a ≠ l) (q : a ∈ [l]) => h (List.mem_singleton.mp q)) g₄) hm' hn'
  exact ⟨F₄, ((g₁.trans g₂).trans g₃).any.trans g₅, X₄, r₄⟩⟩
end
section
variable {C : Cx} {fm : Fm} {ρ ρ' ρc ρf : Rho} {σ σ' ω ω' : Sig} {F F' F'' : Ghost} {s s' s'' : Shared} {out : Out}
/- a list of the frame's read as if it were frozen -/
theorem Ev.thaw {x : Str} {l : Addr} {xs : List AV} {e : Expr} {i : Int} (h : Ev C fm ((x, .list xs) :: ρ) σ e (.int i)) : Ev C fm ((x, .val (.ref l)) :: ρ) ((l, .lst xs) :: σ) e (.int i) := ⟨fun F s X => by
  obtain ⟨⟨vs, ⟨n, ho⟩, hr⟩, hn, hT, _⟩ := X.mu _ (.head _)
  obtain ⟨F', g0, X', hF'⟩ : ∃ F', Gr C (Kf fm) F s F' s ∧ St C fm ((x, .list xs) :: ρ) σ F' s ∧ (∀ a o, F' a = some o → a = l ∨ F a = some o) ∧ ∃ o, F' l = some o ∧ o.cls = .type "list" := by
    obtain ⟨F', g0, X', q⟩ := X.freeze'
    exact ⟨F', g0, X', q⟩
  obtain ⟨hF', o₁, hl1, hc1⟩ := hF'
  refine wpAny_mono (h.h F' s X') (fun v s₁ ⟨F₁, g, r⟩ => ?_) fun _ _ q => q
  obtain ⟨t, rfl⟩ := r.oint
  have hd : ∀ b o, F b = some o → b ≠ l := fun b o e q => by rw [q, hn] at e; cases e
  classical
  let F₂ : Ghost := fun b => if b = l then none else F₁ b
  have h2 : ∀ b, b ≠ l → F₂ b = F₁ b := fun b hb => by simp only [F₂, if_neg hb]
  have h3 : ∀ b o, F₂ b = some o → b ≠ l ∧ F₁ b = some o := fun b o e => by
    by_cases hb : b = l
    · simp only [F₂, if_pos hb] at e; cases e
    · rw [h2 b hb] at e; exact ⟨hb, e⟩
  have le : GLe F F₂ := fun b o e => by rw [h2 b (hd b o e)]; exact g.le _ _ (g0.le _ _ e)
  refine ⟨F₂, ⟨⟨fun b o e => le _ _ (X.ok.base b o e), fun b o e => g.ok.sub b o (h3 b o e).2, g.ok.gens, fun P hP => ?_, fun P hP => ?_⟩, le, fun b o e => ?_, g.keep, g.os⟩, rInt⟩
  · cases e : F₂ P with
    | none => rfl
    | some o => have := (h3 P o e).2; rw [g.ok.tabF P hP] at this; cases this
  · obtain ⟨ps, e, g1, g2⟩ := g.ok.tabs P hP
    refine ⟨ps, e, g1, fun pos cv e' => ?_⟩
    obtain ⟨c, o, vs', t', e1, e2, e3, e4⟩ := g2 pos cv e'
    refine ⟨c, o, vs', t', e1, ?_, e3, e4⟩
    have hc : c ≠ l := fun q => by
      subst q
      have h5 := g.ok.sub _ _ e2
      have h6 := g.ok.sub _ _ (g.le _ _ hl1)
      rw [h5] at h6; cases h6
      obtain ⟨os, hos, hk⟩ := g.keep c trivial hT _ ho
      rw [h5] at hos; cases hos
      have := hk.data
      rw [e3] at this; cases this
    rw [h2 c hc]; exact e2
  · obtain ⟨hb, e'⟩ := h3 b o e
    rcases g.new b o e' with q | q
    · exact .inl ((hF' b o q).resolve_left hb)
    · exact .inr q⟩
/- an item of the frame's list is stored -/
theorem Es.setItem {v o i : Expr} {pos' pos : Pos} {l : Addr} {xs : List AV} {a : AV} {k : Nat} (hv : Ev C fm ρ σ v a) (ho : Ev C fm ρ σ o (.val (.ref l))) (hi : Ev C fm ρ σ i (.int k)) (u : Upd σ l (.lst xs) (.lst (xs.set k a)) σ') (hk : k < xs.length) (hz : xs.length ≤ 1000000)
    (hs : swapsWith v (some (.Subscript o i pos')) pos.line fm.env = pure false := by rfl) : Es C fm ρ σ (.Assign [.Subscript o i pos'] v pos) (.nxt ρ σ') := ⟨fun F s X => by
  refine wpAny_Assign_Subscript (wpAny_mono (hv.h F s X) (fun vv s₁ ⟨F₁, g₁, r₁⟩ => wpAny_mono (ho.h F₁ s₁ (X.grow g₁)) (fun ov s₂ ⟨F₂, g₂, r₂⟩ => wpAny_mono (hi.h F₂ s₂ ((X.grow g₁).grow g₂)) (fun iv s₃ ⟨F₃, g₃, r₃⟩ => ?_) fun _ _ q => q.elim) fun _ _ q => q.elim) fun _ _ q => q.elim) hs
  obtain rfl := r₂.oval
  obtain ⟨t, rfl⟩ := r₃.oint
  have g := (g₁.trans g₂).trans g₃
  have X₃ := X.grow g
  obtain ⟨⟨ws, hp, hr⟩, hn, hT, _⟩ := X₃.mu _ u.mem
  have hl := hr.length
  obtain ⟨x, hx⟩ : ∃ x : Int, x = k := ⟨_, rfl⟩
  rw [← hx]
  have hxk : x.toNat = k := by omega
  refine setItem_plain hp (by first | assumption | decide | omega) (by first | assumption | decide | omega) (by rw [List.size_toArray]; omega) fun h' hp' hs' => ?_
  rw [hxk] at hp'
  have g2 : Gr C (fun b => b ≠ l) F₃ s₃ F₃ { s₃ with heap := h' } := Gr.weak (fun a (h : a ≠ l) (q : a ∈ [l]) => h (List.mem_singleton.mp q)) (Gr.one (l := l) (n := s₃.toks) g₃.ok hn hT fun b o hb e => hs'.extBut b o hb e)
  obtain ⟨X₄, g₄⟩ := X₃.upd u g2 ⟨ws.set k vv, by simpa using hp', Reps.set (Rep.mono (g₂.le.trans g₃.le) _ _ r₁) k hr⟩ hn
  exact ⟨F₃, g.any.trans g₄, rfl, X₄⟩⟩
/- an int in the frame's list is changed -/
theorem Es.augItem {o i v : Expr} {pos' pos : Pos} {op : Operator} {l : Addr} {xs : List AV} {a b c : Int} {k : Nat} (ho : Ev C fm ρ σ o (.val (.ref l))) (hi : Ev C fm ρ σ i (.int k)) (hx : xs[k]? = some (.int a)) (hv : Ev C fm ρ σ v (.int b)) (hop : InI op a b c) (u : Upd σ l (.lst xs) (.lst (xs.set k (.int c))) σ') (hz : xs.length ≤ 1000000)
    (ha : ∀ ov iv new, augStore i ov iv new = (do holding [new, ov, iv] (PySem.setItem ov iv new); release [new, ov, iv] []; pure .next) := by intro _ _ _; rfl) : Es C fm ρ σ (.AugAssign (.Subscript o i pos') op v pos) (.nxt ρ σ') := ⟨fun F s X => by
  refine wpAny_AugAssign_Subscript_any (wpAny_mono (ho.h F s X) (fun ov s₁ ⟨F₁, g₁, r₁⟩ => wpAny_mono (hi.h F₁ s₁ (X.grow g₁)) (fun iv s₂ ⟨F₂, g₂, r₂⟩ => ?_) fun _ _ q => q.elim) fun _ _ q => q.elim) ha
  obtain rfl := r₁.oval
  obtain ⟨t, rfl⟩ := r₂.oint
  have X₂ := (X.grow g₁).grow g₂
  obtain ⟨⟨ws, hp, hr⟩, hn, hT, _⟩ := X₂.mu _ u.mem
  have hkl : k < xs.length := (List.getElem?_eq_some_iff.mp hx).1
  have hl := hr.length
  obtain ⟨w, ew, rw'⟩ := hr.get hx
  obtain ⟨tw, rfl⟩ := rw'.oint
  obtain ⟨x, hx'⟩ : ∃ x : Int, x = k := ⟨_, rfl⟩
  rw [← hx']
  have hxk : x.toNat = k := by omega
  refine wpAny_getItem_list hp.isList (by first | assumption | decide | omega) (by first | assumption | decide | omega) (by rw [hxk]; simpa using ew) ?_
  refine wpAny_mono (hv.h F₂ s₂ X₂) (fun vv s₃ ⟨F₃, g₃, r₃⟩ => ?_) fun _ _ q => q.elim
  obtain ⟨tv, rfl⟩ := r₃.oint
  refine hop.h _ _ _ _ _ _ _ _ ?_
  have g4 := Grow.tok1 g₃.ok
  have X₄ := (X₂.grow g₃).grow g4
  obtain ⟨⟨ws, hp, hr⟩, hn, hT, _⟩ := X₄.mu _ u.mem
  have hl := hr.length
  refine setItem_plain hp (by first | assumption | decide | omega) (by first | assumption | decide | omega) (by rw [List.size_toArray]; omega) fun h' hp' hs' => ?_
  rw [hxk] at hp'
  have g2 : Gr C (fun b => b ≠ l) F₃ { s₃ with toks := s₃.toks + 1 } F₃ { s₃ with toks := s₃.toks + 1, heap := h' } := Gr.weak (fun a (h : a ≠ l) (q : a ∈ [l]) => h (List.mem_singleton.mp q)) (Gr.one (l := l) (n := s₃.toks + 1) g4.ok hn hT fun b o hb e => hs'.extBut b o hb e)
  obtain ⟨X₅, g₅⟩ := X₄.upd u g2 ⟨ws.set k (.int c s₃.toks), by simpa using hp', Reps.set rInt k hr⟩ hn
  exact ⟨F₃, (((g₁.trans g₂).trans g₃).trans g4).any.trans g₅, rfl, X₅⟩⟩
theorem Src.eq {iter tgt : Expr} {xs ys : List AV} (h : Src C fm ρ σ iter tgt xs) (q : xs = ys) : Src C fm ρ σ iter tgt ys := q ▸ h
/- plain parameters -/
noncomputable abbrev HB (C : Cx) (fd : FuncData) (args : List AV) (kw ρ : Rho) : Prop := ∀ F s vals kvs, Ok C F s → Reps F args vals → Binds F kw kvs → ∃ bs, BindsTo s fd ⟨vals, kvs⟩ bs ∧ Binds F ρ bs
theorem HB.one {fd : FuncData} {x : Str} {a : AV} (h : ∀ v (s : Shared), BindsTo s fd ⟨[v], []⟩ [(x, v)]) : HB C fd [a] [] [(x, a)] := fun F s vals kvs ok hv hk => by
  obtain ⟨v, r, rfl, rv, rn⟩ := hv.ocons
  obtain rfl := rn.onil
  cases hk
  exact ⟨_, h v s, Binds.cons rv Binds.nil⟩
theorem HB.two {fd : FuncData} {x y : Str} {a b : AV} (h : ∀ v u (s : Shared), BindsTo s fd ⟨[v, u], []⟩ [(x, v), (y, u)]) : HB C fd [a, b] [] [(x, a), (y, b)] := fun F s vals kvs ok hv hk => by
  obtain ⟨v, r, rfl, rv, rn⟩ := hv.ocons
  obtain ⟨u, r, rfl, ru, rn⟩ := rn.ocons
  obtain rfl := rn.onil
  cases hk
  exact ⟨_, h v u s, Binds.cons rv (Binds.cons ru Binds.nil)⟩
theorem HB.three {fd : FuncData} {x y z : Str} {a b c : AV} (h : ∀ v u w (s : Shared), BindsTo s fd ⟨[v, u, w], []⟩ [(x, v), (y, u), (z, w)]) : HB C fd [a, b, c] [] [(x, a), (y, b), (z, c)] := fun F s vals kvs ok hv hk => by
  obtain ⟨v, r, rfl, rv, rn⟩ := hv.ocons
  obtain ⟨u, r, rfl, ru, rn⟩ := rn.ocons
  obtain ⟨w, r, rfl, rw', rn⟩ := rn.ocons
  obtain rfl := rn.onil
  cases hk
  exact ⟨_, h v u w s, Binds.cons rv (Binds.cons ru (Binds.cons rw' Binds.nil))⟩
theorem HB.five {fd : FuncData} {x y z p q : Str} {a b c d e : AV} (h : ∀ v1 v2 v3 v4 v5 (s : Shared), BindsTo s fd ⟨[v1, v2, v3, v4, v5], []⟩ [(x, v1), (y, v2), (z, v3), (p, v4), (q, v5)]) : HB C fd [a, b, c, d, e] [] [(x, a), (y, b), (z, c), (p, d), (q, e)] := fun F s vals kvs ok hv hk => by
  obtain ⟨v, r, rfl, rv, rn⟩ := hv.ocons
  obtain ⟨u, r, rfl, ru, rn⟩ := rn.ocons
  obtain ⟨w, r, rfl, rw', rn⟩ := rn.ocons
  obtain ⟨w4, r, rfl, rw4, rn⟩ := rn.ocons
  obtain ⟨w5, r, rfl, rw5, rn⟩ := rn.ocons
  obtain rfl := rn.onil
  cases hk
  exact ⟨_, h v u w w4 w5 s, Binds.cons rv (Binds.cons ru (Binds.cons rw' (Binds.cons rw4 (Binds.cons rw5 Binds.nil))))⟩
theorem fnDivmod {d : Nat} {a b : Int} (hb : b ≠ 0) (hp : Builtin.divisionGoesByPylong a b = false) : Fn C d F (.builtin "divmod") [.int a, .int b] [] (.tup [.int (a.fdiv b), .int (a.fmod b)]) := Fn.bi fun F s A vals Q E ok room r h => by
  obtain ⟨v, r', rfl, rv, rn⟩ := r.ocons
  obtain ⟨u, r', rfl, ru, rn⟩ := rn.ocons
  obtain rfl := rn.onil
  obtain ⟨t, rfl⟩ := rv.oint
  obtain ⟨t', rfl⟩ := ru.oint
  refine divmod_int hb ?_ (.inl hp)
  have g1 := Grow.toks ok (s.toks + 1 + 1)
  have g2 := Grow.alloc g1.ok { cls := .type "tuple", data := .seq #[.int (a.fdiv b) s.toks, .int (a.fmod b) (s.toks + 1)] }
  exact h _ _ _ (g1.trans g2) (rTup (vs := [.int (a.fdiv b) s.toks, .int (a.fmod b) (s.toks + 1)]) ⟨_, _, Ghost.add_self _ _ _, rfl, rfl⟩ (rCons rInt (rCons rInt rNil)))
end
/- the k lowest digits of x to the base 2 ^ n -/
noncomputable def digs (n : Nat) : Nat → Nat → List Nat
  | _, 0 => []
  | x, k + 1 => x % 2 ^ n :: digs n (x / 2 ^ n) k
theorem digs_len (n : Nat) : ∀ k x, (digs n x k).length = k
  | 0, _ => rfl
  | k + 1, x => by simp [digs, digs_len n k]
theorem digs_app (n : Nat) (k : Nat) : ∀ j x, digs n x (j + k) = digs n x j ++ digs n (x / 2 ^ (n * j)) k
  | 0, x => by simp [digs]
  | j + 1, x => by
    rw [show j + 1 + k = j + k + 1 by omega]
    simp only [digs, List.cons_append]
    rw [digs_app n k j, Nat.div_div_eq_div_mul, ← Nat.pow_add, show n + n * j = n * (j + 1) by rw [Nat.mul_succ]; omega]
theorem digs_mod (n : Nat) : ∀ j x, digs n (x % 2 ^ (n * j)) j = digs n x j
  | 0, x => rfl
  | j + 1, x => by
    simp only [digs]
    have e : n * (j + 1) = n + n * j := by rw [Nat.mul_succ]; omega
    have h1 : x % 2 ^ (n * (j + 1)) % 2 ^ n = x % 2 ^ n := by
      rw [e, Nat.pow_add]; exact Nat.mod_mul_right_mod _ _ _
    have h2 : x % 2 ^ (n * (j + 1)) / 2 ^ n = x / 2 ^ n % 2 ^ (n * j) := by
      rw [e, Nat.pow_add]; exact Nat.mod_mul_right_div_self _ _ _
    rw [h1, h2, digs_mod n j]
/- the number that the digits make -/
noncomputable def ofDigs (n : Nat) : List Nat → Nat
  | [] => 0
  | d :: r => d + 2 ^ n * ofDigs n r
theorem ofDigs_app (n : Nat) : ∀ xs ys, ofDigs n (xs ++ ys) = ofDigs n xs + 2 ^ (n * xs.length) * ofDigs n ys
  | [], ys => by simp [ofDigs]
  | x :: xs, ys => by
    simp only [List.cons_append, ofDigs, ofDigs_app n xs ys, List.length_cons]
    rw [show n * (xs.length + 1) = n + n * xs.length by rw [Nat.mul_succ]; omega, Nat.pow_add, Nat.mul_add, Nat.mul_assoc]
    omega
theorem ofDigs_lt (n : Nat) : ∀ xs : List Nat, (∀ d ∈ xs, d < 2 ^ n) → ofDigs n xs < 2 ^ (n * xs.length)
  | [], _ => by simp [ofDigs]
  | x :: xs, h => by
    have h1 := h x (.head _)
    have h2 := ofDigs_lt n xs fun d hd => h d (.tail _ hd)
    simp only [ofDigs, List.length_cons]
    rw [show n * (xs.length + 1) = n + n * xs.length by rw [Nat.mul_succ]; omega, Nat.pow_add]
    have : 2 ^ n * (ofDigs n xs + 1) ≤ 2 ^ n * 2 ^ (n * xs.length) := Nat.mul_le_mul_left _ h2
    rw [Nat.mul_add] at this
    omega
theorem ofDigs_digs (n : Nat) : ∀ k x, ofDigs n (digs n x k) = x % 2 ^ (n * k)
  | 0, x => by simp [digs, ofDigs, Nat.mod_one]
  | k + 1, x => by
    simp only [digs, ofDigs, ofDigs_digs n k]
    rw [show n * (k + 1) = n + n * k by rw [Nat.mul_succ]; omega, Nat.pow_add, Nat.mod_mul]
theorem and_low (x s : Nat) : x &&& (x / 2 ^ s * 2 ^ s) = x / 2 ^ s * 2 ^ s := by
  rw [← Nat.shiftRight_eq_div_pow, ← Nat.shiftLeft_eq]
  apply Nat.eq_of_testBit_eq
  intro i
  rw [Nat.testBit_and, Nat.testBit_shiftLeft, Nat.testBit_shiftRight]
  by_cases h : s ≤ i
  · rw [show s + (i - s) = i by omega]; simp [h]
  · simp [h]
theorem xorLow (x s : Nat) : Builtin.bitXor (x : Int) ((x / 2 ^ s * 2 ^ s : Nat) : Int) = ((x % 2 ^ s : Nat) : Int) := by
  rw [bitXor_and, bitAnd_pp (by first | assumption | decide | omega) (by first | assumption | decide | omega), Int.toNat_natCast, Int.toNat_natCast, and_low]
  have := Nat.div_add_mod x (2 ^ s)
  rw [Nat.mul_comm] at this
  omega
theorem shr_nat (x s : Nat) : (x : Int).fdiv (2 ^ s) = ((x / 2 ^ s : Nat) : Int) := by
  have : ((2 : Int) ^ s) = ((2 ^ s : Nat) : Int) := by simp
  rw [this]; exact (Int.ofNat_fdiv x (2 ^ s)).symm
theorem shl_nat (x s : Nat) : (x : Int) * 2 ^ s = ((x * 2 ^ s : Nat) : Int) := by simp
/- how many figures a number has to the base 2 -/
noncomputable def bits (x : Nat) : Nat := if x = 0 then 0 else x.log2 + 1
theorem intBits_nat (x : Nat) : Builtin.Int.intBits (x : Int) = bits x := by
  unfold Builtin.Int.intBits bits
  by_cases h : x = 0
  · subst h; rfl
  · rw [if_neg h]
    have : ((x : Int) == 0) = false := by simpa using h
    rw [this]; simp
theorem lt_bits (x : Nat) : x < 2 ^ bits x := by
  unfold bits
  split
  · omega
  · exact Nat.lt_log2_self
theorem bits_le (x k : Nat) (h : x < 2 ^ k) : bits x ≤ k := by
  unfold bits
  split
  · omega
  · rename_i h0
    have := (Nat.log2_lt h0).mpr h
    omega
section
variable {C : Cx} {fm : Fm} {ρ ρ' ρc ρf : Rho} {σ σ' ω ω' : Sig} {F F' F'' : Ghost} {s s' s'' : Shared} {out : Out}
theorem Ev.eq {e : Expr} {a b : AV} (h : Ev C fm ρ σ e a) (q : a = b) : Ev C fm ρ σ e b := q ▸ h
theorem BinI.eq {op : Operator} {a b c c' : Int} (h : BinI op a b c) (q : c = c') : BinI op a b c' := q ▸ h
theorem BinI.shrN {x s : Nat} : BinI .RShift (x : Int) (s : Int) ((x / 2 ^ s : Nat) : Int) := (BinI.shr (by first | assumption | decide | omega)).eq (by rw [Int.toNat_natCast]; exact shr_nat x s)
theorem BinI.shlN {x s : Nat} (hs : s ≤ 1000000) (hx : x < 2 ^ 64) : BinI .LShift (x : Int) (s : Int) ((x * 2 ^ s : Nat) : Int) := (BinI.shl (by first | assumption | decide | omega) (by first | assumption | decide | omega) (by simpa using hx)).eq (by rw [Int.toNat_natCast]; exact shl_nat x s)
theorem BinI.half {x y : Nat} : BinI .RShift ((x : Int) + y) 1 (((x + y) / 2 : Nat) : Int) := (BinI.shr (by first | assumption | decide | omega)).eq (by
  rw [← Int.natCast_add, show (1 : Int).toNat = 1 from rfl, shr_nat])
theorem mulOk {x y : Nat} (h : x ≤ 1000000) : IntMulOk (x : Int) y := IntMulOk.of_left (by rw [intBits_nat]; exact Nat.le_trans (bits_le x 20 (Nat.lt_of_le_of_lt h (by decide))) (by decide))
theorem BinI.mulN {x y : Nat} (h : x ≤ 1000000) : BinI .Mult (x : Int) y ((x * y : Nat) : Int) := (BinI.mul (mulOk h)).eq (by simp)
theorem BinI.subN {x y : Nat} (h : y ≤ x) : BinI .Sub (x : Int) y ((x - y : Nat) : Int) := BinI.sub.eq (by first | assumption | decide | omega)
theorem BinI.addN {x y : Nat} : BinI .Add (x : Int) y ((x + y : Nat) : Int) := BinI.add.eq (by first | assumption | decide | omega)
end
/- _div2n1n, its first branch -/
theorem d2n_body {C : Cx} (P : PX C) {A L a q cd E I} {x y n : Int} (hy : y ≠ 0) (hb : (Builtin.Int.intBits x : Int) - n ≤ 4000) (hp : Builtin.divisionGoesByPylong x y = false) (room : Room A 2) :
    Ex C (ffm A (fnScope sD2n) L a q cd E I) [(kA, .int x), (Str.ofString "b", .int y), (Str.ofString "n", .int n)] [] (fnBody sD2n) (.ret (.tup [.int (x.fdiv y), .int (x.fmod y)]) []) := by
  obtain ⟨t, hl⟩ := P.lim
  have hlim : ∀ p, Ev C (ffm A (fnScope sD2n) L a q cd E I) [(kA, .int x), (Str.ofString "b", .int y), (Str.ofString "n", .int n)] [] (.Name (Str.ofString "_DIV_LIMIT") p) (.int 4000) := fun p =>
    ⟨fun F s X => wpAny_mono ((Ev.glo (C := C) (fm := ffm A (fnScope sD2n) L a q cd E I) (pos := p) (by rfl) hl).h F s X) (fun v s' ⟨F', g, r⟩ => ⟨F', g, by rw [r.oval]; exact rInt⟩) fun _ _ q => q⟩
  refine Ex.head (Es.ite (b := true) (Tr.eq (Tr.cmp (Ev.bin (Ev.bits (by walk_at "ev")) (by walk_at "ev") BinI.sub) (hlim _) CmpI.le) (by simpa using hb)) (fun _ => Ex.head (Es.ret (Ev.call (d := 1) (room.deeper.le (by decide)) (by walk_at "ev") (Evs.cons (by walk_at "ev") (Evs.cons (by walk_at "ev") Evs.nil)) Evk.nil fun _ _ _ => ⟨kpB, fnDivmod hy hp⟩))) fun q => nomatch q)
theorem d2n {C : Cx} (P : PX C) {F : Ghost} {x y n : Int} (hy : y ≠ 0) (hb : (Builtin.Int.intBits x : Int) - n ≤ 4000) (hp : Builtin.divisionGoesByPylong x y = false) :
    Fn C 3 F (.ref 57) [.int x, .int y, .int n] [] (.tup [.int (x.fdiv y), .int (x.fmod y)]) := by
  obtain ⟨fd, D⟩ := P.d2n
  obtain ⟨pm, cd, doc, rfl⟩ := D.e
  refine Fn.body (d := 2) (I := fun _ => True) (ρ := [(kA, .int x), (Str.ofString "b", .int y), (Str.ofString "n", .int n)]) D.d trivial Mono.triv (HB.three (x := kA) (y := Str.ofString "b") (z := Str.ofString "n") fun v u w s => BindsTo.of_eq rfl) (by simp only [List.map_cons, List.map_nil]; decide) (by simp only [List.map_cons, List.map_nil]; decide +kernel) rfl rfl rfl fun A L q E _ room => ?_
  exact ⟨_, rfl, d2n_body P hy hb hp (room.le (by first | assumption | decide | omega))⟩
noncomputable abbrev nints (ds : List Nat) : List AV := ds.map fun d : Nat => AV.int (d : Int)
noncomputable def seg (ds : List Nat) (L R : Nat) : List Nat := (ds.drop L).take (R - L)
theorem seg_len {ds : List Nat} {L R : Nat} (h : R ≤ ds.length) : (seg ds L R).length = R - L := by unfold seg; rw [List.length_take, List.length_drop]; omega
theorem seg_split {ds : List Nat} {L M R : Nat} (h1 : L ≤ M) (h2 : M ≤ R) : seg ds L R = seg ds L M ++ seg ds M R := by
  unfold seg
  rw [show R - L = (M - L) + (R - M) by omega, List.take_add, List.drop_drop, show L + (M - L) = M by omega]
theorem seg_one {ds : List Nat} {L : Nat} (h : L < ds.length) : seg ds L (L + 1) = [ds[L]] := by
  unfold seg
  rw [show L + 1 - L = 1 by omega, List.drop_eq_getElem_cons h]
  rfl
theorem seg_all (ds : List Nat) : seg ds 0 ds.length = ds := by simp [seg]
theorem seg_mem {ds : List Nat} {L R d : Nat} (h : d ∈ seg ds L R) : d ∈ ds := List.mem_of_mem_drop (List.mem_of_mem_take h)
noncomputable abbrev kDigits : Str := Str.ofString "digits"
noncomputable abbrev kN : Str := Str.ofString "n"
noncomputable abbrev kInner : Str := Str.ofString "inner"
noncomputable abbrev kL : Str := Str.ofString "L"
noncomputable abbrev kR : Str := Str.ofString "R"
noncomputable def inD2i : Stmt := nth (fnBody sD2i) 0
/- what the inner function of _digits2int needs -/
structure D2iI (F : Ghost) (f : Addr) (fd : FuncData) (cl : List (Str × Addr)) (ds : List Nat) (n : Nat) : Prop where
  D : DefG F f fd cl
  h1 : CelF F cl kDigits (.list (nints ds))
  h2 : CelF F cl kN (.int n)
  h3 : CelF F cl kInner (.val (.ref f))
theorem D2iI.mono {f fd cl ds n} : Mono fun F => D2iI F f fd cl ds n := fun F F' h q => ⟨q.D.mono h, q.h1.mono h, q.h2.mono h, q.h3.mono h⟩
theorem between {L R m : Nat} (h1 : R - L ≤ m + 1) (h2 : L < R) (h : ¬ L + 1 = R) : L < (L + R) / 2 ∧ (L + R) / 2 < R ∧ R - (L + R) / 2 ≤ m ∧ (L + R) / 2 - L ≤ m ∧ ∀ N, R ≤ N → 2 * (R - (L + R) / 2) ≤ N + 1 ∧ (L + R) / 2 - L ≤ N := ⟨by omega, by omega, by omega, by omega, fun N hN => ⟨by omega, by omega⟩⟩
theorem halfB {n i : Nat} (h : n * (2 * i) ≤ 128) : n * i ≤ 64 := by rw [Nat.mul_left_comm] at h; omega
theorem look3 {x k1 k2 k3 : Str} {a b c y : AV} {Q : Str → AV → Prop} (h1 : Q k1 a) (h2 : Q k2 b) (h3 : Q k3 c) (e : List.lookup x [(k1, a), (k2, b), (k3, c)] = some y) : Q x y := by
  simp only [List.lookup_cons] at e
  split at e
  · rename_i h; rw [eq_of_beq h]; cases e; exact h1
  · split at e
    · rename_i h; rw [eq_of_beq h]; cases e; exact h2
    · split at e
      · rename_i h; rw [eq_of_beq h]; cases e; exact h3
      · cases e
theorem d2i_inner {C : Cx} (P : PX C) {f : Addr} {cl : List (Str × Addr)} {ds : List Nat} {n : Nat} {qual : Str} {doc pm cdv ctv : Value} (hd : ∀ d ∈ ds, d < 2 ^ n) (hn : n * (ds.length + 1) ≤ 128) (hz : ds.length ≤ 1000) :
    ∀ m F L R, R - L ≤ m → L < R → R ≤ ds.length → D2iI F f (fdX (fnName inD2i) qual (fnArgs inD2i) (.stmts (fnBody inD2i)) (fnScope inD2i) cl doc pm cdv ctv) cl ds n → Fn C (m + 1) F (.ref f) [.int (L : Nat), .int (R : Nat)] [] (.int (ofDigs n (seg ds L R) : Nat)) := by
  intro m
  induction m with
  | zero => intro F L R h1 h2; exact absurd h1 (Nat.not_le.mpr (Nat.sub_pos_of_lt h2))
  | succ m ih =>
    intro F L R h1 h2 h3 hI
    refine FnW.fn (FnW.body (d := m + 1) (sc := fnScope inD2i) (ρ := [(kL, .int (L : Nat)), (kR, .int (R : Nat))]) (ρf := [(kDigits, .list (nints ds)), (kN, .int n), (kInner, .val (.ref f))]) (ω := []) (ω' := []) hI.D hI D2iI.mono rfl rfl (HB.two (x := kL) (y := kR) fun v u s => BindsTo.of_eq rfl) (by simp only [List.map_cons, List.map_nil]; decide) (by simp only [List.map_cons, List.map_nil]; decide +kernel) (fun x b e => ?_) (by decide +kernel) rfl rfl rfl List.nodup_nil fun A Lo q E hq room => ⟨.ret _ [], rfl, ?_⟩)
    · exact look3 (Q := fun x b => (fnScope inD2i).names.lookup x = some .free ∧ CelF F cl x b) ⟨by rfl, hI.h1⟩ ⟨by rfl, hI.h2⟩ ⟨by rfl, hI.h3⟩ e
    show Ex C (gfm A (fnScope inD2i) Lo f q cdv cl E [] _) [(kL, .int (L : Nat)), (kR, .int (R : Nat)), (kDigits, .list (nints ds)), (kN, .int n), (kInner, .val (.ref f))] [] (fnBody inD2i) (.ret (.int (ofDigs n (seg ds L R) : Nat)) [])
    have hnm : ((L : Int) + R).fdiv (2 ^ (1 : Int).toNat) = (((L + R) / 2 : Nat) : Int) := by rw [← Int.natCast_add, show (1 : Int).toNat = 1 from rfl, shr_nat]
    by_cases hLR : L + 1 = R
    · subst hLR
      have hget : (nints ds)[L]? = some (.int (ds[L] : Nat)) := by rw [List.getElem?_map, List.getElem?_eq_getElem h3]; rfl
      refine Ex.head (Es.ite (b := true) (Tr.eq (Tr.cmp (by walk_at "ev") (by walk_at "ev") CmpI.eq) (by simp)) (fun _ => Ex.head (Es.ret ((Ev.item (by walk_at "ev") (by walk_at "ev") (by first | assumption | decide | omega) hget (by first | assumption | decide | omega)).eq ?_))) fun q => nomatch q)
      rw [seg_one h3]; simp [ofDigs]
    · obtain ⟨hM1, hM2, hMr, hMl, hMN⟩ := between h1 h2 hLR
      refine Ex.cons (ρ' := [(kL, .int (L : Nat)), (kR, .int (R : Nat)), (kDigits, .list (nints ds)), (kN, .int n), (kInner, .val (.ref f))]) (σ' := []) (Es.ite (b := false) (Tr.eq (Tr.cmp (by walk_at "ev") (by walk_at "ev") CmpI.eq) (by simp; omega)) (fun q => nomatch q) fun _ => Ex.nil) ?_
      refine Ex.cons (Es.asg (Ev.bin (Ev.bin (by walk_at "ev") (by walk_at "ev") BinI.add) (by walk_at "ev") BinI.half) (.inl (by rfl))) ?_
      refine Ex.cons (Es.asg (Ev.bin (Ev.bin (by walk_at "ev") (by walk_at "ev") (BinI.subN (by first | assumption | decide | omega))) (by walk_at "ev") (BinI.mulN (by first | assumption | decide | omega))) (.inl (by rfl))) ?_
      have hb : n * (R - (L + R) / 2) ≤ 64 := by
        exact halfB (Nat.le_trans (Nat.mul_le_mul_left _ (hMN _ h3).1) hn)
      have hlt : ofDigs n (seg ds ((L + R) / 2) R) < 2 ^ 64 := by
        refine Nat.lt_of_lt_of_le (ofDigs_lt n _ fun d hd' => hd d (seg_mem hd')) ?_
        rw [seg_len h3]
        exact Nat.pow_le_pow_right (by decide) hb
      have hsh : ((L + R) / 2 - L) * n ≤ 1000000 := by
        rw [Nat.mul_comm]; exact Nat.le_trans (Nat.mul_le_mul_left _ (Nat.le_succ_of_le (hMN _ h3).2)) (Nat.le_trans hn (by decide))
      refine Ex.head (Es.ret (Ev.eq (Ev.bin (Ev.bin (Ev.call (d := m + 1) room.deeper (by walk_at "ev") (Evs.cons (by walk_at "ev") (Evs.cons (by walk_at "ev") Evs.nil)) Evk.nil fun F' s X => ⟨X.inv.D.kp, ih F' ((L + R) / 2) R hMr hM2 h3 X.inv⟩) (by walk_at "ev") (BinI.shlN hsh hlt))
        (Ev.call (d := m + 1) room.deeper (by walk_at "ev") (Evs.cons (by walk_at "ev") (Evs.cons (by walk_at "ev") Evs.nil)) Evk.nil fun F' s X => ⟨X.inv.D.kp, ih F' L ((L + R) / 2) hMl hM1 (Nat.le_trans (Nat.le_of_lt hM2) h3) X.inv⟩) BinI.addN) ?_))
      congr 2
      rw [seg_split (Nat.le_of_lt hM1) (Nat.le_of_lt hM2), ofDigs_app, seg_len (by first | assumption | decide | omega), Nat.mul_comm n, Nat.mul_comm (ofDigs _ _)]
      omega
theorem d2iFree (a b c : AV) : ∀ x ∈ (fnScope inD2i).names, x.2 = NameKind.free → (List.lookup x.1 [(kInner, a), (kDigits, b), (kN, c)]).isSome = true ∧ (fnScope sD2i).names.lookup x.1 = some .cell := by
  have h : ∀ x ∈ (fnScope inD2i).names, x.2 = NameKind.free → x.1 ∈ [kInner, kDigits, kN] ∧ (fnScope sD2i).names.lookup x.1 = some .cell := by decide +kernel
  intro x hx hf
  obtain ⟨h1, h2⟩ := h x hx hf
  refine ⟨?_, h2⟩
  simp only [List.mem_cons, List.mem_nil_iff, or_false] at h1
  rcases h1 with h1 | h1 | h1 <;> (rw [h1]; rfl)
/- _digits2int -/
theorem d2i {C : Cx} (P : PX C) {F : Ghost} {ds : List Nat} {n : Nat} (hd : ∀ d ∈ ds, d < 2 ^ n) (hn : n * (ds.length + 1) ≤ 128) (hz : ds.length ≤ 1000) :
    Fn C (ds.length + 3) F (.ref 78) [.list (nints ds), .int n] [] (.int (ofDigs n ds : Nat)) := by
  obtain ⟨fd, D⟩ := P.d2i
  obtain ⟨pm, cd, doc, rfl⟩ := D.e
  refine Fn.body (d := ds.length + 2) (I := fun _ => True) (ρ := [(kDigits, .list (nints ds)), (kN, .int n)]) D.d trivial Mono.triv (HB.two (x := kDigits) (y := kN) fun v u s => BindsTo.of_eq rfl) (by simp only [List.map_cons, List.map_nil]; decide) (by simp only [List.map_cons, List.map_nil]; decide +kernel) rfl rfl rfl fun A L q E hq room => ⟨.ret _ [], rfl, ?_⟩
  refine Ex.nest (c := 77) (P := 73) (name := kInner) D.mem D.code (by rw [D.tq, hq]; rfl) (.inr ⟨rfl, by rfl⟩) rfl (by show ∀ x ∈ (fnScope inD2i).names, x.2 = NameKind.free → (fnScope sD2i).names.lookup x.1 = some .cell; decide +kernel) fun f fdI hfd => ?_
  obtain ⟨doc', pm', cdv, ctv, rfl⟩ := hfd
  refine Ex.cells rfl (Ex.head (Es.ret ?_))
  refine Ev.ife (Tr.val (by walk_at "ev") (Tv.list (by simp; omega))) (fun q => ?_) fun q => ?_
  · have h0 : 0 < ds.length := by cases ds <;> simp_all
    refine Ev.call (d := ds.length + 1) (room.deeper.le (by first | assumption | decide | omega)) (by walk_at "ev") (Evs.cons (Ev.int (i := ((0 : Nat) : Int))) (Evs.cons (Ev.call (d := 1) (room.deeper.le (by first | assumption | decide | omega)) (by walk_at "ev") (Evs.cons (by walk_at "ev") Evs.nil) Evk.nil fun _ _ _ => ⟨kpB, fnLen (by simp; omega)⟩) Evs.nil)) Evk.nil fun F' s X => ?_
    · obtain ⟨⟨_, hF, hC⟩, hJ⟩ := X.inv
      obtain ⟨D', hc⟩ := DefG.nest hF hC hJ (by
        show ∀ x ∈ (fnScope inD2i).names, x.2 = NameKind.free → (List.lookup x.1 [(kInner, AV.val (.ref f)), (kDigits, .list (nints ds)), (kN, .int n)]).isSome = true ∧ (fnScope sD2i).names.lookup x.1 = some .cell
        exact d2iFree _ _ _)
      have hI : D2iI F' f _ _ ds n := ⟨D', hc _ _ (by rfl) (by decide +kernel), hc _ _ (by rfl) (by decide +kernel), hc _ _ (by rfl) (by decide +kernel)⟩
      have := d2i_inner P hd hn hz ds.length F' 0 ds.length (by first | assumption | decide | omega) h0 (Nat.le_refl _) hI
      rw [seg_all] at this
      exact ⟨D'.kp, by simpa using this⟩
  · have h0 : ds = [] := by cases ds <;> simp_all
    subst h0
    exact Ev.int
noncomputable abbrev kAD : Str := Str.ofString "a_digits"
noncomputable def inI2d : Stmt := nth (fnBody sI2d) 1
/- the list with the digits of x laid in from place L on -/
noncomputable def lay (zs : List AV) (n L k x : Nat) : List AV := zs.take L ++ nints (digs n x k) ++ zs.drop (L + k)
theorem lay_len {zs : List AV} {n L k x : Nat} (h : L + k ≤ zs.length) : (lay zs n L k x).length = zs.length := by
  unfold lay; simp [digs_len]; omega
theorem lay_two {zs : List AV} {n L j k x y : Nat} (h : L + (j + k) ≤ zs.length) : lay (lay zs n L j x) n (L + j) k y = zs.take L ++ nints (digs n x j ++ digs n y k) ++ zs.drop (L + (j + k)) := by
  have h1 : (zs.take L ++ nints (digs n x j)).length = L + j := by simp [digs_len]; omega
  unfold lay
  rw [List.take_left' h1, List.drop_append, List.drop_eq_nil_of_le (by rw [h1]; omega), h1, show L + j + k - (L + j) = k by omega, List.drop_drop, List.nil_append, show L + j + k = L + (j + k) by omega]
  simp [List.append_assoc]
theorem lay_one {zs : List AV} {n L x : Nat} (h : L < zs.length) (hx : x < 2 ^ n) : zs.set L (.int (x : Nat)) = lay zs n L 1 x := by
  unfold lay
  rw [List.set_eq_take_append_cons_drop, if_pos h]
  simp [digs, Nat.mod_eq_of_lt hx]
structure I2dI (F : Ghost) (f : Addr) (fd : FuncData) (cl : List (Str × Addr)) (l : Addr) (n : Nat) : Prop where
  D : DefG F f fd cl
  h1 : CelF F cl kAD (.val (.ref l))
  h2 : CelF F cl kN (.int n)
  h3 : CelF F cl kInner (.val (.ref f))
theorem I2dI.mono {f fd cl l n} : Mono fun F => I2dI F f fd cl l n := fun F F' h q => ⟨q.D.mono h, q.h1.mono h, q.h2.mono h, q.h3.mono h⟩
theorem halves {k m : Nat} (h1 : k ≤ m + 1) (h2 : 1 ≤ k) (hk : ¬ k = 1) : ∃ j i, k = j + i ∧ 1 ≤ j ∧ 1 ≤ i ∧ 2 * i ≤ j + i + 1 ∧ j ≤ m ∧ i ≤ m ∧ ∀ L, (L + (L + (j + i))) / 2 = L + j := ⟨k / 2, k - k / 2, by omega, by omega, by omega, by omega, by omega, by omega, fun L => by omega⟩
theorem half64 {n i : Nat} (h : n * (2 * i) ≤ 128) : n * i ≤ 64 := by rw [Nat.mul_left_comm] at h; omega
theorem i2d_inner {C : Cx} (P : PX C) {f l : Addr} {cl : List (Str × Addr)} {n : Nat} {qual : Str} {doc pm cdv ctv : Value} (hn1 : 1 ≤ n) (hn : n ≤ 1000) :
    ∀ (m : Nat) (F : Ghost) (zs : List AV) (L k x : Nat), k ≤ m → 1 ≤ k → L + k ≤ zs.length → n * (k + 1) ≤ 128 → zs.length ≤ 1000 → x < 2 ^ (n * k) → I2dI F f (fdX (fnName inI2d) qual (fnArgs inI2d) (.stmts (fnBody inI2d)) (fnScope inI2d) cl doc pm cdv ctv) cl l n →
      FnW C (m + 1) F (.ref f) [.int (x : Nat), .int (L : Nat), .int ((L + k : Nat) : Int)] [] [(l, .lst zs)] .none [(l, .lst (lay zs n L k x))] := by
  intro m
  induction m with
  | zero => intro F zs L k x h1 h2; exact absurd (Nat.le_trans h2 h1) (by decide)
  | succ m ih =>
    intro F zs L k x h1 h2 h3 h4 hz hx hI
    refine FnW.body (d := m + 1) (sc := fnScope inI2d) (ρ := [(kX, .int (x : Nat)), (kL, .int (L : Nat)), (kR, .int ((L + k : Nat) : Int))]) (ρf := [(kAD, .val (.ref l)), (kN, .int n), (kInner, .val (.ref f))]) hI.D hI I2dI.mono rfl rfl (HB.three (x := kX) (y := kL) (z := kR) fun v u w s => BindsTo.of_eq rfl) (by simp only [List.map_cons, List.map_nil]; decide) (by simp only [List.map_cons, List.map_nil]; decide +kernel) (fun x b e => ?_) (by decide +kernel) rfl rfl rfl (by simp) fun A Lo q E hq room => ?_
    · exact look3 (Q := fun x b => (fnScope inI2d).names.lookup x = some .free ∧ CelF F cl x b) ⟨by rfl, hI.h1⟩ ⟨by rfl, hI.h2⟩ ⟨by rfl, hI.h3⟩ e
    by_cases hk : k = 1
    · subst hk
      refine ⟨.ret .none [(l, .lst (lay zs n L 1 x))], rfl, ?_⟩
      show Ex C (gfm A (fnScope inI2d) Lo f q cdv cl E [l] _) [(kX, .int (x : Nat)), (kL, .int (L : Nat)), (kR, .int ((L + 1 : Nat) : Int)), (kAD, .val (.ref l)), (kN, .int n), (kInner, .val (.ref f))] [(l, .lst zs)] (fnBody inI2d) _
      rw [← lay_one h3 (by simpa using hx)]
      refine Ex.head (Es.ite (b := true) (Tr.eq (Tr.cmp (by walk_at "ev") (by walk_at "ev") CmpI.eq) (by simp)) (fun _ => ?_) fun q => nomatch q)
      exact Ex.cons (Es.setItem (by walk_at "ev") (by walk_at "ev") (by walk_at "ev") .here h3 (Nat.le_trans hz (by decide))) (Ex.head Es.ret0)
    · refine ⟨.nxt [] [(l, .lst (lay zs n L k x))], rfl, ?_⟩
      show Ex C (gfm A (fnScope inI2d) Lo f q cdv cl E [l] _) [(kX, .int (x : Nat)), (kL, .int (L : Nat)), (kR, .int ((L + k : Nat) : Int)), (kAD, .val (.ref l)), (kN, .int n), (kInner, .val (.ref f))] [(l, .lst zs)] (fnBody inI2d) _
      obtain ⟨j, i, rfl, hj1, hi1, hij, hjm, him, hmids⟩ := halves h1 h2 hk
      have hmid := hmids L
      have hLj : L + j ≤ zs.length := Nat.le_trans (Nat.add_le_add_left (Nat.le_add_right j i) L) h3
      have hnj : n * (j + 1) ≤ 128 := Nat.le_trans (Nat.mul_le_mul_left _ (Nat.add_le_add_right (Nat.le_add_right j i) 1)) h4
      have hni : n * (i + 1) ≤ 128 := Nat.le_trans (Nat.mul_le_mul_left _ (Nat.add_le_add_right (Nat.le_add_left i j) 1)) h4
      have hup : x / 2 ^ (n * j) < 2 ^ (n * i) := by
        rw [Nat.div_lt_iff_lt_mul (Nat.two_pow_pos _), ← Nat.pow_add, Nat.add_comm, ← Nat.mul_add]; exact hx
      have hlow : x % 2 ^ (n * j) < 2 ^ (n * j) := Nat.mod_lt _ (Nat.two_pow_pos _)
      have h64 : x / 2 ^ (n * j) < 2 ^ 64 := by
        refine Nat.lt_of_lt_of_le hup (Nat.pow_le_pow_right (by decide) ?_)
        exact half64 (Nat.le_trans (Nat.mul_le_mul_left _ hij) h4)
      refine Ex.cons (ρ' := [(kX, .int (x : Nat)), (kL, .int (L : Nat)), (kR, .int ((L + (j + i) : Nat) : Int)), (kAD, .val (.ref l)), (kN, .int n), (kInner, .val (.ref f))]) (σ' := [(l, .lst zs)]) (Es.ite (b := false) (Tr.eq (Tr.cmp (by walk_at "ev") (by walk_at "ev") CmpI.eq) (by simp; omega)) (fun q => nomatch q) fun _ => Ex.nil) ?_
      refine Ex.cons (Es.asg (a := .int ((L + j : Nat) : Int)) (Ev.bin (Ev.bin (by walk_at "ev") (by walk_at "ev") BinI.add) (by walk_at "ev") (BinI.half.eq (by rw [hmid]))) (.inl (by rfl))) ?_
      refine Ex.cons (Es.asg (a := .int ((n * j : Nat) : Int)) (Ev.bin (Ev.bin (by walk_at "ev") (by walk_at "ev") (BinI.subN (Nat.le_add_right L j))) (by walk_at "ev") ((BinI.mulN (by rw [Nat.add_sub_cancel_left]; exact Nat.le_trans (Nat.le_trans (Nat.le_add_left j L) hLj) (Nat.le_trans hz (by decide)))).eq (by rw [Nat.add_sub_cancel_left, Nat.mul_comm]))) (.inl (by rfl))) ?_
      refine Ex.cons (Es.asg (Ev.bin (by walk_at "ev") (by walk_at "ev") BinI.shrN) (.inl (by rfl))) ?_
      refine Ex.cons (Es.asg (a := .int ((x % 2 ^ (n * j) : Nat) : Int)) (Ev.bin (by walk_at "ev") (Ev.bin (by walk_at "ev") (by walk_at "ev") (BinI.shlN (Nat.le_trans (Nat.mul_le_mul_left n (Nat.le_succ j)) (Nat.le_trans hnj (by decide))) h64)) (BinI.xor.eq (xorLow _ _))) (.inl (by rfl))) ?_
      refine Ex.cons (Es.expr (EvM.call (d := m + 1) room.deeper (by walk_at "ev") (Evs.cons (by walk_at "ev") (Evs.cons (by walk_at "ev") (Evs.cons (by walk_at "ev") Evs.nil))) Evk.nil .here fun F' s X => ⟨X.inv.D.kp, ih F' zs L j _ hjm hj1 hLj hnj hz hlow X.inv⟩)) ?_
      have hl : (lay zs n L j (x % 2 ^ (n * j))).length = zs.length := lay_len hLj
      refine Ex.fgt (Ex.one (Es.expr (EvM.call (d := m + 1) room.deeper (by walk_at "ev") (Evs.cons (by walk_at "ev") (Evs.cons (by walk_at "ev") (Evs.cons (by walk_at "ev") Evs.nil))) Evk.nil .here fun F' s X => ⟨X.inv.D.kp, ?_⟩))) Sub.nil
      have := ih F' (lay zs n L j (x % 2 ^ (n * j))) (L + j) i (x / 2 ^ (n * j)) him hi1 (by rw [hl, Nat.add_assoc]; exact h3) hni (by rw [hl]; exact hz) hup X.inv
      rw [lay_two h3, digs_mod, ← digs_app, Nat.add_assoc] at this
      exact this
/- how many digits _int2digits makes -/
noncomputable def cnt (n a : Nat) : Nat := (bits a + n - 1) / n
theorem cnt_lt {n a : Nat} (hn : 1 ≤ n) : a < 2 ^ (n * cnt n a) := by
  refine Nat.lt_of_lt_of_le (lt_bits a) (Nat.pow_le_pow_right (by decide) ?_)
  have h1 := Nat.div_add_mod (bits a + n - 1) n
  have h2 := Nat.mod_lt (bits a + n - 1) (show 0 < n by omega)
  show bits a ≤ n * ((bits a + n - 1) / n)
  omega
theorem cnt_zero {n : Nat} (hn : 1 ≤ n) : cnt n 0 = 0 := by
  unfold cnt bits
  rw [if_pos rfl]
  exact Nat.div_eq_of_lt (by first | assumption | decide | omega)
theorem cnt_pos {n a : Nat} (hn : 1 ≤ n) (ha : a ≠ 0) : 1 ≤ cnt n a := by
  have h := cnt_lt (a := a) hn
  rcases Nat.eq_zero_or_pos (cnt n a) with q | q
  · rw [q] at h; simp at h; omega
  · exact q
theorem divN {x y : Nat} (hy : y ≠ 0) (hy2 : y ≤ 1000000) : BinI .FloorDiv (x : Int) y ((x / y : Nat) : Int) := (BinI.div (by first | assumption | decide | omega) (PyProof.noPylong_small (by simp; omega))).eq (Int.ofNat_fdiv x y).symm
theorem lay_all {zs : List AV} {n k x : Nat} (h : zs.length = k) : lay zs n 0 k x = nints (digs n x k) := by
  unfold lay; rw [List.drop_eq_nil_of_le (by first | assumption | decide | omega)]; simp
theorem i2dFree (a b c d : AV) : ∀ x ∈ (fnScope inI2d).names, x.2 = NameKind.free → (List.lookup x.1 [(kInner, a), (kAD, b), (kA, c), (kN, d)]).isSome = true ∧ (fnScope sI2d).names.lookup x.1 = some .cell := by
  have h : ∀ x ∈ (fnScope inI2d).names, x.2 = NameKind.free → x.1 ∈ [kInner, kAD, kN] ∧ (fnScope sI2d).names.lookup x.1 = some .cell := by decide +kernel
  intro x hx hf
  obtain ⟨h1, h2⟩ := h x hx hf
  refine ⟨?_, h2⟩
  simp only [List.mem_cons, List.mem_nil_iff, or_false] at h1
  rcases h1 with h1 | h1 | h1 <;> (rw [h1]; rfl)
/- _int2digits -/
theorem i2d {C : Cx} (P : PX C) {F : Ghost} {a n : Nat} (hn1 : 1 ≤ n) (hn : n ≤ 1000) (hk : n * (cnt n a + 1) ≤ 128) :
    Fn C (cnt n a + 4) F (.ref 71) [.int a, .int n] [] (.list (nints (digs n a (cnt n a)))) := by
  obtain ⟨fd, D⟩ := P.i2d
  obtain ⟨pm, cd, doc, rfl⟩ := D.e
  have hkz : cnt n a ≤ 128 := Nat.le_trans (Nat.le_trans (Nat.le_succ _) (Nat.le_mul_of_pos_left _ hn1)) hk
  refine Fn.body (d := cnt n a + 3) (I := fun _ => True) (ρ := [(kA, .int a), (kN, .int n)]) D.d trivial Mono.triv (HB.two (x := kA) (y := kN) fun v u s => BindsTo.of_eq rfl) (by simp only [List.map_cons, List.map_nil]; decide) (by simp only [List.map_cons, List.map_nil]; decide +kernel) rfl rfl rfl fun A L q E hq room => ⟨.ret _ [], rfl, ?_⟩
  refine Ex.new (x := kAD) (EvN.rep1 (k := cnt n a) (Evs.cons Ev.int Evs.nil) (Ev.bin (Ev.bin (Ev.bin ((Ev.bits (by walk_at "ev")).eq (b := .int (bits a : Nat)) (by rw [intBits_nat])) (by walk_at "ev") BinI.addN) (by walk_at "ev") (BinI.subN (y := 1) (by first | assumption | decide | omega))) (by walk_at "ev") (divN (by first | assumption | decide | omega) (by first | assumption | decide | omega))) (by first | assumption | decide | omega)) (.inr ⟨rfl, by rfl⟩) fun l hl => ?_
  refine Ex.nest (c := 70) (P := 66) (name := kInner) D.mem D.code (by rw [D.tq, hq]; rfl) (.inr ⟨rfl, by rfl⟩) rfl (by show ∀ x ∈ (fnScope inI2d).names, x.2 = NameKind.free → (fnScope sI2d).names.lookup x.1 = some .cell; decide +kernel) fun f fdI hfd => ?_
  obtain ⟨doc', pm', cdv, ctv, rfl⟩ := hfd
  refine Ex.cells rfl ?_
  have hlen : (List.replicate (cnt n a) (AV.int 0)).length = cnt n a := List.length_replicate
  refine Ex.cons (ρ' := [(kInner, .val (.ref f)), (kAD, .val (.ref l)), (kA, .int a), (kN, .int n)]) (σ' := [(l, .lst (nints (digs n a (cnt n a))))]) (Es.ite (Tr.val (by walk_at "ev") Tv.int) (fun q => ?_) fun q => ?_) ?_
  · have h0 : a ≠ 0 := by simpa using q
    refine Ex.one (Es.expr (EvM.call (d := cnt n a + 1) (room.deeper.le (by first | assumption | decide | omega)) (by walk_at "ev") (Evs.cons (by walk_at "ev") (Evs.cons (Ev.int (i := ((0 : Nat) : Int))) (Evs.cons (Ev.sub (ρ' := [(kAD, .val (.ref l))]) (Ev.thaw (Ev.call (d := 1) (room.deeper.le (by first | assumption | decide | omega)) (by walk_at "ev") (Evs.cons (by walk_at "ev") Evs.nil) Evk.nil fun _ _ _ => ⟨kpB, fnLen (by first | assumption | decide | omega)⟩)) (Sub.cons (by rfl) Sub.nil)) Evs.nil))) Evk.nil .here fun F' s X => ?_))
    obtain ⟨⟨_, hF, hC⟩, hJ⟩ := X.inv
    obtain ⟨D', hc⟩ := DefG.nest hF hC hJ (by
      show ∀ x ∈ (fnScope inI2d).names, x.2 = NameKind.free → (List.lookup x.1 [(kInner, AV.val (.ref f)), (kAD, .val (.ref l)), (kA, .int a), (kN, .int n)]).isSome = true ∧ (fnScope sI2d).names.lookup x.1 = some .cell
      exact i2dFree _ _ _ _)
    have hI : I2dI F' f _ _ l n := ⟨D', hc _ _ (by rfl) (by decide +kernel), hc _ _ (by rfl) (by decide +kernel), hc _ _ (by rfl) (by decide +kernel)⟩
    have := i2d_inner P hn1 hn (cnt n a) F' (List.replicate (cnt n a) (.int 0)) 0 (cnt n a) a (Nat.le_refl _) (cnt_pos hn1 h0) (by first | assumption | decide | omega) hk (by first | assumption | decide | omega) (cnt_lt hn1) hI
    rw [lay_all hlen, Nat.zero_add] at this
    rw [hlen]
    exact ⟨D'.kp, this⟩
  · have h0 : a = 0 := by simpa using q
    subst h0
    rw [cnt_zero hn1]
    exact Ex.nil
  · exact Ex.sub (ρ' := [(kAD, .val (.ref l))]) (Ex.frz (Ex.one (Es.ret (by walk_at "ev")))) (Sub.cons (by rfl) Sub.nil)
noncomputable abbrev kB : Str := Str.ofString "b"
noncomputable abbrev kRr : Str := Str.ofString "r"
noncomputable abbrev kQD : Str := Str.ofString "q_digits"
noncomputable abbrev kQd : Str := Str.ofString "q_digit"
noncomputable abbrev kAd : Str := Str.ofString "a_digit"
theorem digs_lt (n : Nat) : ∀ (k x d : Nat), d ∈ digs n x k → d < 2 ^ n := by
  intro k
  induction k with
  | zero => intro x d h; simp [digs] at h
  | succ k ih =>
    intro x d h
    simp only [digs, List.mem_cons] at h
    rcases h with rfl | h
    · exact Nat.mod_lt _ (Nat.two_pow_pos n)
    · exact ih _ _ h
/- one step of the long division -/
theorem div_step {b n V d : Nat} (hb : 0 < b) (hbn : b < 2 ^ n) (hd : d < 2 ^ n) :
    (V * 2 ^ n + d) / b = (V % b * 2 ^ n + d) / b + 2 ^ n * (V / b) ∧ (V * 2 ^ n + d) % b = (V % b * 2 ^ n + d) % b ∧ (V % b * 2 ^ n + d) / b < 2 ^ n := by
  have e : V * 2 ^ n + d = (V % b * 2 ^ n + d) + b * (2 ^ n * (V / b)) := by
    have h1 := Nat.div_add_mod V b
    have h2 : V * 2 ^ n = (b * (V / b) + V % b) * 2 ^ n := by rw [h1]
    rw [h2, Nat.add_mul, Nat.mul_assoc, Nat.mul_comm (V / b)]
    omega
  refine ⟨?_, ?_, ?_⟩
  · rw [e, Nat.add_mul_div_left _ _ hb]
  · rw [e, Nat.add_mul_mod_self_left]
  · rw [Nat.div_lt_iff_lt_mul hb]
    have h3 := Nat.mod_lt V hb
    have h4 : (V % b + 1) * 2 ^ n ≤ b * 2 ^ n := Nat.mul_le_mul_right _ h3
    rw [Nat.add_mul, Nat.one_mul] at h4
    rw [Nat.mul_comm (2 ^ n) b]
    omega
/- the number that the first i digits, the highest first, make -/
noncomputable def pre (n : Nat) (es : List Nat) (i : Nat) : Nat := ofDigs n (es.take i).reverse
theorem pre_succ {n : Nat} {es : List Nat} {i : Nat} (h : i < es.length) : pre n es (i + 1) = pre n es i * 2 ^ n + es[i] := by
  unfold pre
  rw [List.take_add_one, List.getElem?_eq_getElem h, Option.toList_some, List.reverse_append, List.reverse_singleton, List.singleton_append, ofDigs, Nat.mul_comm, Nat.add_comm]
/- the figures of the quotient, the highest first -/
noncomputable def quo (n b : Nat) (es : List Nat) (i : Nat) : List Nat := (digs n (pre n es i / b) i).reverse
theorem quo_succ {n b : Nat} {es : List Nat} {i : Nat} (h : i < es.length) (hb : 0 < b) (hbn : b < 2 ^ n) (hd : es[i] < 2 ^ n) :
    quo n b es (i + 1) = quo n b es i ++ [(pre n es i % b * 2 ^ n + es[i]) / b] := by
  obtain ⟨h1, h2, h3⟩ := div_step (V := pre n es i) hb hbn hd
  unfold quo
  rw [digs, List.reverse_cons, pre_succ h, h1, Nat.add_mul_mod_self_left, Nat.mod_eq_of_lt h3, Nat.add_mul_div_left _ _ (Nat.two_pow_pos n), Nat.div_eq_of_lt h3, Nat.zero_add]
theorem modN {x y : Nat} (hy : y ≠ 0) : (x : Int).fmod y = ((x % y : Nat) : Int) := by simp [Int.fmod_eq_emod_of_nonneg]
theorem fdivN {x y : Nat} : (x : Int).fdiv y = ((x / y : Nat) : Int) := (Int.ofNat_fdiv x y).symm
theorem bits_pos {b : Nat} (hb : 0 < b) : 1 ≤ bits b := by unfold bits; rw [if_neg (by first | assumption | decide | omega)]; omega
theorem dpos {C : Cx} (P : PX C) {F : Ghost} {a b : Nat} (hb : 0 < b) (hb2 : b < 2 ^ 20) (hk : bits b * (cnt (bits b) a + 1) ≤ 128) :
    Fn C (cnt (bits b) a + 6) F (.ref 85) [.int a, .int b] [] (.tup [.int ((a / b : Nat) : Int), .int ((a % b : Nat) : Int)]) := by
  obtain ⟨fd, D⟩ := P.dpos
  obtain ⟨pm, cd, doc, rfl⟩ := D.e
  obtain ⟨n, hn⟩ : ∃ n, n = bits b := ⟨_, rfl⟩
  have hn1 : 1 ≤ n := by rw [hn]; exact bits_pos hb
  have hn20 : n ≤ 20 := by rw [hn]; exact bits_le b 20 hb2
  have hbn : b < 2 ^ n := by rw [hn]; exact lt_bits b
  rw [← hn] at hk
  obtain ⟨k, hkk⟩ : ∃ k, k = cnt n a := ⟨_, rfl⟩
  have hk' : n * (k + 1) ≤ 128 := by rw [hkk]; exact hk
  have hkz : k ≤ 128 := Nat.le_trans (Nat.le_trans (Nat.le_succ _) (Nat.le_mul_of_pos_left _ hn1)) hk'
  obtain ⟨es, hes⟩ : ∃ es, es = (digs n a k).reverse := ⟨_, rfl⟩
  have hel : es.length = k := by rw [hes, List.length_reverse, digs_len]
  have hed : ∀ i (h : i < es.length), es[i] < 2 ^ n := fun i h => by
    have hm : es[i] ∈ digs n a k := by rw [← List.mem_reverse, ← hes]; exact List.getElem_mem _
    exact digs_lt n k a _ hm
  rw [← hn]
  refine Fn.body (d := cnt n a + 5) (I := fun _ => True) (ρ := [(kA, .int a), (kB, .int b)]) D.d trivial Mono.triv (HB.two (x := kA) (y := kB) fun v u s => BindsTo.of_eq rfl) (by simp only [List.map_cons, List.map_nil]; decide) (by simp only [List.map_cons, List.map_nil]; decide +kernel) rfl rfl rfl fun A L q E hq room => ⟨.ret _ [], rfl, ?_⟩
  rw [← hkk] at room
  refine Ex.cons (Es.asg ((Ev.bits (by walk_at "ev")).eq (b := .int (n : Nat)) (by rw [intBits_nat, hn])) (.inl (by rfl))) ?_
  refine Ex.cons (Es.asg (Ev.call (d := k + 4) (room.deeper.le (by first | assumption | decide | omega)) (by walk_at "ev") (Evs.cons (by walk_at "ev") (Evs.cons (by walk_at "ev") Evs.nil)) Evk.nil fun F' s X => ⟨Def.kp (P.i2d.choose_spec.d) X.ok, by rw [hkk]; exact i2d P hn1 (by first | assumption | decide | omega) hk⟩) (.inl (by rfl))) ?_
  rw [← hkk]
  refine Ex.cons (Es.asg Ev.int (.inl (by rfl))) ?_
  refine Ex.new (x := kQD) (EvN.lst Evs.nil) (.inl (by rfl)) fun l hl => ?_
  have hlen : (nints es).length = k := by rw [List.length_map, hel]
  have hq0 : pre n es 0 = 0 := rfl
  have hek : pre n es k = a := by
    unfold pre
    rw [List.take_of_length_le (by first | assumption | decide | omega), hes, List.reverse_reverse, ofDigs_digs, hkk, Nat.mod_eq_of_lt (cnt_lt hn1)]
  refine Ex.cons (ρ' := [(kA, .int a), (kB, .int b), (kN, .int n), (kRr, .int ((a % b : Nat) : Int)), (kQD, .val (.ref l))]) (σ' := [(l, .lst (nints (quo n b es k)))]) (Es.for (vs := nints es) ((Src.rev (xs := nints (digs n a k)) room.deeper.hd (by walk_at "ev") (by walk_at "ev")).eq (by rw [hes]; exact List.map_reverse.symm)) fun it τ I hE => ?_) ?_
  · refine Fo.sub (ρ' := [(kA, .int a), (kB, .int b), (kN, .int n), (kRr, .int ((pre n es 0 % b : Nat) : Int)), (kQD, .val (.ref l))]) (Fo.all I hE (fun i => [(kA, .int a), (kB, .int b), (kN, .int n), (kRr, .int ((pre n es i % b : Nat) : Int)), (kQD, .val (.ref l))]) (fun i => [(l, .lst (nints (quo n b es i)))]) (fun x => [(kAd, x)]) (fun x _ => As.name (.inl (by rfl))) (fun i x hx => ?_) (by rw [hlen, hek]; exact Ex.nil)) (Sub.cons (by rfl) (Sub.cons (by rfl) (Sub.cons (by rfl) (Sub.cons (by rw [hq0, Nat.zero_mod]; rfl) (Sub.cons (by rfl) Sub.nil)))))
    have hi : i < es.length := by have := (List.getElem?_eq_some_iff.mp hx).1; simpa using this
    have hx' : x = .int (es[i] : Nat) := by rw [List.getElem?_map, List.getElem?_eq_getElem hi] at hx; simpa using hx.symm
    subst hx'
    obtain ⟨h1, h2, h3⟩ := div_step (V := pre n es i) hb hbn (hed i hi)
    have hr := Nat.mod_lt (pre n es i) hb
    have hql : (nints (quo n b es i)).length ≤ 1000000 := by unfold quo; rw [List.length_map, List.length_reverse, digs_len]; omega
    have hbd : (Builtin.Int.intBits ((pre n es i % b * 2 ^ n + es[i] : Nat) : Int) : Int) - n ≤ 4000 := by
      have hlt : pre n es i % b * 2 ^ n + es[i] < 2 ^ (n + n) := by
        have h5 : (pre n es i % b + 1) * 2 ^ n ≤ 2 ^ n * 2 ^ n := Nat.mul_le_mul_right _ (by first | assumption | decide | omega)
        rw [Nat.add_mul, Nat.one_mul] at h5
        have h6 := hed i hi
        rw [Nat.pow_add]; omega
      rw [intBits_nat]
      have := bits_le _ _ hlt
      omega
    have eq1 : nints (quo n b es (i + 1)) = nints (quo n b es i) ++ [.int (((pre n es i % b * 2 ^ n + es[i]) / b : Nat) : Int)] := by rw [quo_succ hi hb hbn (hed i hi)]; exact List.map_append
    show Ex C _ _ _ _ (Out.nxt [(kA, .int a), (kB, .int b), (kN, .int n), (kRr, .int ((pre n es (i + 1) % b : Nat) : Int)), (kQD, .val (.ref l))] (τ (i + 1) ++ [(l, MO.lst (nints (quo n b es (i + 1))))]))
    rw [eq1]
    refine Ex.fgt (Ex.cons (Es.asgT (x := .tup [.int (((pre n es i % b * 2 ^ n + es[i]) / b : Nat) : Int), .int ((pre n es (i + 1) % b : Nat) : Int)]) ((Ev.call (d := 3) (room.deeper.le (by first | assumption | decide | omega)) (by walk_at "ev") (Evs.cons (Ev.bin (Ev.bin (by walk_at "ev") (by walk_at "ev") (BinI.shlN (by first | assumption | decide | omega) (by first | assumption | decide | omega))) (by walk_at "ev") BinI.addN) (Evs.cons (by walk_at "ev") (Evs.cons (by walk_at "ev") Evs.nil))) Evk.nil fun F' s X => ⟨Def.kp (P.d2n.choose_spec.d) X.ok, d2n P (by first | assumption | decide | omega) hbd (PyProof.noPylong_small (by simp; omega))⟩).eq (by rw [fdivN, modN (by first | assumption | decide | omega), pre_succ hi, h2])) (As.tup room.deeper.hd (Ass.cons (As.name (.inl (by rfl))) (Ass.cons (As.name (.inl (by rfl))) Ass.nil)))) (Ex.one (Es.expr (EvM.meth PySem.F.slot_list_append PySem.F.type_list_append (by walk_at "ev") (Evs.cons (by walk_at "ev") Evs.nil) (Wr.append hql) (Upd.app .here))))) ?_
    exact Sub.cons (by rfl) (Sub.cons (by rfl) (Sub.cons (by rfl) (Sub.cons (by rfl) (Sub.cons (by rfl) Sub.nil))))
  · have hqk : quo n b es k = (digs n (a / b) k).reverse := by unfold quo; rw [hek]
    have hql : (nints (quo n b es k)).length ≤ 1000000 := by rw [hqk, List.length_map, List.length_reverse, digs_len]; omega
    have hrev : (nints (quo n b es k)).reverse = nints (digs n (a / b) k) := by rw [hqk, ← List.map_reverse, List.reverse_reverse]
    have hab : a / b < 2 ^ (n * k) := Nat.lt_of_le_of_lt (Nat.div_le_self _ _) (by rw [hkk]; exact cnt_lt hn1)
    refine Ex.cons (Es.expr (EvM.meth PySem.F.slot_list_reverse PySem.F.type_list_reverse (by walk_at "ev") Evs.nil (Wr.reverse hql) .here)) ?_
    rw [hrev]
    refine Ex.sub (ρ' := [(kQD, .val (.ref l)), (kA, .int a), (kB, .int b), (kN, .int n), (kRr, .int ((a % b : Nat) : Int))]) (Ex.frz ?_) (Sub.cons (by rfl) (Sub.cons (by rfl) (Sub.cons (by rfl) (Sub.cons (by rfl) (Sub.cons (by rfl) Sub.nil)))))
    refine Ex.cons (Es.asg ((Ev.call (d := k + 3) (room.deeper.le (by first | assumption | decide | omega)) (by walk_at "ev") (Evs.cons (by walk_at "ev") (Evs.cons (by walk_at "ev") Evs.nil)) Evk.nil fun F' s X => ⟨Def.kp (P.d2i.choose_spec.d) X.ok, by
      have := d2i P (F := F') (ds := digs n (a / b) k) (n := n) (digs_lt n k _) (by rw [digs_len]; exact hk') (by rw [digs_len]; omega)
      rw [digs_len] at this
      exact this⟩).eq (b := .int ((a / b : Nat) : Int)) (by rw [ofDigs_digs, Nat.mod_eq_of_lt hab])) (.inl (by rfl))) ?_
    exact Ex.rets (Ex.head (Es.ret (Ev.tup (Evs.cons (by walk_at "ev") (Evs.cons (by walk_at "ev") Evs.nil)))))
theorem cnt_le {n a : Nat} (hn : 1 ≤ n) (hn20 : n ≤ 20) (ha : a < 2 ^ 80) : n * (cnt n a + 1) ≤ 128 ∧ cnt n a ≤ 100 := by
  have h1 := bits_le a 80 ha
  have h2 := Nat.mul_div_le (bits a + n - 1) n
  have h3 : n * (cnt n a + 1) ≤ 128 := by unfold cnt; rw [Nat.mul_add]; omega
  have h4 : cnt n a ≤ bits a + n - 1 := Nat.div_le_self _ _
  exact ⟨h3, by omega⟩
theorem dposI {C : Cx} (P : PX C) {F : Ghost} {a b : Int} (ha : 0 ≤ a) (ha2 : a.natAbs < 2 ^ 80) (hb : 0 < b) (hb2 : b.natAbs < 2 ^ 20) : Fn C 106 F (.ref 85) [.int a, .int b] [] (.tup [.int (a.fdiv b), .int (a.fmod b)]) := by
  obtain ⟨a', rfl⟩ := Int.eq_ofNat_of_zero_le ha
  obtain ⟨b', rfl⟩ := Int.eq_ofNat_of_zero_le (Int.le_of_lt hb)
  have hb' : 0 < b' := by omega
  rw [Int.natAbs_natCast] at ha2 hb2
  obtain ⟨h1, h2⟩ := cnt_le (bits_pos hb') (bits_le b' 20 hb2) ha2
  have := (dpos P (F := F) hb' hb2 h1).le (d' := 106) (by first | assumption | decide | omega)
  rw [fdivN, modN (by first | assumption | decide | omega)]
  exact this
theorem fdiv_not {a b : Int} (hb : 0 < b) : Builtin.bitNot ((Builtin.bitNot a).fdiv b) = a.fdiv b ∧ b + Builtin.bitNot ((Builtin.bitNot a).fmod b) = a.fmod b := by
  unfold Builtin.bitNot
  have h1 : (-a - 1).fdiv b = (-a - 1) / b := Int.fdiv_eq_ediv_of_nonneg _ (Int.le_of_lt hb)
  have h2 : a.fdiv b = a / b := Int.fdiv_eq_ediv_of_nonneg _ (Int.le_of_lt hb)
  have h3 : (-a - 1).fmod b = (-a - 1) % b := Int.fmod_eq_emod_of_nonneg _ (Int.le_of_lt hb)
  have h4 : a.fmod b = a % b := Int.fmod_eq_emod_of_nonneg _ (Int.le_of_lt hb)
  rw [h1, h2, h3, h4]
  have e1 := Int.mul_ediv_add_emod a b
  have e2 := Int.mul_ediv_add_emod (-a - 1) b
  have b1 := Int.emod_nonneg a (Int.ne_of_gt hb)
  have b2 := Int.emod_lt_of_pos a hb
  have b3 := Int.emod_nonneg (-a - 1) (Int.ne_of_gt hb)
  have b4 := Int.emod_lt_of_pos (-a - 1) hb
  have key : (-a - 1) / b = -(a / b) - 1 := by
    have h5 : b * ((-a - 1) / b + a / b + 1) = b - 1 - (-a - 1) % b - a % b := by
      rw [Int.mul_add, Int.mul_add]; omega
    have h6 : b * ((-a - 1) / b + a / b + 1) < b * 1 := by omega
    have h7 : b * (-1) < b * ((-a - 1) / b + a / b + 1) := by omega
    have := Int.lt_of_mul_lt_mul_left h6 (Int.le_of_lt hb)
    have := Int.lt_of_mul_lt_mul_left h7 (Int.le_of_lt hb)
    omega
  refine ⟨by omega, ?_⟩
  have h8 : b * ((-a - 1) / b) = -(b * (a / b)) - b := by rw [key, Int.mul_sub, Int.mul_neg]; omega
  omega
theorem fdiv_opp {a b : Int} : (-a).fdiv (-b) = a.fdiv b ∧ -((-a).fmod (-b)) = a.fmod b := by
  have h1 : (-a).fdiv (-b) = a.fdiv b := Int.neg_fdiv_neg a b
  refine ⟨h1, ?_⟩
  rw [Int.fmod_def, Int.fmod_def, h1, Int.neg_mul]
  omega
theorem dm1 {C : Cx} (P : PX C) {F : Ghost} {a b : Int} (ha : 0 ≤ a) (ha2 : a.natAbs < 2 ^ 80) (hb : 0 < b) (hb2 : b.natAbs < 2 ^ 20) : Fn C 108 F (.ref 92) [.int a, .int b] [] (.tup [.int (a.fdiv b), .int (a.fmod b)]) := by
  obtain ⟨fd, D⟩ := P.divm
  obtain ⟨pm, cd, doc, rfl⟩ := D.e
  refine Fn.body (d := 107) (I := fun _ => True) (ρ := [(kA, .int a), (kB, .int b)]) D.d trivial Mono.triv (HB.two (x := kA) (y := kB) fun v u s => BindsTo.of_eq rfl) (by simp only [List.map_cons, List.map_nil]; decide) (by simp only [List.map_cons, List.map_nil]; decide +kernel) rfl rfl rfl fun A L q E hq room => ⟨.ret _ [], rfl, ?_⟩
  refine Ex.head (Es.ite (b := false) (Tr.eq (Tr.cmp (by walk_at "ev") (by walk_at "ev") CmpI.eq) (by simp; omega)) (fun q => nomatch q) fun _ => Ex.head (Es.ite (b := false) (Tr.eq (Tr.cmp (by walk_at "ev") (by walk_at "ev") CmpI.lt) (by simp; omega)) (fun q => nomatch q) fun _ => Ex.head (Es.ite (b := false) (Tr.eq (Tr.cmp (by walk_at "ev") (by walk_at "ev") CmpI.lt) (by simp; omega)) (fun q => nomatch q) fun _ => ?_)))
  exact Ex.head (Es.ret (Ev.call (d := 106) (room.deeper.le (by decide)) (by walk_at "ev") (Evs.cons (by walk_at "ev") (Evs.cons (by walk_at "ev") Evs.nil)) Evk.nil fun F' s X => ⟨Def.kp (P.dpos.choose_spec.d) X.ok, dposI P ha ha2 hb hb2⟩))
noncomputable abbrev kQ : Str := Str.ofString "q"
theorem dm2 {C : Cx} (P : PX C) {F : Ghost} {a b : Int} (ha2 : a.natAbs < 2 ^ 80) (hb : 0 < b) (hb2 : b.natAbs < 2 ^ 20) : Fn C 110 F (.ref 92) [.int a, .int b] [] (.tup [.int (a.fdiv b), .int (a.fmod b)]) := by
  by_cases ha : 0 ≤ a
  · exact (dm1 P ha ha2 hb hb2).le (by first | assumption | decide | omega)
  obtain ⟨fd, D⟩ := P.divm
  obtain ⟨pm, cd, doc, rfl⟩ := D.e
  refine Fn.body (d := 109) (I := fun _ => True) (ρ := [(kA, .int a), (kB, .int b)]) D.d trivial Mono.triv (HB.two (x := kA) (y := kB) fun v u s => BindsTo.of_eq rfl) (by simp only [List.map_cons, List.map_nil]; decide) (by simp only [List.map_cons, List.map_nil]; decide +kernel) rfl rfl rfl fun A L q E hq room => ⟨.ret _ [], rfl, ?_⟩
  refine Ex.head (Es.ite (b := false) (Tr.eq (Tr.cmp (by walk_at "ev") (by walk_at "ev") CmpI.eq) (by simp; omega)) (fun q => nomatch q) fun _ => Ex.head (Es.ite (b := false) (Tr.eq (Tr.cmp (by walk_at "ev") (by walk_at "ev") CmpI.lt) (by simp; omega)) (fun q => nomatch q) fun _ => Ex.head (Es.ite (b := true) (Tr.eq (Tr.cmp (by walk_at "ev") (by walk_at "ev") CmpI.lt) (by simp; omega)) (fun _ => ?_) fun q => nomatch q)))
  obtain ⟨e1, e2⟩ := fdiv_not (a := a) hb
  refine Ex.cons (Es.asgT (Ev.call (d := 108) (room.deeper.le (by decide)) (by walk_at "ev") (Evs.cons (Ev.inv (by walk_at "ev")) (Evs.cons (by walk_at "ev") Evs.nil)) Evk.nil fun F' s X => ⟨Def.kp (P.divm.choose_spec.d) X.ok, dm1 P (by unfold Builtin.bitNot; omega) (by unfold Builtin.bitNot; omega) hb hb2⟩) (As.tup room.deeper.hd (Ass.cons (As.name (.inl (by rfl))) (Ass.cons (As.name (.inl (by rfl))) Ass.nil)))) ?_
  exact Ex.head (Es.ret ((Ev.tup (Evs.cons (Ev.inv (by walk_at "ev")) (Evs.cons (Ev.bin (by walk_at "ev") (Ev.inv (by walk_at "ev")) BinI.add) Evs.nil))).eq (by rw [e1, e2])))
/- int_divmod by anything but nought -/
theorem dm {C : Cx} (P : PX C) {F : Ghost} {a b : Int} (ha2 : a.natAbs < 2 ^ 80) (hb : b ≠ 0) (hb2 : b.natAbs < 2 ^ 20) : Fn C 112 F (.ref 92) [.int a, .int b] [] (.tup [.int (a.fdiv b), .int (a.fmod b)]) := by
  by_cases hb0 : 0 < b
  · exact (dm2 P ha2 hb0 hb2).le (by first | assumption | decide | omega)
  obtain ⟨fd, D⟩ := P.divm
  obtain ⟨pm, cd, doc, rfl⟩ := D.e
  refine Fn.body (d := 111) (I := fun _ => True) (ρ := [(kA, .int a), (kB, .int b)]) D.d trivial Mono.triv (HB.two (x := kA) (y := kB) fun v u s => BindsTo.of_eq rfl) (by simp only [List.map_cons, List.map_nil]; decide) (by simp only [List.map_cons, List.map_nil]; decide +kernel) rfl rfl rfl fun A L q E hq room => ⟨.ret _ [], rfl, ?_⟩
  refine Ex.head (Es.ite (b := false) (Tr.eq (Tr.cmp (by walk_at "ev") (by walk_at "ev") CmpI.eq) (by simp; omega)) (fun q => nomatch q) fun _ => Ex.head (Es.ite (b := true) (Tr.eq (Tr.cmp (by walk_at "ev") (by walk_at "ev") CmpI.lt) (by simp; omega)) (fun _ => ?_) fun q => nomatch q))
  obtain ⟨e1, e2⟩ := fdiv_opp (a := a) (b := b)
  refine Ex.cons (Es.asgT (Ev.call (d := 110) (room.deeper.le (by decide)) (by walk_at "ev") (Evs.cons (Ev.neg (by walk_at "ev")) (Evs.cons (Ev.neg (by walk_at "ev")) Evs.nil)) Evk.nil fun F' s X => ⟨Def.kp (P.divm.choose_spec.d) X.ok, dm2 P (by first | assumption | decide | omega) (by first | assumption | decide | omega) (by first | assumption | decide | omega)⟩) (As.tup room.deeper.hd (Ass.cons (As.name (.inl (by rfl))) (Ass.cons (As.name (.inl (by rfl))) Ass.nil)))) ?_
  exact Ex.head (Es.ret ((Ev.tup (Evs.cons (by walk_at "ev") (Evs.cons (Ev.neg (by walk_at "ev")) Evs.nil))).eq (by rw [e1, e2])))
section
variable {C : Cx} {fm : Fm} {ρ ρ' ρc ρf : Rho} {σ σ' ω ω' : Sig} {F F' F'' : Ghost} {s s' s'' : Shared} {out : Out}
/- a loop through all its items, by their numbers -/
theorem Fo.run {tgt it xs ys} {vs : List AV} {τ : Nat → Sig} (n : Nat) (I : Itr C fm.A it tgt vs τ) (hn : vs.length = n) (hE : ∀ i, ∀ p ∈ τ i, ¬ fm.E p.1) (ρs : Nat → Rho) (σs : Nat → Sig) (bd : Nat → Rho)
    (step : ∀ i x, i < n → vs[i]? = some x → As C fm tgt x (bd i) ∧ Ex C fm (bd i ++ ρs i) (τ (i + 1) ++ σs i) xs (.nxt (ρs (i + 1)) (τ (i + 1) ++ σs (i + 1)))) (hy : Ex C fm (ρs n) (σs n) ys out) (hc : out.calm = true := by rfl) :
    Fo C fm (ρs 0) (τ 0 ++ σs 0) tgt it xs ys out := by
  subst hn
  have key : ∀ n i, i + n = vs.length → Fo C fm (ρs i) (τ i ++ σs i) tgt it xs ys out := by
    intro n
    induction n with
    | zero => intro i hi; have : i = vs.length := by omega
              subst this; exact Fo.done I (hE _) hy hc
    | succ n ih =>
      intro i hi
      have hx : vs[i]? = some vs[i] := by simp
      obtain ⟨h1, h2⟩ := step i _ (by first | assumption | decide | omega) hx
      exact Fo.turn I hx h1 hc (.inl ⟨_, _, .inl h2, ih (i + 1) (by first | assumption | decide | omega)⟩)
  exact key vs.length 0 (by first | assumption | decide | omega)
theorem Grow.hk (ok : Ok C F s) {h' : Heap} {n : Nat} (hk : ∀ b o, s.heap.get? b = some o → h'.get? b = some o) : Grow C F s F { s with heap := h', toks := n } := Grow.heap ok hk
theorem hexLen {i : Int} (h : i.natAbs ≤ 10000000000) : (baseText "0x" 16 i).length ≤ sizeLine ∨ True := .inr trivial
theorem fnHex {d : Nat} {i : Int} (hz : (baseText "0x" 16 i).length ≤ sizeLine) : Fn C d F (.builtin "hex") [.int i] [] (.str (baseText "0x" 16 i)) := Fn.bi fun F s A vals Q E ok room r h => by
  obtain ⟨v, r', rfl, rv, rn⟩ := r.ocons
  obtain rfl := rn.onil
  obtain ⟨t, rfl⟩ := rv.oint
  exact P.hex_of_int (h _ _ F (Grow.tok1 ok) rStr) hz
theorem fnMax2 {d : Nat} {a b : Int} : Fn C d F (.builtin "max") [.int a, .int b] [] (.int (if b > a then b else a)) := Fn.bi fun F s A vals Q E ok room r h => by
  obtain ⟨v, r', rfl, rv, rn⟩ := r.ocons
  obtain ⟨u, r', rfl, ru, rn⟩ := rn.ocons
  obtain rfl := rn.onil
  obtain ⟨t, rfl⟩ := rv.oint
  obtain ⟨t', rfl⟩ := ru.oint
  refine max_two_ints room.hd fun h' tk hk => ?_
  have := fun v => h v { s with heap := h', toks := tk } F (Grow.hk ok hk)
  by_cases c : b > a
  · rw [if_pos c] at this ⊢; exact this _ rInt
  · rw [if_neg c] at this ⊢; exact this _ rInt
noncomputable def IsMin (ns : List Int) (M : Int) : Prop := M ∈ ns ∧ ∀ a ∈ ns, M ≤ a
theorem fnMin {d : Nat} {ns : List Int} {M : Int} (hM : IsMin ns M) : Fn C d F (.builtin "min") [.list (ns.map .int)] [] (.int M) := Fn.bi fun F s A vals Q E ok room r h => by
  obtain ⟨v, r', rfl, rv, rn⟩ := r.ocons
  obtain rfl := rn.onil
  obtain ⟨l, vs, rfl, hq, hr⟩ := rv.olst
  have hi := hr.ints
  have hl := hq.lst ok
  obtain ⟨xs, e⟩ := hi.allInts.items
  have hns : ns = xs.toList.map (·.1) := by rw [← hi.numsOf, ← nums_intItems, ← e]
  have hsz : 0 < xs.size := by
    have h3 := List.length_pos_of_mem hM.1
    rw [hns, List.length_map, Array.length_toList] at h3; exact h3
  rw [e] at hl
  refine min_intList room.hd hl hsz fun v h' tk hv hk => ?_
  obtain ⟨t, rfl⟩ := intItems_at hv
  obtain ⟨h1, h2⟩ := argBest_lt (numAt xs) (xs.size - 1)
  have e1 : numAt xs (argBest (fun i j => decide (numAt xs i < numAt xs j)) (xs.size - 1)) = M := by
    apply Int.le_antisymm
    · have hm := hM.1
      rw [hns] at hm
      obtain ⟨j, hj, hj2⟩ := List.getElem_of_mem hm
      have hj' : j < xs.size := by rw [List.length_map, Array.length_toList] at hj; exact hj
      have := h2 j (by first | assumption | decide | omega)
      rw [numAt_eq xs j, List.getD_eq_getElem?_getD, List.getElem?_eq_getElem hj, Option.getD_some, hj2] at this
      exact this
    · apply hM.2
      rw [hns, numAt_eq, List.getD_eq_getElem?_getD]
      have hb : argBest (fun i j => decide (numAt xs i < numAt xs j)) (xs.size - 1) < (xs.toList.map (·.1)).length := by rw [List.length_map, Array.length_toList]; omega
      rw [List.getElem?_eq_getElem hb, Option.getD_some]
      exact List.getElem_mem _
  rw [e1]
  exact h _ _ F (Grow.hk ok hk) rInt
theorem fnSum {d : Nat} {ns : List Int} (hb : ∀ j, j < ns.length → InLong (ns.getD j 0) ∧ InLong ((ns.take (j + 1)).sum)) : Fn C d F (.builtin "sum") [.list (ns.map .int)] [] (.int ns.sum) := Fn.bi fun F s A vals Q E ok room r h => by
  obtain ⟨v, r', rfl, rv, rn⟩ := r.ocons
  obtain rfl := rn.onil
  obtain ⟨l, vs, rfl, hq, hr⟩ := rv.olst
  have hi := hr.ints
  have hl := hq.lst ok
  obtain ⟨xs, e⟩ := hi.allInts.items
  have hns : ns = xs.toList.map (·.1) := by rw [← hi.numsOf, ← nums_intItems, ← e]
  have hlen : ns.length = xs.size := by rw [hns, List.length_map, Array.length_toList]
  rw [e] at hl
  refine sum_intList room.hd hl (fun j hj => ?_) fun h' tk t' hk => ?_
  · rw [numAt_eq, preSum_eq, ← hns]; exact hb j (by first | assumption | decide | omega)
  · rw [preSum_eq, ← hns, ← hlen, List.take_length]
    exact h _ _ F (Grow.hk ok hk) rInt
/- strs put together, cut apart -/
theorem Ev.join {o : Expr} {apos pos : Pos} {e : Expr} {x : Str} {ys : List Str} (ho : Ev C fm ρ σ o (.str x)) (he : Ev C fm ρ σ e (.list (ys.map .str))) (hw : (ys.map (·.length)).sum + ys.length * x.length ≤ 16777216)
    (hm : ∃ pl, eval (.Call (.Attribute o (Str.ofString "join") apos) [e] [] pos) fm.env = (do
      let ov ← eval o fm.env
      standAt apos.atName
      let (f, first) ← holding [ov] (getMethod ov (Str.ofString "join") pl)
      callWith pos f first (backTo pos (starEach [e] fm.env)) []) := by exact ⟨_, rfl⟩) (hst : starEach [e] fm.env = [(false, eval e fm.env)] := by rfl) : Ev C fm ρ σ (.Call (.Attribute o (Str.ofString "join") apos) [e] [] pos) (.str (Txt.join x ys)) := by
  obtain ⟨pl, hm⟩ := hm
  refine Ev.meth (id := "str.join") (pl := pl) ho (Evs.cons he Evs.nil (by rw [hst]; rfl)) (fun F s v Q E ok r h => ?_) (fun F s v vs Q E ok r rs h => ?_) hm (by unfold Plain; rw [hst]; rfl)
  · obtain ⟨t, rfl⟩ := r.ostr
    exact getMethod_builtin (typeIs_str _ _ _) PySem.F.plainAttrs_str PySem.F.slot_str_join PySem.F.type_str_join (fun _ e => nomatch e) h
  · obtain ⟨t, rfl⟩ := r.ostr
    obtain ⟨u, r', rfl, ru, rn⟩ := rs.ocons
    obtain rfl := rn.onil
    obtain ⟨l, ws, rfl, hq, hr⟩ := ru.olst
    exact join_list (hq.lst ok) hr.strs hw fun t' k => h _ _ F (Grow.toks ok k) rStr
theorem Reps.ofStrs : ∀ (l : List (Str × Tok)), Reps F ((l.map (·.1)).map AV.str) (strValues l)
  | [] => rNil
  | p :: r => rCons rStr (Reps.ofStrs r)
theorem Ev.split {o : Expr} {apos pos : Pos} {e : Expr} {x y : Str} (ho : Ev C fm ρ σ o (.str x)) (he : Ev C fm ρ σ e (.str y)) (hy : (y.length == 0) = false) (hz : x.length ≤ 1000000)
    (hm : ∃ pl, eval (.Call (.Attribute o (Str.ofString "split") apos) [e] [] pos) fm.env = (do
      let ov ← eval o fm.env
      standAt apos.atName
      let (f, first) ← holding [ov] (getMethod ov (Str.ofString "split") pl)
      callWith pos f first (backTo pos (starEach [e] fm.env)) []) := by exact ⟨_, rfl⟩) (hst : starEach [e] fm.env = [(false, eval e fm.env)] := by rfl) : Ev C fm ρ σ (.Call (.Attribute o (Str.ofString "split") apos) [e] [] pos) (.list ((Txt.split x y).map .str)) := by
  obtain ⟨pl, hm⟩ := hm
  refine Ev.meth (id := "str.split") (pl := pl) ho (Evs.cons he Evs.nil (by rw [hst]; rfl)) (fun F s v Q E ok r h => ?_) (fun F s v vs Q E ok r rs h => ?_) hm (by unfold Plain; rw [hst]; rfl)
  · obtain ⟨t, rfl⟩ := r.ostr
    exact getMethod_builtin (typeIs_str _ _ _) PySem.F.plainAttrs_str PySem.F.slot_str_split PySem.F.type_str_split (fun _ e => nomatch e) h
  · obtain ⟨t, rfl⟩ := r.ostr
    obtain ⟨u, r', rfl, ru, rn⟩ := rs.ocons
    obtain rfl := rn.onil
    obtain ⟨t', rfl⟩ := ru.ostr
    have fin : ∀ (l : List (Str × Tok)) (k : Nat), l.map (·.1) = Txt.split x y → Q (.ref s.heap.objs.size) { s with heap := s.heap.push { cls := .type "list", data := .seq (strValues l).toArray }, toks := k } := fun l k e => by
      have g1 := Grow.toks ok k
      have g2 := Grow.alloc g1.ok { cls := .type "list", data := .seq (strValues l).toArray }
      refine h _ _ _ (g1.trans g2) (rLst ⟨_, _, Ghost.add_self _ _ _, rfl, rfl⟩ ?_)
      rw [← e]
      exact Reps.ofStrs l
    have hn : (Builtin.Str.partsBetween x (Builtin.Str.occurrences x y 0 x.length (x.length + 1)) y.length).length ≤ sizeLine := by
      have e1 := StrLaws.occ_length_le x y 0 x.length (x.length + 1)
      rw [length_partsBetween, sizeLine_eq]; omega
    cases h1 : (decide (x.length < y.length) || decide (Builtin.Str.strKind x < Builtin.Str.strKind y))
    · cases hf : (Builtin.Str.occurrences x y 0 x.length (x.length + 1)).isEmpty
      · refine call_meets PySem.F.slot_str_split (typeIs_str _ _ _) PySem.F.entry_str_split (PySem.F.args_str_split_2 _ _) (meets_str_split_sep x y t t' h1 hy hf (sizeLine_ge hz) hn) ?_
        show Q _ { s with toks := _, heap := s.heap.push { cls := .type "list", data := .seq (strsFrom s.toks (Builtin.Str.partsBetween x (Builtin.Str.occurrences x y 0 x.length (x.length + 1)) y.length)).toArray } }
        rw [strsFrom_eq]
        exact fin (numbered s.toks _) _ ((numbered_texts _ _).trans ((if_neg (ne_true_of_eq_false h1)).trans (if_neg (ne_true_of_eq_false hf))).symm)
      · exact call_meets PySem.F.slot_str_split (typeIs_str _ _ _) PySem.F.entry_str_split (PySem.F.args_str_split_2 _ _) (meets_str_split_not_found x y t t' h1 hy hf) (fin [(x, t)] s.toks ((if_neg (ne_true_of_eq_false h1)).trans (if_pos hf)).symm)
    · exact call_meets PySem.F.slot_str_split (typeIs_str _ _ _) PySem.F.entry_str_split (PySem.F.args_str_split_2 _ _) (meets_str_split_cannot_occur x y t t' h1) (fin [(x, t)] s.toks (if_pos h1).symm)
theorem Ev.flag {o : Expr} {apos pos : Pos} {e e2 : Expr} {i : Int} {x y : Str} (T : IntTab C.prog C.w C.H 93 flagD) (ho : Ev C fm ρ σ o (.val (.ref 93))) (he : Ev C fm ρ σ e (.int i)) (he2 : Ev C fm ρ σ e2 (.str x)) (hy : (Spec.lookup (.int i) flagD).getD (.str x) = .str y)
    (hm : ∃ pl, eval (.Call (.Attribute o (Str.ofString "get") apos) [e, e2] [] pos) fm.env = (do
      let ov ← eval o fm.env
      standAt apos.atName
      let (f, first) ← holding [ov] (getMethod ov (Str.ofString "get") pl)
      callWith pos f first (backTo pos (starEach [e, e2] fm.env)) []) := by exact ⟨_, rfl⟩) (hst : starEach [e, e2] fm.env = [(false, eval e fm.env), (false, eval e2 fm.env)] := by rfl) (hst2 : starEach [e2] fm.env = [(false, eval e2 fm.env)] := by rfl) :
    Ev C fm ρ σ (.Call (.Attribute o (Str.ofString "get") apos) [e, e2] [] pos) (.str y) := by
  obtain ⟨pl, hm⟩ := hm
  have T' : ∀ F s, Ok C F s → IntTab C.prog C.w s.heap 93 flagD := fun F s ok => T.keep (hsub ok)
  refine Ev.meth (id := "dict.get") (pl := pl) ho (Evs.cons he (Evs.cons he2 Evs.nil (by rw [hst2]; rfl)) (by rw [hst, hst2])) (fun F s v Q E ok r h => ?_) (fun F s v vs Q E ok r rs h => ?_) hm (by unfold Plain; rw [hst]; rfl)
  · obtain rfl := r.oval
    exact getMethod_intTab_get (T' F s ok) h
  · obtain rfl := r.oval
    obtain ⟨u, r', rfl, ru, rn⟩ := rs.ocons
    obtain ⟨u2, r', rfl, ru2, rn⟩ := rn.ocons
    obtain rfl := rn.onil
    obtain ⟨t, rfl⟩ := ru.oint
    obtain ⟨t', rfl⟩ := ru2.ostr
    refine call_get2_intTab (T' F s ok) (PyProof.V.Flat.str x t') fun v hv => ?_
    rw [hy] at hv
    obtain ⟨t2, rfl⟩ := hv.str_inv
    exact h _ _ F (Grow.tok1 ok) rStr
end
/- the eight numbers, after i turns -/
noncomputable def cellsAt (ms : List Int) : Nat → List Nat
  | 0 => [70, 2053, 66, 4160, 70, 70, 96, 63]
  | i + 1 => (cellsAt ms i).set (i % 8) ((cellsAt ms i).getD (i % 8) 0 + ((ms.getD i 0).fmod 1000000).toNat)
theorem cellsAt_len (ms : List Int) (i : Nat) : (cellsAt ms i).length = 8 := by
  induction i with
  | zero => rfl
  | succ i ih => simp [cellsAt, ih]
theorem slc_map {α β : Type} (f : α → β) (xs : List α) (lo hi : Option Int) : slc (xs.map f) lo hi = (slc xs lo hi).map f := by unfold slc; simp
theorem enumOf_get {xs : List AV} {i : Nat} {x : AV} (h : (enumOf xs)[i]? = some x) : ∃ y, xs[i]? = some y ∧ x = .tup [.int (i : Nat), y] := by
  unfold enumOf at h
  rw [List.getElem?_map, List.getElem?_zipIdx] at h
  cases e : xs[i]? with
  | none => rw [e] at h; cases h
  | some y => rw [e] at h; exact ⟨y, rfl, by simpa using h.symm⟩
theorem enumOf_len (xs : List AV) : (enumOf xs).length = xs.length := by simp [enumOf]
noncomputable abbrev kScript : Str := Str.ofString "script"
noncomputable abbrev kCells : Str := Str.ofString "cells"
noncomputable abbrev kTurn : Str := Str.ofString "turn"
noncomputable abbrev kNumber : Str := Str.ofString "number"
theorem mil : (10 : Int) ^ (6 : Int).toNat = 1000000 := by decide
theorem cellsFn {C : Cx} (P : PX C) {F : Ghost} {ns : List Int} (hz : ns.length ≤ 1000000) : Fn C 4 F (.ref 114) [.list (ns.map .int)] [] (.list (nints (cellsAt (slc ns none (some 60)) (slc ns none (some 60)).length))) := by
  obtain ⟨fd, D⟩ := P.cells
  obtain ⟨pm, cd, doc, rfl⟩ := D.e
  obtain ⟨ms, hms⟩ : ∃ ms, ms = slc ns none (some 60) := ⟨_, rfl⟩
  rw [← hms]
  refine Fn.body (d := 3) (I := fun _ => True) (ρ := [(kScript, .list (ns.map .int))]) D.d trivial Mono.triv (HB.one (x := kScript) fun v s => BindsTo.of_eq rfl) (by simp only [List.map_cons, List.map_nil]; decide) (by simp only [List.map_cons, List.map_nil]; decide +kernel) rfl rfl rfl fun A L q E hq room => ⟨.ret _ [], rfl, ?_⟩
  refine Ex.new (x := kCells) (xs := nints (cellsAt ms 0)) (EvN.lst (Evs.cons Ev.int (Evs.cons Ev.int (Evs.cons Ev.int (Evs.cons Ev.int (Evs.cons Ev.int (Evs.cons Ev.int (Evs.cons Ev.int (Evs.cons Ev.int Evs.nil)))))))) (by simp [cellsAt])) (.inl (by rfl)) fun l hl => ?_
  refine Ex.cons (ρ' := [(kCells, .val (.ref l))]) (σ' := [(l, .lst (nints (cellsAt ms ms.length)))]) (Es.for (vs := enumOf (ms.map .int)) (Src.enum (xs := ms.map .int) room.deeper.hd (by walk_at "ev") ((Ev.slice (by walk_at "ev") Evp.none (Evp.some Ev.int) (by simpa using hz)).eq (by rw [slc_map, ← hms]))) fun it τ I hE => ?_) (Ex.frz (Ex.one (Es.ret (by walk_at "ev"))))
  refine Fo.sub (Fo.run ms.length I (by rw [enumOf_len, List.length_map]) hE (fun i => [(kCells, .val (.ref l))]) (fun i => [(l, .lst (nints (cellsAt ms i)))]) (fun i => [(kNumber, .int (ms.getD i 0)), (kTurn, .int (i : Nat))]) (fun i x hi hx => ?_) Ex.nil) (Sub.cons (by rfl) Sub.nil)
  obtain ⟨y, hy, rfl⟩ := enumOf_get hx
  have hy' : y = .int (ms.getD i 0) := by rw [List.getElem?_map, List.getElem?_eq_getElem hi] at hy; rw [List.getD_eq_getElem?_getD, List.getElem?_eq_getElem hi]; simpa using hy.symm
  subst hy'
  refine ⟨As.tup room.deeper.hd (Ass.cons (As.name (.inl (by rfl))) (Ass.cons (As.name (.inl (by rfl))) Ass.nil)), ?_⟩
  have hlt : i % 8 < (cellsAt ms i).length := by rw [cellsAt_len]; omega
  have hget : (nints (cellsAt ms i))[i % 8]? = some (.int (((cellsAt ms i).getD (i % 8) 0 : Nat) : Int)) := by
    rw [List.getElem?_map, List.getD_eq_getElem?_getD, List.getElem?_eq_getElem hlt]; rfl
  have hset : nints (cellsAt ms (i + 1)) = (nints (cellsAt ms i)).set (i % 8) (.int (((cellsAt ms i).getD (i % 8) 0 : Nat) + (ms.getD i 0).fmod 1000000)) := by
    have h0 : 0 ≤ (ms.getD i 0).fmod 1000000 := Int.fmod_nonneg_of_pos _ (by first | assumption | decide | omega)
    rw [cellsAt]
    simp only [nints]
    rw [List.map_set]
    congr 2
    omega
  refine Ex.fgt (Ex.one (Es.augItem (by walk_at "ev") (k := i % 8) (Ev.bin (by walk_at "ev") Ev.int ((BinI.mod (by decide)).eq (show (i : Int).fmod 8 = _ from modN (by decide)))) hget (Ev.bin (by walk_at "ev") ((Ev.bin Ev.int Ev.int (BinI.pow (by decide) (by decide) (by decide))).eq (by rw [mil])) (BinI.mod (by first | assumption | decide | omega))) InI.add (Upd.app (by rw [hset]; exact .here)) (by rw [List.length_map, cellsAt_len]; omega))) (Sub.cons (by rfl) Sub.nil)
/- what a comprehension's scope must be, as a reckoning -/
noncomputable def csNames (sc scope : Scope) : List (Str × NameKind) := scope.names.map fun (n, k) => if k == .free && sc.kind == .function && sc.names.lookup n == some .cell then (n, .cell) else (n, k)
noncomputable def csOk (sc scope : Scope) (caps : List Str) : Bool :=
  scope.kind == .function && scope.names.all (fun x => x.2 != .cell && (x.2 != .local || (csNames sc scope).lookup x.1 == some .local) && (x.2 != .free || (caps.contains x.1 && (sc.names.lookup x.1 == some .cell || sc.names.lookup x.1 == some .free)))) &&
    caps.all fun x => scope.names.contains (x, .free) && ((csNames sc scope).lookup x == some .cell || (csNames sc scope).lookup x == some .free)
theorem CScope.of {fm : Fm} {scope : Scope} {ρc ρ : Rho} (caps : List Str) (h : csOk fm.env.scope scope caps = true) (hc : ρc.map (·.1) = caps) (hs : Sub ρc ρ) : CScope fm scope ρc ρ := by
  subst hc
  unfold csOk at h
  rw [Bool.and_eq_true, Bool.and_eq_true, List.all_eq_true, List.all_eq_true] at h
  obtain ⟨⟨h1, h2⟩, h3⟩ := h
  have look : ∀ x a, ρc.lookup x = some a → x ∈ ρc.map (·.1) := fun x a e => List.mem_map_of_mem (f := (·.1)) (mem_of_lookup e)
  refine ⟨eq_of_beq h1, fun x hx e => ?_, fun x hx e => ?_, fun x hx e => ?_, fun x a e => ?_, fun x a e => ?_⟩
  · have := h2 x hx; rw [e] at this; simp at this
  · have := h2 x hx; rw [e] at this; simp at this; exact this
  · have := h2 x hx; rw [e] at this
    simp only [Bool.and_eq_true, Bool.or_eq_true, bne_self_eq_false, Bool.false_eq_true, false_or, List.contains_iff_mem, beq_iff_eq] at this
    obtain ⟨_, q1, q2⟩ := this
    refine ⟨?_, q2⟩
    have q3 : ∃ a, ρc.lookup x.1 = some a := by
      clear hs h2 h3 look
      induction ρc with
      | nil => cases q1
      | cons p r ih =>
        obtain ⟨y, b⟩ := p
        rw [List.lookup_cons]
        by_cases hy : x.1 = y
        · rw [beq_iff_eq.mpr hy]; exact ⟨b, rfl⟩
        · rw [beq_eq_false_iff_ne.mpr hy]
          exact ih ((List.mem_cons.mp q1).resolve_left hy)
    obtain ⟨a, ha⟩ := q3
    rw [hs _ _ ha]; rfl
  · have := h3 x (look x a e)
    simp only [Bool.and_eq_true, List.contains_iff_mem] at this
    exact ⟨hs _ _ e, this.1⟩
  · have := h3 x (look x a e)
    simp only [Bool.and_eq_true, Bool.or_eq_true, beq_iff_eq] at this
    exact this.2
section
variable {C : Cx} {fm : Fm} {ρ ρc : Rho} {σ : Sig}
/- a comprehension without tests -/
theorem Ev.maps {α : Type} {elt tgt iter : Expr} {scope : Scope} {pos : Pos} (xs : List α) (g f : α → AV) (bd : α → Rho) (hs : Src C fm ρ σ iter tgt (xs.map g)) (S : CScope fm scope ρc ρ)
    (h : ∀ L cl E, (∀ x ∈ xs, As C (cfm fm scope cl L E) tgt (g x) (bd x)) ∧ (∀ x ∈ xs, ∀ σ, Ev C (cfm fm scope cl L E) (bd x ++ ρc) σ elt (f x)))
    (hS : ∀ x ∈ xs, Sub ρc (bd x ++ ρc)) (hz : xs.length ≤ 1000000) (hf : ∀ x, foldedSetIterable iter fm.env x = pure x := by intro _; rfl) :
    Ev C fm ρ σ (.ListComp elt [⟨tgt, iter, [], 0⟩] scope pos) (.list (xs.map f)) := by
  have := Ev.map (pos := pos) xs g f (fun _ => true) bd hs S (fun L cl E => let ⟨h1, h2⟩ := h L cl E; ⟨h1, fun _ _ _ => Ts.nil, fun x hx _ => h2 x hx⟩) hS hz hf
  rwa [List.filter_eq_self.mpr (fun _ _ => rfl)] at this
theorem Es.asgMaps {α : Type} {x : Str} {px p2 : Pos} {elt tgt iter : Expr} {scope : Scope} {pos : Pos} (xs : List α) (g f : α → AV) (bd : α → Rho) (hs : Src C fm ρ σ iter tgt (xs.map g)) (S : CScope fm scope ρc ρ)
    (h : ∀ L cl E, (∀ x ∈ xs, As C (cfm fm scope cl L E) tgt (g x) (bd x)) ∧ (∀ x ∈ xs, ∀ σ, Ev C (cfm fm scope cl L E) (bd x ++ ρc) σ elt (f x)))
    (hS : ∀ x ∈ xs, Sub ρc (bd x ++ ρc)) (hz : xs.length ≤ 1000000) (hk : Sto fm x) (hsw : swapsWith (.ListComp elt [⟨tgt, iter, [], 0⟩] scope p2) (some (.Name x px)) pos.line fm.env = pure true := by rfl) (hf : ∀ x, foldedSetIterable iter fm.env x = pure x := by intro _; rfl) :
    Es C fm ρ σ (.Assign [.Name x px] (.ListComp elt [⟨tgt, iter, [], 0⟩] scope p2) pos) (.nxt ((x, .list (xs.map f)) :: ρ) σ) := by
  have := Es.asgMap (p2 := p2) xs g f (fun _ => true) bd hs S (fun L cl E => let ⟨h1, h2⟩ := h L cl E; ⟨h1, fun _ _ _ => Ts.nil, fun x hx _ => h2 x hx⟩) hS hz hk hsw hf
  rwa [List.filter_eq_self.mpr (fun _ _ => rfl)] at this
end
/- the octets that a key's figures make -/
noncomputable def octOf (dg : List Nat) : List Nat := (dg.take (dg.length - 1)).map (64 + ·) ++ [dg.getD (dg.length - 1) 0]
noncomputable def octsOf (dg : List Nat) : List Nat := ((octOf dg).getD 0 0 + 128) :: (octOf dg).drop 1
noncomputable def figs (n t : Nat) : List Nat := if t % 2 = 0 then [n / 4096, n / 64 % 64, n % 64].drop (if n > 4095 then 0 else if n > 63 then 1 else 2) else [n / 4096, n / 64 % 64, n % 64]
theorem figs_len (n t : Nat) : 1 ≤ (figs n t).length ∧ (figs n t).length ≤ 3 := by
  unfold figs
  split
  · split
    · simp
    · split <;> simp
  · simp
noncomputable abbrev kDigit : Str := Str.ofString "digit"
noncomputable abbrev kOctets : Str := Str.ofString "octets"
theorem takeLast {dg : List Nat} (h : 1 ≤ dg.length) : slc (nints dg) none (some (-((1 : Nat) : Int))) = nints (dg.take (dg.length - 1)) := by
  unfold slc
  simp only [Option.elim, List.drop_zero, Nat.sub_zero]
  rw [List.length_map, clipAt_neg _ 1 (by first | assumption | decide | omega)]
  exact List.map_take.symm
theorem octetsFn {C : Cx} (P : PX C) {F : Ghost} {n t : Nat} : Fn C 4 F (.ref 119) [.int n, .int t] [] (.list (nints (octsOf (figs n t)))) := by
  obtain ⟨fd, D⟩ := P.octets
  obtain ⟨pm, cd, doc, rfl⟩ := D.e
  refine Fn.body (d := 3) (I := fun _ => True) (ρ := [(kNumber, .int n), (kTurn, .int t)]) D.d trivial Mono.triv (HB.two (x := kNumber) (y := kTurn) fun v u s => BindsTo.of_eq rfl) (by simp only [List.map_cons, List.map_nil]; decide) (by simp only [List.map_cons, List.map_nil]; decide +kernel) rfl rfl rfl fun A L q E hq room => ⟨.ret _ [], rfl, ?_⟩
  obtain ⟨dg, hdg⟩ : ∃ dg, dg = figs n t := ⟨_, rfl⟩
  obtain ⟨hl1, hl3⟩ := figs_len n t
  rw [← hdg] at hl1 hl3
  have e4096 : BinI .FloorDiv (n : Int) 4096 ((n / 4096 : Nat) : Int) := divN (y := 4096) (by decide) (by decide)
  have e64 : BinI .FloorDiv (n : Int) 64 ((n / 64 : Nat) : Int) := divN (y := 64) (by decide) (by decide)
  have m64 : ∀ x : Nat, BinI .Mod (x : Int) 64 ((x % 64 : Nat) : Int) := fun x => (BinI.mod (by decide)).eq (show (x : Int).fmod 64 = _ from modN (y := 64) (by decide))
  have m2 : BinI .Mod (t : Int) 2 ((t % 2 : Nat) : Int) := (BinI.mod (by decide)).eq (show (t : Int).fmod 2 = _ from modN (y := 2) (by decide))
  refine Ex.cons (Es.asg (a := .list (nints [n / 4096, n / 64 % 64, n % 64])) (Ev.lst (Evs.cons (Ev.bin (by walk_at "ev") Ev.int e4096) (Evs.cons (Ev.bin (Ev.bin (by walk_at "ev") Ev.int e64) Ev.int (m64 _)) (Evs.cons (Ev.bin (by walk_at "ev") Ev.int (m64 _)) Evs.nil)))) (.inl (by rfl))) ?_
  refine Ex.cons (ρ' := [(kDigits, .list (nints dg))]) (σ' := []) (Es.ite (Tr.cmp (Ev.bin (by walk_at "ev") Ev.int m2) Ev.int CmpI.eq) (fun q => ?_) fun q => ?_) ?_
  · have ht : t % 2 = 0 := by have : ((t % 2 : Nat) : Int) = 0 := eq_of_beq q; omega
    obtain ⟨k, hk⟩ : ∃ k, k = (if n > 4095 then 0 else if n > 63 then 1 else 2) := ⟨_, rfl⟩
    have hd : dg = [n / 4096, n / 64 % 64, n % 64].drop k := by rw [hdg, figs, if_pos ht, hk]
    refine Ex.fgt (Ex.one (Es.asg (a := .list (nints dg)) ((Ev.slice (a := some (k : Int)) (by walk_at "ev") (Evp.some ?_) Evp.none (by simp)).eq ?_) (.inl (by rfl)))) (Sub.cons (by rfl) Sub.nil)
    · rw [hk]
      refine Ev.ife (Tr.cmp (by walk_at "ev") Ev.int CmpI.gt) (fun q => ?_) fun q => Ev.ife (Tr.cmp (by walk_at "ev") Ev.int CmpI.gt) (fun q2 => ?_) fun q2 => ?_
      · have h1 : n > 4095 := by have := of_decide_eq_true q; omega
        rw [if_pos h1]; exact Ev.int
      · have h1 : ¬ n > 4095 := by have := of_decide_eq_false q; omega
        have h2 : n > 63 := by have := of_decide_eq_true q2; omega
        rw [if_neg h1, if_pos h2]; exact Ev.int
      · have h1 : ¬ n > 4095 := by have := of_decide_eq_false q; omega
        have h2 : ¬ n > 63 := by have := of_decide_eq_false q2; omega
        rw [if_neg h1, if_neg h2]; exact Ev.int
    · rw [slc_map, hd]
      have hk2 : k ≤ 2 := by rw [hk]; split; omega; split <;> omega
      unfold slc
      simp only [Option.elim, clipAt_nat]
      rw [Nat.min_eq_left (by simp; omega), List.take_of_length_le (by simp)]
  · have ht : ¬ t % 2 = 0 := by have := ne_of_beq_false q; omega
    have hd : dg = [n / 4096, n / 64 % 64, n % 64] := by rw [hdg, figs, if_neg ht]
    rw [hd]
    exact Ex.fgt Ex.nil (Sub.cons (by rfl) Sub.nil)
  rw [← hdg]
  have hlast : (nints dg)[(nints dg).length - 1]? = some (.int (dg.getD (dg.length - 1) 0 : Nat)) := by
    rw [List.getElem?_map, List.length_map, List.getD_eq_getElem?_getD, List.getElem?_eq_getElem (by first | assumption | decide | omega)]; rfl
  refine Ex.cons (Es.asg (a := .list (nints (octOf dg))) ((Ev.addL (Ev.maps (ρc := []) (dg.take (dg.length - 1)) (fun d => .int (d : Nat)) (fun d => .int ((64 + d : Nat) : Int)) (fun d => [(kDigit, .int (d : Nat))]) (Src.list room.deeper.hd ((Ev.slice (by walk_at "ev") Evp.none (Evp.some (Ev.neg Ev.int)) (by simp; omega)).eq (congrArg AV.list (takeLast hl1)))) (CScope.of [] (by show csOk (fnScope sOctets) _ _ = true; decide +kernel) rfl Sub.nil) (fun L cl E => ⟨fun x _ => As.name (.inl (by rfl)), fun x _ σ => Ev.bin (a := ((64 : Nat) : Int)) Ev.int (Ev.loc (by rfl) (by rfl)) BinI.addN⟩) (fun _ _ => Sub.nil) (by simp; omega))
    (Ev.lst (Evs.cons (Ev.itemN (k := 1) (by walk_at "ev") (Ev.neg Ev.int) (by first | assumption | decide | omega) (by simpa using hl1) hlast (by first | assumption | decide | omega)) Evs.nil)) (by simp; omega)).eq (by simp only [octOf, nints, List.map_append, List.map_map]; rfl)) (.inl (by rfl))) ?_
  have ho : 1 ≤ (octOf dg).length := by simp [octOf]
  have ho3 : (octOf dg).length ≤ 3 := by simp [octOf]; omega
  have hfst : (nints (octOf dg))[(0 : Int).toNat]? = some (.int ((octOf dg).getD 0 0 : Nat)) := by
    show (nints (octOf dg))[0]? = _
    rw [List.getElem?_map, List.getD_eq_getElem?_getD, List.getElem?_eq_getElem (by first | assumption | decide | omega)]; rfl
  refine Ex.head (Es.ret ((Ev.addL (Ev.lst (Evs.cons (Ev.bin (Ev.item (by walk_at "ev") Ev.int (by first | assumption | decide | omega) hfst (by first | assumption | decide | omega)) Ev.int (BinI.addN (y := 128))) Evs.nil)) (Ev.slice (a := some ((1 : Nat) : Int)) (by walk_at "ev") (Evp.some Ev.int) Evp.none (by simp; omega)) ?_).eq ?_))
  · unfold slc; simp; omega
  · rw [slc_map]
    unfold slc
    simp only [Option.elim, clipAt_nat]
    rw [Nat.min_eq_left ho, List.take_of_length_le (by simp)]
    simp [octsOf]
/- the names of the places -/
noncomputable def flagNames : List Str := [Str.ofString "OPTIMIZED", Str.ofString "NEWLOCALS", Str.ofString "VARARGS", Str.ofString "VARKEYWORDS", Str.ofString "NESTED", Str.ofString "GENERATOR", Str.ofString "NOFREE", Str.ofString "COROUTINE", Str.ofString "ITERABLE_COROUTINE", Str.ofString "ASYNC_GENERATOR"]
noncomputable def hexT (i : Int) : Str := baseText "0x" 16 i
noncomputable def nm (i : Nat) : Str := (flagNames[i]?).getD (hexT ((2 ^ i : Nat) : Int))
noncomputable def eqPd : Option PyData → Option Str → Bool
  | some (.str a), some b => a == b
  | none, none => true
  | _, _ => false
theorem eqPd_eq : ∀ {a : Option PyData} {b : Option Str}, eqPd a b = true → a = b.map PyData.str := by
  intro a b h
  unfold eqPd at h
  split at h
  · rw [eq_of_beq h]; rfl
  · rfl
  · cases h
theorem flagLookB : ∀ i, i < 32 → eqPd (Spec.lookup (.int ((2 ^ i : Nat) : Int)) flagD) (flagNames[i]?) = true := by decide +kernel
theorem flagLook (i : Nat) (hi : i < 32) : Spec.lookup (.int ((2 ^ i : Nat) : Int)) flagD = (flagNames[i]?).map PyData.str := eqPd_eq (flagLookB i hi)
theorem flagGet {i : Nat} (hi : i < 32) : (Spec.lookup (.int ((2 ^ i : Nat) : Int)) flagD).getD (.str (hexT ((2 ^ i : Nat) : Int))) = .str (nm i) := by
  rw [flagLook i hi]; unfold nm; cases flagNames[i]? <;> rfl
theorem hexOk : ∀ i, i < 32 → (hexT ((2 ^ i : Nat) : Int)).length ≤ 20 := by decide +kernel
/- one place of a number, below nought too -/
theorem andPow (i : Nat) (z : Int) : Builtin.bitAnd ((2 ^ i : Nat) * z) ((2 ^ i : Nat) : Int) = (2 ^ i : Nat) * (z % 2) := by
  have h2 : (0 : Int) ≤ ((2 ^ i : Nat) : Int) := Int.natCast_nonneg _
  have hp : 0 < 2 ^ i := Nat.two_pow_pos i
  by_cases hz : 0 ≤ z
  · obtain ⟨m, rfl⟩ := Int.eq_ofNat_of_zero_le hz
    have hx : ((2 ^ i : Nat) : Int) * (m : Int) = ((2 ^ i * m : Nat) : Int) := by simp
    rw [hx, bitAnd_pp (Int.natCast_nonneg _) h2, Int.toNat_natCast, Int.toNat_natCast]
    have : 2 ^ i * m &&& 2 ^ i = 2 ^ i * (m % 2) := by
      apply Nat.eq_of_testBit_eq
      intro j
      rw [Nat.testBit_and, Nat.testBit_two_pow_mul, Nat.testBit_two_pow_mul, Nat.testBit_two_pow]
      by_cases h : i = j
      · subst h; simp [Nat.testBit_zero]
      · by_cases hj : j ≥ i
        · have : (m % 2).testBit (j - i) = false := Nat.testBit_lt_two_pow (Nat.lt_of_lt_of_le (Nat.mod_lt _ (by decide)) (by
            have := Nat.pow_le_pow_right (n := 2) (by decide) (show 1 ≤ j - i by omega); simpa using this))
          simp [h, this]
        · simp [hj, h]
    rw [this]; simp
  · obtain ⟨m, hm⟩ := Int.eq_ofNat_of_zero_le (show 0 ≤ -z - 1 by omega)
    have hz' : z = -(m : Int) - 1 := by omega
    subst hz'
    have hneg : ¬ 0 ≤ ((2 ^ i : Nat) : Int) * (-(m : Int) - 1) := by
      have : ((2 ^ i : Nat) : Int) * (-(m : Int) - 1) < 0 := Int.mul_neg_of_pos_of_neg (by first | assumption | decide | omega) (by first | assumption | decide | omega)
      omega
    rw [bitAnd_np hneg h2, Int.toNat_natCast]
    have hn : Builtin.bitNot (((2 ^ i : Nat) : Int) * (-(m : Int) - 1)) = ((2 ^ i * m + (2 ^ i - 1) : Nat) : Int) := by
      unfold Builtin.bitNot
      rw [Int.mul_sub, Int.mul_neg, Int.mul_one, Int.natCast_add, Int.natCast_mul, Int.natCast_sub (by first | assumption | decide | omega)]
      omega
    rw [hn, Int.toNat_natCast]
    have : 2 ^ i &&& (2 ^ i * m + (2 ^ i - 1)) = 2 ^ i * (m % 2) := by
      apply Nat.eq_of_testBit_eq
      intro j
      rw [Nat.testBit_and, Nat.testBit_two_pow_mul_add _ (by first | assumption | decide | omega), Nat.testBit_two_pow_mul, Nat.testBit_two_pow]
      by_cases h : i = j
      · subst h; simp [Nat.testBit_zero]
      · by_cases hj : j ≥ i
        · have : (m % 2).testBit (j - i) = false := Nat.testBit_lt_two_pow (Nat.lt_of_lt_of_le (Nat.mod_lt _ (by decide)) (by
            have := Nat.pow_le_pow_right (n := 2) (by decide) (show 1 ≤ j - i by omega); simpa using this))
          simp [h, this]
        · simp [hj, h]
    rw [this]
    have hmod : (-(m : Int) - 1) % 2 = 1 - ((m % 2 : Nat) : Int) := by omega
    rw [hmod, Int.mul_sub, Int.mul_one]; simp
/- what pretty_flags tells, from the place i on -/
noncomputable def fnGo (x : Int) : Nat → Nat → List Str → List Str
  | 0, i, acc => acc ++ [hexT ((2 ^ i : Nat) * (x / (2 ^ i : Nat)))]
  | k + 1, i, acc => if x / (2 ^ i : Nat) % 2 = 1 then (if x / (2 ^ (i + 1) : Nat) = 0 then acc ++ [nm i] else fnGo x k (i + 1) (acc ++ [nm i])) else fnGo x k (i + 1) acc
theorem half_next (x : Int) (i : Nat) : x / (2 ^ (i + 1) : Nat) = x / (2 ^ i : Nat) / 2 := by
  rw [Nat.pow_succ, Int.natCast_mul, Int.ediv_ediv_of_nonneg (Int.natCast_nonneg _)]
  rfl
theorem pow_next (i : Nat) (z : Int) : ((2 ^ (i + 1) : Nat) : Int) * z = (2 ^ i : Nat) * (2 * z) := by
  rw [Nat.pow_succ, Int.natCast_mul, Int.mul_assoc]; rfl
theorem flag_keep {x : Int} {i : Nat} (h : ¬ x / (2 ^ i : Nat) % 2 = 1) : (2 ^ i : Nat) * (x / (2 ^ i : Nat)) = (2 ^ (i + 1) : Nat) * (x / (2 ^ (i + 1) : Nat)) := by
  rw [pow_next, half_next]; congr 1; omega
theorem flag_drop {x : Int} {i : Nat} (h : x / (2 ^ i : Nat) % 2 = 1) : Builtin.bitXor ((2 ^ i : Nat) * (x / (2 ^ i : Nat))) ((2 ^ i : Nat) : Int) = (2 ^ (i + 1) : Nat) * (x / (2 ^ (i + 1) : Nat)) := by
  rw [bitXor_and, andPow, h, pow_next, half_next, Int.mul_one]
  have e : x / (2 ^ i : Nat) = 2 * (x / (2 ^ i : Nat) / 2) + 1 := by omega
  generalize x / ((2 ^ i : Nat) : Int) / 2 = w at e ⊢
  rw [e, Int.mul_add, Int.mul_one]; omega
noncomputable abbrev kFlags : Str := Str.ofString "flags"
noncomputable abbrev kFlag : Str := Str.ofString "flag"
noncomputable abbrev kNames : Str := Str.ofString "names"
noncomputable abbrev kI : Str := Str.ofString "i"
section
variable {C : Cx} {fm : Fm} {ρ ρ' ρ₂ : Rho} {σ σ' σ₂ : Sig}
theorem Ex.fgtB {ss} (h : Ex C fm ρ σ ss (.brk ρ' σ')) (hs : Sub ρ₂ ρ') (hs2 : σ₂.Sublist σ') : Ex C fm ρ σ ss (.brk ρ₂ σ₂) := ⟨fun F s X =>
  wpAny_mono (h.h F s X) (fun f s₁ ⟨F₁, g₁, e, X₁⟩ => ⟨F₁, g₁, e, (X₁.sub hs).sig hs2⟩) fun _ _ ⟨_, q, _⟩ => nomatch q⟩
end
noncomputable abbrev texts (ys : List Str) : List AV := ys.map .str
noncomputable def forBody : Stmt → List Stmt
  | .For _ _ b _ _ => b
  | _ => []
theorem flags_loop {C : Cx} (P : PX C) {A L a q cd E I} {x : Int} {l : Addr} {it : Value} {τ : Nat → Sig} (room : Room A 5) (hz : (hexT ((2 ^ 32 : Nat) * (x / (2 ^ 32 : Nat)))).length ≤ 20)
    (stm : Stmt) (hst : stm = nth (fnBody sFlags) 1) (tgt iter : Expr) (bd el : List Stmt) (p : Pos) (he : stm = .For tgt iter bd el p) (It : Itr C (ffm A (fnScope sFlags) L a q cd E I).A it tgt ((List.range 32).map fun i : Nat => AV.int (i : Int)) τ) (hE : ∀ i, ∀ p ∈ τ i, ¬ E p.1) :
    ∀ k i acc, i + k = 32 → acc.length ≤ i → Fo C (ffm A (fnScope sFlags) L a q cd E I) [(kFlags, .int ((2 ^ i : Nat) * (x / (2 ^ i : Nat)))), (kNames, .val (.ref l))] (τ i ++ [(l, .lst (texts acc))]) tgt it bd el (.nxt [(kNames, .val (.ref l))] [(l, .lst (texts (fnGo x k i acc)))]) := by
  have hs : Stmt.For tgt iter bd el p = nth (fnBody sFlags) 1 := by rw [← he, hst]
  have hlen : ((List.range 32).map fun i : Nat => AV.int (i : Int)).length = 32 := by simp
  injection hs with h1 h2 h3 h4 h5
  subst h1 h2 h3 h4 h5
  intro k
  induction k with
  | zero =>
    intro i acc hi hacc
    have : i = 32 := by omega
    subst this
    rw [← hlen]
    refine Fo.done It (hE _) ?_
    rw [hlen]
    refine Ex.fgt (Ex.one (Es.expr (EvM.meth PySem.F.slot_list_append PySem.F.type_list_append (by walk_at "ev") (Evs.cons (Ev.call (d := 1) (room.deeper.le (by decide)) (by walk_at "ev") (Evs.cons (by walk_at "ev") Evs.nil) Evk.nil fun _ _ _ => ⟨kpB, fnHex (Nat.le_trans hz (sizeLine_ge (by first | assumption | decide | omega)))⟩) Evs.nil) (Wr.append (xs := texts acc) (by rw [List.length_map]; omega)) (by
      have e : texts (fnGo x 0 32 acc) = texts acc ++ [.str (hexT ((2 ^ 32 : Nat) * (x / (2 ^ 32 : Nat))))] := by simp [fnGo, texts]
      rw [e]
      exact .here)))) (Sub.cons (by rfl) Sub.nil)
  | succ k ih =>
    intro i acc hi hacc
    have hi32 : i < 32 := by omega
    have hx : ((List.range 32).map fun i : Nat => AV.int (i : Int))[i]? = some (.int (i : Nat)) := by simp [hi32]
    have one : BinI .LShift 1 (i : Int) ((2 ^ i : Nat) : Int) := (BinI.shlN (x := 1) (by first | assumption | decide | omega) (by decide)).eq (by rw [Nat.one_mul])
    have hnl : (texts acc).length ≤ 1000000 := by rw [List.length_map]; omega
    by_cases hb : x / (2 ^ i : Nat) % 2 = 1
    · have hand : (2 ^ i : Nat) * (x / (2 ^ i : Nat) % 2) = ((2 ^ i : Nat) : Int) := by rw [hb, Int.mul_one]
      have htrue : (((2 ^ i : Nat) * (x / (2 ^ i : Nat) % 2) : Int) != 0) = true := by rw [hand]; exact bne_iff_ne.mpr (by have := Nat.two_pow_pos i; omega)
      have step : Ex C (ffm A (fnScope sFlags) L a q cd E I) [(kFlag, .int ((2 ^ i : Nat) : Int)), (kI, .int (i : Nat)), (kFlags, .int ((2 ^ i : Nat) * (x / (2 ^ i : Nat)))), (kNames, .val (.ref l))] (τ (i + 1) ++ [(l, .lst (texts acc))]) (ifBody (nth (forBody (nth (fnBody sFlags) 1)) 1))
          (if x / (2 ^ (i + 1) : Nat) = 0 then .brk [(kNames, .val (.ref l))] [(l, .lst (texts (acc ++ [nm i])))] else .nxt [(kFlags, .int ((2 ^ (i + 1) : Nat) * (x / (2 ^ (i + 1) : Nat)))), (kNames, .val (.ref l))] (τ (i + 1) ++ [(l, .lst (texts (acc ++ [nm i])))])) := by
        refine Ex.cons (σ' := τ (i + 1) ++ [(l, .lst (texts (acc ++ [nm i])))]) (Es.expr (EvM.meth PySem.F.slot_list_append PySem.F.type_list_append (by walk_at "ev") (Evs.cons (Ev.flag P.tab (by walk_at "ev") (by walk_at "ev") (Ev.call (d := 1) (room.deeper.le (by decide)) (by walk_at "ev") (Evs.cons (by walk_at "ev") Evs.nil) Evk.nil fun _ _ _ => ⟨kpB, fnHex (Nat.le_trans (hexOk i hi32) (sizeLine_ge (by first | assumption | decide | omega)))⟩) (flagGet hi32)) Evs.nil) (Wr.append hnl) (Upd.app (by
          have e : texts (acc ++ [nm i]) = texts acc ++ [.str (nm i)] := List.map_append
          rw [e]; exact .here)))) ?_
        refine Ex.cons (Es.aug (by rfl) (by rfl) (by walk_at "ev") (show InI .BitXor _ _ ((2 ^ (i + 1) : Nat) * (x / (2 ^ (i + 1) : Nat))) from flag_drop hb ▸ InI.xor)) ?_
        by_cases hq : x / (2 ^ (i + 1) : Nat) = 0
        · rw [if_pos hq]
          refine Ex.fgtB (Ex.head (Es.ite (b := true) (Tr.eq (Tr.not (Tr.val (by walk_at "ev") Tv.int)) (by rw [hq]; simp)) (fun _ => Ex.head Es.brk) fun q => nomatch q)) (Sub.cons (by rfl) Sub.nil) (List.sublist_append_right _ _)
        · rw [if_neg hq]
          refine Ex.fgt (Ex.one (Es.ite (b := false) (Tr.eq (Tr.not (Tr.val (by walk_at "ev") Tv.int)) (by rw [bne_iff_ne.mpr (Int.mul_ne_zero (by have := Nat.two_pow_pos (i + 1); omega) hq)]; rfl)) (fun q => nomatch q) fun _ => Ex.nil)) (Sub.cons (by rfl) (Sub.cons (by rfl) Sub.nil))
      have body : Ex C (ffm A (fnScope sFlags) L a q cd E I) [(kI, .int (i : Nat)), (kFlags, .int ((2 ^ i : Nat) * (x / (2 ^ i : Nat)))), (kNames, .val (.ref l))] (τ (i + 1) ++ [(l, .lst (texts acc))]) (forBody (nth (fnBody sFlags) 1))
          (if x / (2 ^ (i + 1) : Nat) = 0 then .brk [(kNames, .val (.ref l))] [(l, .lst (texts (acc ++ [nm i])))] else .nxt [(kFlags, .int ((2 ^ (i + 1) : Nat) * (x / (2 ^ (i + 1) : Nat)))), (kNames, .val (.ref l))] (τ (i + 1) ++ [(l, .lst (texts (acc ++ [nm i])))])) :=
        Ex.cons (Es.asg (Ev.bin Ev.int (by walk_at "ev") one) (.inl (by rfl))) (Ex.one (Es.ite (b := true) (Tr.eq (Tr.val (Ev.bin (by walk_at "ev") (by walk_at "ev") (BinI.and.eq (andPow i _))) Tv.int) htrue) (fun _ => step) fun q => nomatch q))
      by_cases hq : x / (2 ^ (i + 1) : Nat) = 0
      · rw [if_pos hq] at body
        have e : fnGo x (k + 1) i acc = acc ++ [nm i] := by rw [fnGo, if_pos hb, if_pos hq]
        rw [e]
        exact Fo.turn It hx (As.name (.inl (by rfl))) rfl (.inr (.inr ⟨_, _, rfl, body⟩))
      · rw [if_neg hq] at body
        have e : fnGo x (k + 1) i acc = fnGo x k (i + 1) (acc ++ [nm i]) := by rw [fnGo, if_pos hb, if_neg hq]
        rw [e]
        exact Fo.turn It hx (As.name (.inl (by rfl))) rfl (.inl ⟨_, _, .inl body, ih (i + 1) _ (by first | assumption | decide | omega) (by simp; omega)⟩)
    · have h0 : x / (2 ^ i : Nat) % 2 = 0 := by omega
      have e : fnGo x (k + 1) i acc = fnGo x k (i + 1) acc := by rw [fnGo, if_neg hb]
      rw [e]
      refine Fo.turn It hx (As.name (.inl (by rfl))) rfl (.inl ⟨_, _, .inl (Ex.fgt (Ex.cons (Es.asg (Ev.bin Ev.int (by walk_at "ev") one) (.inl (by rfl))) (Ex.one (Es.ite (b := false) (Tr.eq (Tr.val (Ev.bin (by walk_at "ev") (by walk_at "ev") (BinI.and.eq (andPow i _))) Tv.int) (by rw [h0]; simp)) (fun q => nomatch q) fun _ => Ex.nil))) ?_), ih (i + 1) acc (by first | assumption | decide | omega) (by first | assumption | decide | omega)⟩)
      refine Sub.cons ?_ (Sub.cons (by rfl) Sub.nil)
      rw [← flag_keep hb]; rfl
/- pretty_flags -/
theorem flagsFn {C : Cx} (P : PX C) {F : Ghost} {x : Int} (hz : (hexT ((2 ^ 32 : Nat) * (x / (2 ^ 32 : Nat)))).length ≤ 20) (hw : ((fnGo x 32 0 []).map (·.length)).sum + (fnGo x 32 0 []).length * (Str.ofString ", ").length ≤ 16777216) :
    Fn C 6 F (.ref 100) [.int x] [] (.str (Txt.join (Str.ofString ", ") (fnGo x 32 0 []))) := by
  obtain ⟨fd, D⟩ := P.flags
  obtain ⟨pm, cd, doc, rfl⟩ := D.e
  refine Fn.body (d := 5) (I := fun _ => True) (ρ := [(kFlags, .int x)]) D.d trivial Mono.triv (HB.one (x := kFlags) fun v s => BindsTo.of_eq rfl) (by simp only [List.map_cons, List.map_nil]; decide) (by simp only [List.map_cons, List.map_nil]; decide +kernel) rfl rfl rfl fun A L q E hq room => ⟨.ret _ [], rfl, ?_⟩
  refine Ex.new (x := kNames) (EvN.lst Evs.nil) (.inl (by rfl)) fun l hl => ?_
  refine Ex.cons (ρ' := [(kNames, .val (.ref l))]) (σ' := [(l, .lst (texts (fnGo x 32 0 [])))]) (Es.for (vs := (List.range 32).map fun i : Nat => AV.int (i : Int)) (Src.range (n := 32) room.deeper.hd (by walk_at "ev") Ev.int (by decide)) fun it τ I hE => ?_) (Ex.frz (Ex.one (Es.ret (Ev.join Ev.str (by walk_at "ev") hw))))
  have := flags_loop P (x := x) (l := l) (a := 100) (L := L) (q := q) (cd := (fdP sFlags pm cd doc).code) (E := E) (I := fun _ => True) (it := it) (τ := τ) (room.le (by first | assumption | decide | omega)) hz _ rfl _ _ _ _ _ rfl I hE 32 0 [] (by first | assumption | decide | omega) (by simp)
  rw [show ((2 ^ 0 : Nat) : Int) * (x / ((2 ^ 0 : Nat) : Int)) = x by simp] at this
  exact Fo.sub this (Sub.cons (by rfl) (Sub.cons (by rfl) Sub.nil))
theorem nmOk : ∀ i, i < 32 → (nm i).length ≤ 20 := by decide +kernel
theorem fnGo_ok (x : Int) (hz : (hexT ((2 ^ 32 : Nat) * (x / (2 ^ 32 : Nat)))).length ≤ 20) : ∀ k i acc, i + k = 32 → (∀ y ∈ acc, y.length ≤ 20) → acc.length ≤ i → (fnGo x k i acc).length ≤ 33 ∧ ∀ y ∈ fnGo x k i acc, y.length ≤ 20 := by
  intro k
  induction k with
  | zero =>
    intro i acc hi h1 h2
    have : i = 32 := by omega
    subst this
    refine ⟨by simp [fnGo]; omega, fun y hy => ?_⟩
    rw [fnGo, List.mem_append, List.mem_singleton] at hy
    rcases hy with hy | rfl
    · exact h1 y hy
    · exact hz
  | succ k ih =>
    intro i acc hi h1 h2
    have h3 : ∀ y ∈ acc ++ [nm i], y.length ≤ 20 := fun y hy => by
      rw [List.mem_append, List.mem_singleton] at hy
      rcases hy with hy | rfl
      · exact h1 y hy
      · exact nmOk i (by first | assumption | decide | omega)
    rw [fnGo]
    split
    · split
      · exact ⟨by simp; omega, h3⟩
      · exact ih (i + 1) _ (by first | assumption | decide | omega) h3 (by simp; omega)
    · exact ih (i + 1) _ (by first | assumption | decide | omega) h1 (by first | assumption | decide | omega)
theorem sum_le (B : Nat) : ∀ (ys : List Str), (∀ y ∈ ys, y.length ≤ B) → (ys.map (·.length)).sum ≤ ys.length * B
  | [], _ => by simp
  | y :: ys, h => by
    have h1 := h y (.head _)
    have h2 := sum_le B ys fun z hz => h z (.tail _ hz)
    simp only [List.map_cons, List.sum_cons, List.length_cons, Nat.add_mul, Nat.one_mul]
    omega
noncomputable abbrev kSep : Str := Str.ofString ", "
theorem sepLen : kSep.length = 2 := by decide +kernel
/- what pretty_flags gives -/
noncomputable def told (x : Int) : List Str := fnGo x 32 0 []
theorem toldOk {x : Int} (hz : (hexT ((2 ^ 32 : Nat) * (x / (2 ^ 32 : Nat)))).length ≤ 20) : ((told x).map (·.length)).sum + (told x).length * kSep.length ≤ 1000 := by
  obtain ⟨h1, h2⟩ := fnGo_ok x hz 32 0 [] rfl (fun _ h => nomatch h) (Nat.le_refl _)
  have h3 := sum_le 20 _ h2
  rw [sepLen]
  show ((fnGo x 32 0 []).map (·.length)).sum + (fnGo x 32 0 []).length * 2 ≤ 1000
  have : (fnGo x 32 0 []).length * 20 ≤ 33 * 20 := Nat.mul_le_mul_right _ h1
  omega
theorem flagsFn' {C : Cx} (P : PX C) {F : Ghost} {x : Int} (hz : (hexT ((2 ^ 32 : Nat) * (x / (2 ^ 32 : Nat)))).length ≤ 20) : Fn C 6 F (.ref 100) [.int x] [] (.str (Txt.join kSep (told x))) :=
  flagsFn P hz (Nat.le_trans (toldOk hz) (by decide))
theorem hex_zero : (hexT 0).length ≤ 20 := by decide +kernel
theorem small_hz {y : Nat} (hy : y < 2 ^ 32) : (hexT ((2 ^ 32 : Nat) * ((y : Int) / (2 ^ 32 : Nat)))).length ≤ 20 := by
  have : (y : Int) / ((2 ^ 32 : Nat) : Int) = 0 := by
    have h1 : (y : Int) / ((2 ^ 32 : Nat) : Int) = ((y / 2 ^ 32 : Nat) : Int) := rfl
    rw [h1, Nat.div_eq_of_lt hy]; rfl
  rw [this, Int.mul_zero]; exact hex_zero
noncomputable abbrev kPlaces : Str := Str.ofString "places"
noncomputable abbrev kPlace : Str := Str.ofString "place"
theorem wordsFn {C : Cx} (P : PX C) {F : Ghost} {ps : List Nat} (hp : ∀ p ∈ ps, p < 32) (hz : ps.length ≤ 1000) : Fn C 4 F (.ref 138) [.list (nints ps)] [] (.list (texts (ps.map nm))) := by
  obtain ⟨fd, D⟩ := P.words
  obtain ⟨pm, cd, doc, rfl⟩ := D.e
  refine Fn.body (d := 3) (I := fun _ => True) (ρ := [(kPlaces, .list (nints ps))]) D.d trivial Mono.triv (HB.one (x := kPlaces) fun v s => BindsTo.of_eq rfl) (by simp only [List.map_cons, List.map_nil]; decide) (by simp only [List.map_cons, List.map_nil]; decide +kernel) rfl rfl rfl fun A L q E hq room => ⟨.ret _ [], rfl, ?_⟩
  refine Ex.cons (Es.asg (x := kNames) (a := .list (texts flagNames)) (Ev.lst (Evs.cons Ev.str (Evs.cons Ev.str (Evs.cons Ev.str (Evs.cons Ev.str (Evs.cons Ev.str (Evs.cons Ev.str (Evs.cons Ev.str (Evs.cons Ev.str (Evs.cons Ev.str (Evs.cons Ev.str Evs.nil)))))))))) (by decide)) (.inr ⟨rfl, by rfl⟩)) ?_
  refine Ex.head (Es.ret ((Ev.maps (ρc := [(kNames, .list (texts flagNames))]) ps (fun p => .int (p : Nat)) (fun p => .str (nm p)) (fun p => [(kPlace, .int (p : Nat))]) (Src.list room.deeper.hd (by walk_at "ev")) (CScope.of [kNames] (by show csOk (fnScope sWords) _ _ = true; decide +kernel) rfl (Sub.cons (by rfl) Sub.nil)) (fun L cl E => ⟨fun x _ => As.name (.inl (by rfl)), fun p hp' σ => ?_⟩) (fun p _ => Sub.cons (by rfl) Sub.nil) (by first | assumption | decide | omega)).eq (by rw [texts, List.map_map]; rfl)))
  refine Ev.ife (Tr.cmp (Ev.loc (by rfl) (by rfl)) Ev.int CmpI.lt) (fun q => ?_) fun q => ?_
  · have h10 : p < 10 := by have := of_decide_eq_true q; omega
    refine Ev.item (Ev.cel (by rfl) (by rfl)) (Ev.loc (by rfl) (by rfl)) (by first | assumption | decide | omega) ?_ (by first | assumption | decide | omega)
    rw [Int.toNat_natCast, List.getElem?_map]
    have hl : p < flagNames.length := h10
    rw [List.getElem?_eq_getElem hl]
    unfold nm
    rw [List.getElem?_eq_getElem hl]; rfl
  · have h10 : ¬ p < 10 := by have := of_decide_eq_false q; omega
    have hnm : nm p = hexT ((2 ^ p : Nat) : Int) := by
      unfold nm
      rw [List.getElem?_eq_none (by show 10 ≤ p; omega)]; rfl
    rw [hnm]
    exact Ev.call (d := 1) (room.deeper.le (by decide)) (by walk_at "ev") (Evs.cons (Ev.bin Ev.int (Ev.loc (by rfl) (by rfl)) ((BinI.shlN (x := 1) (by have := hp p hp'; omega) (by decide)).eq (by rw [Nat.one_mul]))) Evs.nil) Evk.nil fun _ _ _ => ⟨kpB, fnHex (Nat.le_trans (hexOk p (hp p hp')) (sizeLine_ge (by first | assumption | decide | omega)))⟩
noncomputable abbrev kMask : Str := Str.ofString "mask"
noncomputable abbrev kWords : Str := Str.ofString "words"
noncomputable abbrev kTold : Str := Str.ofString "told"
noncomputable abbrev kWord : Str := Str.ofString "word"
/- a number's sketch -/
noncomputable def sketch (y : Nat) (ws : List Str) : Nat := ofDigs 1 (ws.map fun w => if (Txt.split (Txt.join kSep (told (y : Nat))) kSep).any (· == w) then 1 else 0)
theorem sketchFn {C : Cx} (P : PX C) {F : Ghost} {n m : Nat} {ws : List Str} (hn : n < 2 ^ 32) (hw : ws.length ≤ 100) : Fn C (ws.length + 9) F (.ref 143) [.int n, .int m, .list (texts ws)] [] (.int (sketch (n &&& m) ws : Nat)) := by
  obtain ⟨fd, D⟩ := P.sketch
  obtain ⟨pm, cd, doc, rfl⟩ := D.e
  have hy : n &&& m < 2 ^ 32 := Nat.lt_of_le_of_lt Nat.and_le_left hn
  have hz := small_hz hy
  have ht := toldOk hz
  refine Fn.body (d := ws.length + 8) (I := fun _ => True) (ρ := [(kNumber, .int n), (kMask, .int m), (kWords, .list (texts ws))]) D.d trivial Mono.triv (HB.three (x := kNumber) (y := kMask) (z := kWords) fun v u w s => BindsTo.of_eq rfl) (by simp only [List.map_cons, List.map_nil]; decide) (by simp only [List.map_cons, List.map_nil]; decide +kernel) rfl rfl rfl fun A L q E hq room => ⟨.ret _ [], rfl, ?_⟩
  have band : BinI .BitAnd (n : Int) (m : Int) ((n &&& m : Nat) : Int) := BinI.and.eq (by rw [bitAnd_pp (by first | assumption | decide | omega) (by first | assumption | decide | omega)]; rfl)
  have hjl : (Txt.join kSep (told ((n &&& m : Nat) : Int))).length ≤ 1000 := by
    have h1 := StrLaws.join_length_le kSep (told ((n &&& m : Nat) : Int))
    have h2 : Txt.join kSep (told ((n &&& m : Nat) : Int)) = Str.join kSep (told ((n &&& m : Nat) : Int)) := StrLaws.glued_eq_join _ _
    rw [h2]; omega
  refine Ex.cons (Es.asg (Ev.split (Ev.call (d := 6) (room.deeper.le (by first | assumption | decide | omega)) (by walk_at "ev") (Evs.cons (Ev.bin (by walk_at "ev") (by walk_at "ev") band) Evs.nil) Evk.nil fun F' s X => ⟨Def.kp (P.flags.choose_spec.d) X.ok, flagsFn' P hz⟩) Ev.str (by decide +kernel) (by first | assumption | decide | omega)) (.inr ⟨rfl, by rfl⟩)) ?_
  obtain ⟨tl, htl⟩ : ∃ tl, tl = Txt.split (Txt.join kSep (told ((n &&& m : Nat) : Int))) kSep := ⟨_, rfl⟩
  have hsk : sketch (n &&& m) ws = ofDigs 1 (ws.map fun w => if tl.any (· == w) then 1 else 0) := by rw [htl]; rfl
  rw [hsk]
  rw [show (Txt.split (Txt.join kSep (told ((n &&& m : Nat) : Int))) (Str.ofString ", ")) = tl from htl.symm]
  refine Ex.head (Es.ret (Ev.call (d := ws.length + 4) (room.deeper.le (by first | assumption | decide | omega)) (by walk_at "ev") (Evs.cons ((Ev.maps (ρc := [(kTold, .list (texts tl))]) ws AV.str (fun w => .int ((if tl.any (· == w) then 1 else 0 : Nat) : Int)) (fun w => [(kWord, .str w)]) (Src.list room.deeper.hd (by walk_at "ev")) (CScope.of [kTold] (by show csOk (fnScope sSketch) _ _ = true; decide +kernel) rfl (Sub.cons (by rfl) Sub.nil)) (fun L cl E => ⟨fun x _ => As.name (.inl (by rfl)), fun w _ σ => ?_⟩) (fun p _ => Sub.cons (by rfl) Sub.nil) (by first | assumption | decide | omega)).eq (b := .list (nints (ws.map fun w => if tl.any (· == w) then 1 else 0))) (by rw [nints, List.map_map]; rfl)) (Evs.cons (Ev.int (i := ((1 : Nat) : Int))) Evs.nil)) Evk.nil fun F' s X => ⟨Def.kp (P.d2i.choose_spec.d) X.ok, ?_⟩))
  · refine Ev.ife (Tr.inS (Ev.loc (by rfl) (by rfl)) (Ev.cel (by rfl) (by rfl))) (fun q => ?_) fun q => ?_
    · rw [if_pos q]; exact Ev.int
    · rw [if_neg (by rw [q]; simp)]; exact Ev.int
  · have := d2i P (F := F') (ds := ws.map fun w => if tl.any (· == w) then 1 else 0) (n := 1) (fun d hd => by
      obtain ⟨w, _, rfl⟩ := List.mem_map.mp hd
      split <;> decide) (by rw [List.length_map]; omega) (by rw [List.length_map]; omega)
    rw [List.length_map] at this
    exact this.le (by first | assumption | decide | omega)
/- what a key function does -/
noncomputable def KeyI (C : Cx) (kv : Value) (xs : List AV) (f : Nat → Int) (F : Ghost) : Prop := KpOk F kv ∧ ∀ i y, xs[i]? = some y → Fn C 1 F kv [y] [] (.int (f i))
theorem KeyI.mono {C kv xs f} : Mono (KeyI C kv xs f) := fun F F' h q => ⟨q.1.mono h, fun i y e => (q.2 i y e).mono h⟩
noncomputable abbrev bRho (a : AV) (x : AV) (lo hi key : AV) : Rho := [(kA, a), (kX, x), (kLo, lo), (kHi, hi), (kKey, key)]
theorem bnd (a x lo hi key : AV) : ((bRho a x lo hi key).map (·.1)).Nodup := by show [kA, kX, kLo, kHi, kKey].Nodup; decide
/- a function with the four's parameters -/
noncomputable def fdG (b : FuncData) (d k : Addr) (ps : Arguments) : FuncData := { b with params := ps, defaults := .ref d, kwdefaults := .ref k }
noncomputable abbrev arG (p1 p2 p3 p4 p5 : Pos) (e1 e2 e3 : Expr) : Arguments := { posonlyargs := [], args := [⟨kA, none, p1⟩, ⟨kX, none, p2⟩, ⟨kLo, none, p3⟩, ⟨kHi, none, p4⟩], vararg := none, kwonlyargs := [⟨kKey, none, p5⟩], kw_defaults := [some e3], kwarg := none, defaults := [e1, e2] }
theorem hbG5 {C : Cx} {b : FuncData} {p1 p2 p3 p4 p5 : Pos} {e1 e2 e3 : Expr} {d k : Addr} {a x lo hi : AV} {kv : Value} (h1 : ∃ o t n, C.H.get? d = some o ∧ o.data = .seq #[.int 0 t, .none] n) :
    HB C (fdG b d k (arG p1 p2 p3 p4 p5 e1 e2 e3)) [a, x, lo, hi] [(kKey, .val kv)] (bRho a x lo hi (.val kv)) := fun F s vals kvs ok hv hk => by
  obtain ⟨o, t, n, ho, hd⟩ := h1
  obtain ⟨v1, r, rfl, r1, rn⟩ := hv.ocons
  obtain ⟨v2, r, rfl, r2, rn⟩ := rn.ocons
  obtain ⟨v3, r, rfl, r3, rn⟩ := rn.ocons
  obtain ⟨v4, r, rfl, r4, rn⟩ := rn.ocons
  obtain rfl := rn.onil
  obtain ⟨v5, r, rfl, r5, rn⟩ := hk
  cases rn
  refine ⟨[(kA, v1), (kX, v2), (kLo, v3), (kHi, v4), (kKey, v5)], ?_, Binds.cons r1 (Binds.cons r2 (Binds.cons r3 (Binds.cons r4 (Binds.cons r5 Binds.nil))))⟩
  intro M A E Q hq
  show wpAny M A (seqItems? (.ref d) >>= _) Q E s
  refine wpAny_bind (wpAny_seqItems (hsub ok _ _ ho) hd ?_)
  exact wpAny_pure hq
theorem hbG4 {C : Cx} {b : FuncData} {p1 p2 p3 p4 p5 : Pos} {e1 e2 e3 : Expr} {d k : Addr} {a x lo hi : AV} (h1 : ∃ o t n, C.H.get? d = some o ∧ o.data = .seq #[.int 0 t, .none] n) (h2 : ∃ m, C.H.Ns k m ∧ m (Str.ofString "key") = some .none) :
    HB C (fdG b d k (arG p1 p2 p3 p4 p5 e1 e2 e3)) [a, x, lo, hi] [] (bRho a x lo hi .none) := fun F s vals kvs ok hv hk => by
  obtain ⟨o, t, n, ho, hd⟩ := h1
  obtain ⟨m, hk2, hm⟩ := h2
  obtain ⟨v1, r, rfl, r1, rn⟩ := hv.ocons
  obtain ⟨v2, r, rfl, r2, rn⟩ := rn.ocons
  obtain ⟨v3, r, rfl, r3, rn⟩ := rn.ocons
  obtain ⟨v4, r, rfl, r4, rn⟩ := rn.ocons
  obtain rfl := rn.onil
  cases hk
  refine ⟨[(kA, v1), (kX, v2), (kLo, v3), (kHi, v4), (kKey, .none)], ?_, Binds.cons r1 (Binds.cons r2 (Binds.cons r3 (Binds.cons r4 (Binds.cons rVal Binds.nil))))⟩
  intro M A E Q hq
  show wpAny M A (seqItems? (.ref d) >>= _) Q E s
  refine wpAny_bind (wpAny_seqItems (hsub ok _ _ ho) hd ?_)
  show wpAny M A (((nsGet k kKey >>= _) >>= _) >>= _) Q E s
  refine wpAny_bind (wpAny_bind (wpAny_bind (wpAny_nsGet (hk2.keeps (hsub ok)) ?_)))
  rw [hm]
  repeat (first | exact hq | refine wpAny_bind ?_ | refine wpAny_pure ?_)
theorem hbG3 {C : Cx} {b : FuncData} {p1 p2 p3 p4 p5 : Pos} {e1 e2 e3 : Expr} {d k : Addr} {a x lo : AV} (h1 : ∃ o t n, C.H.get? d = some o ∧ o.data = .seq #[.int 0 t, .none] n) (h2 : ∃ m, C.H.Ns k m ∧ m (Str.ofString "key") = some .none) :
    HB C (fdG b d k (arG p1 p2 p3 p4 p5 e1 e2 e3)) [a, x, lo] [] (bRho a x lo .none .none) := fun F s vals kvs ok hv hk => by
  obtain ⟨o, t, n, ho, hd⟩ := h1
  obtain ⟨m, hk2, hm⟩ := h2
  obtain ⟨v1, r, rfl, r1, rn⟩ := hv.ocons
  obtain ⟨v2, r, rfl, r2, rn⟩ := rn.ocons
  obtain ⟨v3, r, rfl, r3, rn⟩ := rn.ocons
  obtain rfl := rn.onil
  cases hk
  refine ⟨[(kA, v1), (kX, v2), (kLo, v3), (kHi, .none), (kKey, .none)], ?_, Binds.cons r1 (Binds.cons r2 (Binds.cons r3 (Binds.cons rVal (Binds.cons rVal Binds.nil))))⟩
  intro M A E Q hq
  show wpAny M A (seqItems? (.ref d) >>= _) Q E s
  refine wpAny_bind (wpAny_seqItems (hsub ok _ _ ho) hd ?_)
  show wpAny M A (((nsGet k kKey >>= _) >>= _) >>= _) Q E s
  refine wpAny_bind (wpAny_bind (wpAny_bind (wpAny_nsGet (hk2.keeps (hsub ok)) ?_)))
  rw [hm]
  repeat (first | exact hq | refine wpAny_bind ?_ | refine wpAny_pure ?_)
theorem hbG2 {C : Cx} {b : FuncData} {p1 p2 p3 p4 p5 : Pos} {e1 e2 e3 : Expr} {d k : Addr} {a x : AV} (h1 : ∃ o t n, C.H.get? d = some o ∧ o.data = .seq #[.int 0 t, .none] n) (h2 : ∃ m, C.H.Ns k m ∧ m (Str.ofString "key") = some .none) :
    HB C (fdG b d k (arG p1 p2 p3 p4 p5 e1 e2 e3)) [a, x] [] (bRho a x (.int 0) .none .none) := fun F s vals kvs ok hv hk => by
  obtain ⟨o, t, n, ho, hd⟩ := h1
  obtain ⟨m, hk2, hm⟩ := h2
  obtain ⟨v1, r, rfl, r1, rn⟩ := hv.ocons
  obtain ⟨v2, r, rfl, r2, rn⟩ := rn.ocons
  obtain rfl := rn.onil
  cases hk
  refine ⟨[(kA, v1), (kX, v2), (kLo, .int 0 t), (kHi, .none), (kKey, .none)], ?_, Binds.cons r1 (Binds.cons r2 (Binds.cons rInt (Binds.cons rVal (Binds.cons rVal Binds.nil))))⟩
  intro M A E Q hq
  show wpAny M A (seqItems? (.ref d) >>= _) Q E s
  refine wpAny_bind (wpAny_seqItems (hsub ok _ _ ho) hd ?_)
  show wpAny M A (((nsGet k kKey >>= _) >>= _) >>= _) Q E s
  refine wpAny_bind (wpAny_bind (wpAny_bind (wpAny_nsGet (hk2.keeps (hsub ok)) ?_)))
  rw [hm]
  repeat (first | exact hq | refine wpAny_bind ?_ | refine wpAny_pure ?_)
theorem hbGI {C : Cx} {b : FuncData} {p1 p2 p3 p4 p5 : Pos} {e1 e2 e3 : Expr} {d k : Addr} {a x : AV} {kv : Value} (h1 : ∃ o t n, C.H.get? d = some o ∧ o.data = .seq #[.int 0 t, .none] n) :
    HB C (fdG b d k (arG p1 p2 p3 p4 p5 e1 e2 e3)) [a, x] [(kKey, .val kv)] (bRho a x (.int 0) .none (.val kv)) := fun F s vals kvs ok hv hk => by
  obtain ⟨o, t, n, ho, hd⟩ := h1
  obtain ⟨v1, r, rfl, r1, rn⟩ := hv.ocons
  obtain ⟨v2, r, rfl, r2, rn⟩ := rn.ocons
  obtain rfl := rn.onil
  obtain ⟨v5, r, rfl, r5, rn⟩ := hk
  cases rn
  refine ⟨[(kA, v1), (kX, v2), (kLo, .int 0 t), (kHi, .none), (kKey, v5)], ?_, Binds.cons r1 (Binds.cons r2 (Binds.cons rInt (Binds.cons rVal (Binds.cons r5 Binds.nil))))⟩
  intro M A E Q hq
  show wpAny M A (seqItems? (.ref d) >>= _) Q E s
  refine wpAny_bind (wpAny_seqItems (hsub ok _ _ ho) hd ?_)
  exact wpAny_pure hq
theorem hbL5 {C : Cx} {pm cd doc : Value} {d k : Addr} {a x lo hi : AV} {kv : Value} (h1 : ∃ o t n, C.H.get? d = some o ∧ o.data = .seq #[.int 0 t, .none] n) :
    HB C (fdD sBisL pm cd doc d k) [a, x, lo, hi] [(kKey, .val kv)] (bRho a x lo hi (.val kv)) :=
  hbG5 (b := fdP sBisL pm cd doc) h1
theorem hbL4 {C : Cx} {pm cd doc : Value} {d k : Addr} {a x lo hi : AV} (h1 : ∃ o t n, C.H.get? d = some o ∧ o.data = .seq #[.int 0 t, .none] n) (h2 : ∃ m, C.H.Ns k m ∧ m (Str.ofString "key") = some .none) :
    HB C (fdD sBisL pm cd doc d k) [a, x, lo, hi] [] (bRho a x lo hi .none) :=
  hbG4 (b := fdP sBisL pm cd doc) h1 h2
theorem hbL3 {C : Cx} {pm cd doc : Value} {d k : Addr} {a x lo : AV} (h1 : ∃ o t n, C.H.get? d = some o ∧ o.data = .seq #[.int 0 t, .none] n) (h2 : ∃ m, C.H.Ns k m ∧ m (Str.ofString "key") = some .none) :
    HB C (fdD sBisL pm cd doc d k) [a, x, lo] [] (bRho a x lo .none .none) :=
  hbG3 (b := fdP sBisL pm cd doc) h1 h2
theorem hbL2 {C : Cx} {pm cd doc : Value} {d k : Addr} {a x : AV} (h1 : ∃ o t n, C.H.get? d = some o ∧ o.data = .seq #[.int 0 t, .none] n) (h2 : ∃ m, C.H.Ns k m ∧ m (Str.ofString "key") = some .none) :
    HB C (fdD sBisL pm cd doc d k) [a, x] [] (bRho a x (.int 0) .none .none) :=
  hbG2 (b := fdP sBisL pm cd doc) h1 h2
theorem bisLK {C : Cx} (P : PX C) {F : Ghost} {xs : List AV} {f : Nat → Int} {x : Int} {kv : Value} {lo hi : Nat} {ha : AV} (hI : KeyI C kv xs f F) (hkv : (kv == .none) = false) (hz : xs.length ≤ 1000000) (hh : (ha = .none ∧ hi = xs.length) ∨ ha = .int hi) (h2 : lo ≤ hi) (h3 : hi ≤ xs.length) :
    Fn C 3 F (.ref 50) [.list xs, .int x, .int lo, ha] [(kKey, .val kv)] (.int (bisL f x lo hi : Nat)) := by
  obtain ⟨fd, D⟩ := P.bisL
  obtain ⟨pm, cd, doc, d, k, rfl, h1, _⟩ := D.e
  refine Fn.body (d := 2) (I := KeyI C kv xs f) (ρ := bRho (.list xs) (.int x) (.int lo) ha (.val kv)) D.d hI KeyI.mono (hbL5 h1) (bnd _ _ _ _ _) (by simp only [List.map_cons, List.map_nil]; decide +kernel) rfl rfl rfl fun A L q E hq room => ⟨.ret _ [], rfl, ?_⟩
  exact bisL_body P true room hkv (fun i hi' => ⟨xs[i], List.getElem?_eq_getElem hi', fun q => (nomatch q), fun _ F s σ ρ X => ⟨X.inv.1, X.inv.2 i _ (List.getElem?_eq_getElem hi')⟩⟩) hz lo hi ha hh h2 h3
theorem bisLI {C : Cx} (P : PX C) {A L q cd E} {ns : List Int} {x : Int} {lo hi : Nat} {ha : AV} (room : Room A 3) (hz : ns.length ≤ 1000000) (hh : (ha = .none ∧ hi = ns.length) ∨ ha = .int hi) (h2 : lo ≤ hi) (h3 : hi ≤ ns.length) :
    Ex C (ffm A (fnScope sBisL) L 50 q cd E fun _ => True) (bRho (.list (ns.map .int)) (.int x) (.int lo) ha .none) [] (fnBody sBisL) (.ret (.int (bisL (fun i => ns.getD i 0) x lo hi : Nat)) []) :=
  bisL_body P (kv := .none) false room rfl (fun i hi' => ⟨.int (ns.getD i 0), by
    rw [List.length_map] at hi'
    rw [List.getElem?_map, List.getElem?_eq_getElem hi', List.getD_eq_getElem?_getD, List.getElem?_eq_getElem hi']; rfl, fun _ => rfl, fun q => nomatch q⟩) (by rw [List.length_map]; exact hz) lo hi ha (by rw [List.length_map]; exact hh) h2 (by rw [List.length_map]; exact h3)
theorem bisL2 {C : Cx} (P : PX C) {F : Ghost} {ns : List Int} {x : Int} (hz : ns.length ≤ 1000000) : Fn C 3 F (.ref 50) [.list (ns.map .int), .int x] [] (.int (bisL (fun i => ns.getD i 0) x 0 ns.length : Nat)) := by
  obtain ⟨fd, D⟩ := P.bisL
  obtain ⟨pm, cd, doc, d, k, rfl, h1, h2⟩ := D.e
  exact Fn.body (d := 2) (I := fun _ => True) D.d trivial Mono.triv (hbL2 h1 h2) (bnd _ _ _ _ _) (by simp only [List.map_cons, List.map_nil]; decide +kernel) rfl rfl rfl fun A L q E hq room => ⟨.ret _ [], rfl, bisLI P (lo := 0) room hz (.inl ⟨rfl, rfl⟩) (Nat.zero_le _) (Nat.le_refl _)⟩
theorem bisL3 {C : Cx} (P : PX C) {F : Ghost} {ns : List Int} {x : Int} {lo : Nat} (hz : ns.length ≤ 1000000) (hlo : lo ≤ ns.length) : Fn C 3 F (.ref 50) [.list (ns.map .int), .int x, .int lo] [] (.int (bisL (fun i => ns.getD i 0) x lo ns.length : Nat)) := by
  obtain ⟨fd, D⟩ := P.bisL
  obtain ⟨pm, cd, doc, d, k, rfl, h1, h2⟩ := D.e
  exact Fn.body (d := 2) (I := fun _ => True) D.d trivial Mono.triv (hbL3 h1 h2) (bnd _ _ _ _ _) (by simp only [List.map_cons, List.map_nil]; decide +kernel) rfl rfl rfl fun A L q E hq room => ⟨.ret _ [], rfl, bisLI P room hz (.inl ⟨rfl, rfl⟩) hlo (Nat.le_refl _)⟩
theorem bisL4 {C : Cx} (P : PX C) {F : Ghost} {ns : List Int} {x : Int} {lo hi : Nat} (hz : ns.length ≤ 1000000) (hlo : lo ≤ hi) (hhi : hi ≤ ns.length) : Fn C 3 F (.ref 50) [.list (ns.map .int), .int x, .int lo, .int hi] [] (.int (bisL (fun i => ns.getD i 0) x lo hi : Nat)) := by
  obtain ⟨fd, D⟩ := P.bisL
  obtain ⟨pm, cd, doc, d, k, rfl, h1, h2⟩ := D.e
  exact Fn.body (d := 2) (I := fun _ => True) D.d trivial Mono.triv (hbL4 h1 h2) (bnd _ _ _ _ _) (by simp only [List.map_cons, List.map_nil]; decide +kernel) rfl rfl rfl fun A L q E hq room => ⟨.ret _ [], rfl, bisLI P room hz (.inr rfl) hlo hhi⟩
theorem hbR5 {C : Cx} {pm cd doc : Value} {d k : Addr} {a x lo hi : AV} {kv : Value} (h1 : ∃ o t n, C.H.get? d = some o ∧ o.data = .seq #[.int 0 t, .none] n) :
    HB C (fdD sBisR pm cd doc d k) [a, x, lo, hi] [(kKey, .val kv)] (bRho a x lo hi (.val kv)) :=
  hbG5 (b := fdP sBisR pm cd doc) h1
theorem hbR4 {C : Cx} {pm cd doc : Value} {d k : Addr} {a x lo hi : AV} (h1 : ∃ o t n, C.H.get? d = some o ∧ o.data = .seq #[.int 0 t, .none] n) (h2 : ∃ m, C.H.Ns k m ∧ m (Str.ofString "key") = some .none) :
    HB C (fdD sBisR pm cd doc d k) [a, x, lo, hi] [] (bRho a x lo hi .none) :=
  hbG4 (b := fdP sBisR pm cd doc) h1 h2
theorem hbR3 {C : Cx} {pm cd doc : Value} {d k : Addr} {a x lo : AV} (h1 : ∃ o t n, C.H.get? d = some o ∧ o.data = .seq #[.int 0 t, .none] n) (h2 : ∃ m, C.H.Ns k m ∧ m (Str.ofString "key") = some .none) :
    HB C (fdD sBisR pm cd doc d k) [a, x, lo] [] (bRho a x lo .none .none) :=
  hbG3 (b := fdP sBisR pm cd doc) h1 h2
theorem hbR2 {C : Cx} {pm cd doc : Value} {d k : Addr} {a x : AV} (h1 : ∃ o t n, C.H.get? d = some o ∧ o.data = .seq #[.int 0 t, .none] n) (h2 : ∃ m, C.H.Ns k m ∧ m (Str.ofString "key") = some .none) :
    HB C (fdD sBisR pm cd doc d k) [a, x] [] (bRho a x (.int 0) .none .none) :=
  hbG2 (b := fdP sBisR pm cd doc) h1 h2
theorem bisRK {C : Cx} (P : PX C) {F : Ghost} {xs : List AV} {f : Nat → Int} {x : Int} {kv : Value} {lo hi : Nat} {ha : AV} (hI : KeyI C kv xs f F) (hkv : (kv == .none) = false) (hz : xs.length ≤ 1000000) (hh : (ha = .none ∧ hi = xs.length) ∨ ha = .int hi) (h2 : lo ≤ hi) (h3 : hi ≤ xs.length) :
    Fn C 3 F (.ref 32) [.list xs, .int x, .int lo, ha] [(kKey, .val kv)] (.int (bisR f x lo hi : Nat)) := by
  obtain ⟨fd, D⟩ := P.bisR
  obtain ⟨pm, cd, doc, d, k, rfl, h1, _⟩ := D.e
  refine Fn.body (d := 2) (I := KeyI C kv xs f) (ρ := bRho (.list xs) (.int x) (.int lo) ha (.val kv)) D.d hI KeyI.mono (hbR5 h1) (bnd _ _ _ _ _) (by simp only [List.map_cons, List.map_nil]; decide +kernel) rfl rfl rfl fun A L q E hq room => ⟨.ret _ [], rfl, ?_⟩
  exact bisR_body P true room hkv (fun i hi' => ⟨xs[i], List.getElem?_eq_getElem hi', fun q => (nomatch q), fun _ F s σ ρ X => ⟨X.inv.1, X.inv.2 i _ (List.getElem?_eq_getElem hi')⟩⟩) hz lo hi ha hh h2 h3
theorem bisRI {C : Cx} (P : PX C) {A L q cd E} {ns : List Int} {x : Int} {lo hi : Nat} {ha : AV} (room : Room A 3) (hz : ns.length ≤ 1000000) (hh : (ha = .none ∧ hi = ns.length) ∨ ha = .int hi) (h2 : lo ≤ hi) (h3 : hi ≤ ns.length) :
    Ex C (ffm A (fnScope sBisR) L 32 q cd E fun _ => True) (bRho (.list (ns.map .int)) (.int x) (.int lo) ha .none) [] (fnBody sBisR) (.ret (.int (bisR (fun i => ns.getD i 0) x lo hi : Nat)) []) :=
  bisR_body P (kv := .none) false room rfl (fun i hi' => ⟨.int (ns.getD i 0), by
    rw [List.length_map] at hi'
    rw [List.getElem?_map, List.getElem?_eq_getElem hi', List.getD_eq_getElem?_getD, List.getElem?_eq_getElem hi']; rfl, fun _ => rfl, fun q => nomatch q⟩) (by rw [List.length_map]; exact hz) lo hi ha (by rw [List.length_map]; exact hh) h2 (by rw [List.length_map]; exact h3)
theorem bisR2 {C : Cx} (P : PX C) {F : Ghost} {ns : List Int} {x : Int} (hz : ns.length ≤ 1000000) : Fn C 3 F (.ref 32) [.list (ns.map .int), .int x] [] (.int (bisR (fun i => ns.getD i 0) x 0 ns.length : Nat)) := by
  obtain ⟨fd, D⟩ := P.bisR
  obtain ⟨pm, cd, doc, d, k, rfl, h1, h2⟩ := D.e
  exact Fn.body (d := 2) (I := fun _ => True) D.d trivial Mono.triv (hbR2 h1 h2) (bnd _ _ _ _ _) (by simp only [List.map_cons, List.map_nil]; decide +kernel) rfl rfl rfl fun A L q E hq room => ⟨.ret _ [], rfl, bisRI P (lo := 0) room hz (.inl ⟨rfl, rfl⟩) (Nat.zero_le _) (Nat.le_refl _)⟩
theorem bisR3 {C : Cx} (P : PX C) {F : Ghost} {ns : List Int} {x : Int} {lo : Nat} (hz : ns.length ≤ 1000000) (hlo : lo ≤ ns.length) : Fn C 3 F (.ref 32) [.list (ns.map .int), .int x, .int lo] [] (.int (bisR (fun i => ns.getD i 0) x lo ns.length : Nat)) := by
  obtain ⟨fd, D⟩ := P.bisR
  obtain ⟨pm, cd, doc, d, k, rfl, h1, h2⟩ := D.e
  exact Fn.body (d := 2) (I := fun _ => True) D.d trivial Mono.triv (hbR3 h1 h2) (bnd _ _ _ _ _) (by simp only [List.map_cons, List.map_nil]; decide +kernel) rfl rfl rfl fun A L q E hq room => ⟨.ret _ [], rfl, bisRI P room hz (.inl ⟨rfl, rfl⟩) hlo (Nat.le_refl _)⟩
theorem bisR4 {C : Cx} (P : PX C) {F : Ghost} {ns : List Int} {x : Int} {lo hi : Nat} (hz : ns.length ≤ 1000000) (hlo : lo ≤ hi) (hhi : hi ≤ ns.length) : Fn C 3 F (.ref 32) [.list (ns.map .int), .int x, .int lo, .int hi] [] (.int (bisR (fun i => ns.getD i 0) x lo hi : Nat)) := by
  obtain ⟨fd, D⟩ := P.bisR
  obtain ⟨pm, cd, doc, d, k, rfl, h1, h2⟩ := D.e
  exact Fn.body (d := 2) (I := fun _ => True) D.d trivial Mono.triv (hbR4 h1 h2) (bnd _ _ _ _ _) (by simp only [List.map_cons, List.map_nil]; decide +kernel) rfl rfl rfl fun A L q E hq room => ⟨.ret _ [], rfl, bisRI P room hz (.inr rfl) hlo hhi⟩
theorem FnW.top {C : Cx} {d : Nat} {F : Ghost} {f : Value} {args : List AV} {kw : Rho} {ω ω' : Sig} {res : AV} (h : ∀ F₁ s, GLe F F₁ → Ok C F₁ s → FnW C d F₁ f args kw ω res ω') : FnW C d F f args kw ω res ω' :=
  ⟨fun F₁ s A vals kvs hF ok => (h F₁ s hF ok).h F₁ s A vals kvs (GLe.refl _) ok⟩
noncomputable def InsI (C : Cx) (kv : Value) (xs : List AV) (f : Nat → Int) (y : AV) (kx : Int) (F : Ghost) : Prop := KeyI C kv xs f F ∧ Fn C 1 F kv [y] [] (.int kx)
theorem InsI.mono {C kv xs f y kx} : Mono (InsI C kv xs f y kx) := fun F F' h q => ⟨KeyI.mono F F' h q.1, q.2.mono h⟩
theorem hbLI {C : Cx} {pm cd doc : Value} {d k : Addr} {a x : AV} {kv : Value} (h1 : ∃ o t n, C.H.get? d = some o ∧ o.data = .seq #[.int 0 t, .none] n) :
    HB C (fdD sInsL pm cd doc d k) [a, x] [(kKey, .val kv)] (bRho a x (.int 0) .none (.val kv)) :=
  hbGI (b := fdP sInsL pm cd doc) h1
theorem insL {C : Cx} (P : PX C) {F : Ghost} {l : Addr} {xs : List AV} {y : AV} {f : Nat → Int} {kx : Int} {kv : Value} (hI : InsI C kv xs f y kx F) (hkv : (kv == .none) = false) (hz : xs.length ≤ 1000000) (hp : bisL f kx 0 xs.length ≤ xs.length) :
    FnW C 5 F (.ref 41) [.val (.ref l), y] [(kKey, .val kv)] [(l, .lst xs)] .none [(l, .lst (xs.take (bisL f kx 0 xs.length) ++ y :: xs.drop (bisL f kx 0 xs.length)))] := by
  obtain ⟨fd, D⟩ := P.insL
  obtain ⟨pm, cd, doc, d, k, rfl, h1, _⟩ := D.e
  refine FnW.top fun F₁ s hF ok => ?_
  refine FnW.body (d := 4) (I := InsI C kv xs f y kx) (ρ := bRho (.val (.ref l)) y (.int 0) .none (.val kv)) (ρf := []) (sc := fnScope sInsL) (D.d.g ok) (InsI.mono _ _ hF hI) InsI.mono rfl rfl (hbLI h1) (bnd _ _ _ _ _) (by simp only [List.map_cons, List.map_nil]; decide +kernel) (fun x b e => nomatch e) (by decide +kernel) rfl rfl rfl (by simp) fun A L q E hq room => ?_
  refine ⟨.nxt [] [(l, .lst (xs.take (bisL f kx 0 xs.length) ++ y :: xs.drop (bisL f kx 0 xs.length)))], rfl, ?_⟩
  show Ex C (gfm A (fnScope sInsL) L 41 q cd [] E [l] _) (bRho (.val (.ref l)) y (.int 0) .none (.val kv)) [(l, .lst xs)] (fnBody sInsL) _
  refine Ex.cons (ρ' := (kLo, .int (bisL f kx 0 xs.length : Nat)) :: bRho (.val (.ref l)) y (.int 0) .none (.val kv)) (σ' := [(l, .lst xs)]) (Es.ite (b := false) (Tr.eq (Tr.isN (a := .val kv) (by walk_at "ev")) hkv) (fun q => nomatch q) fun _ => ?_) (Ex.fgt (Ex.one (Es.expr (EvM.meth PySem.F.slot_list_insert PySem.F.type_list_insert (by walk_at "ev") (Evs.cons (by walk_at "ev") (Evs.cons (by walk_at "ev") Evs.nil)) (Wr.insert hz hp) .here))) Sub.nil)
  refine Ex.one (Es.asg (Ev.thaw (Ev.call (d := 3) (room.deeper.le (by decide)) (by walk_at "ev") (Evs.cons (by walk_at "ev") (Evs.cons (Ev.call (d := 1) (room.deeper.le (by decide)) (by walk_at "ev") (Evs.cons (by walk_at "ev") Evs.nil) Evk.nil fun F s X => ⟨X.inv.1.1, X.inv.2⟩) (Evs.cons (by walk_at "ev") (Evs.cons (by walk_at "ev") Evs.nil)))) (Evk.cons (by walk_at "ev") Evk.nil) fun F s X => ⟨Def.kp (P.bisL.choose_spec.d) X.ok, bisLK P (lo := 0) X.inv.1 hkv hz (.inl ⟨rfl, rfl⟩) (Nat.zero_le _) (Nat.le_refl _)⟩)) (.inl (by rfl)))
theorem bisL_le (f : Nat → Int) (x : Int) : ∀ n lo hi, hi - lo ≤ n → lo ≤ hi → lo ≤ bisL f x lo hi ∧ bisL f x lo hi ≤ hi := by
  intro n
  induction n with
  | zero => intro lo hi h1 h2; have : lo = hi := by omega
            subst this; rw [bisL_stop]; omega
  | succ n ih =>
    intro lo hi h1 h2
    rw [bisL]
    split
    · split
      · have := ih ((lo + hi) / 2 + 1) hi (by first | assumption | decide | omega) (by first | assumption | decide | omega); omega
      · have := ih lo ((lo + hi) / 2) (by first | assumption | decide | omega) (by first | assumption | decide | omega); omega
    · omega
theorem hbRI {C : Cx} {pm cd doc : Value} {d k : Addr} {a x : AV} {kv : Value} (h1 : ∃ o t n, C.H.get? d = some o ∧ o.data = .seq #[.int 0 t, .none] n) :
    HB C (fdD sInsR pm cd doc d k) [a, x] [(kKey, .val kv)] (bRho a x (.int 0) .none (.val kv)) :=
  hbGI (b := fdP sInsR pm cd doc) h1
theorem insR {C : Cx} (P : PX C) {F : Ghost} {l : Addr} {xs : List AV} {y : AV} {f : Nat → Int} {kx : Int} {kv : Value} (hI : InsI C kv xs f y kx F) (hkv : (kv == .none) = false) (hz : xs.length ≤ 1000000) (hp : bisR f kx 0 xs.length ≤ xs.length) :
    FnW C 5 F (.ref 23) [.val (.ref l), y] [(kKey, .val kv)] [(l, .lst xs)] .none [(l, .lst (xs.take (bisR f kx 0 xs.length) ++ y :: xs.drop (bisR f kx 0 xs.length)))] := by
  obtain ⟨fd, D⟩ := P.insR
  obtain ⟨pm, cd, doc, d, k, rfl, h1, _⟩ := D.e
  refine FnW.top fun F₁ s hF ok => ?_
  refine FnW.body (d := 4) (I := InsI C kv xs f y kx) (ρ := bRho (.val (.ref l)) y (.int 0) .none (.val kv)) (ρf := []) (sc := fnScope sInsR) (D.d.g ok) (InsI.mono _ _ hF hI) InsI.mono rfl rfl (hbRI h1) (bnd _ _ _ _ _) (by simp only [List.map_cons, List.map_nil]; decide +kernel) (fun x b e => nomatch e) (by decide +kernel) rfl rfl rfl (by simp) fun A L q E hq room => ?_
  refine ⟨.nxt [] [(l, .lst (xs.take (bisR f kx 0 xs.length) ++ y :: xs.drop (bisR f kx 0 xs.length)))], rfl, ?_⟩
  show Ex C (gfm A (fnScope sInsR) L 23 q cd [] E [l] _) (bRho (.val (.ref l)) y (.int 0) .none (.val kv)) [(l, .lst xs)] (fnBody sInsR) _
  refine Ex.cons (ρ' := (kLo, .int (bisR f kx 0 xs.length : Nat)) :: bRho (.val (.ref l)) y (.int 0) .none (.val kv)) (σ' := [(l, .lst xs)]) (Es.ite (b := false) (Tr.eq (Tr.isN (a := .val kv) (by walk_at "ev")) hkv) (fun q => nomatch q) fun _ => ?_) (Ex.fgt (Ex.one (Es.expr (EvM.meth PySem.F.slot_list_insert PySem.F.type_list_insert (by walk_at "ev") (Evs.cons (by walk_at "ev") (Evs.cons (by walk_at "ev") Evs.nil)) (Wr.insert hz hp) .here))) Sub.nil)
  refine Ex.one (Es.asg (Ev.thaw (Ev.call (d := 3) (room.deeper.le (by decide)) (by walk_at "ev") (Evs.cons (by walk_at "ev") (Evs.cons (Ev.call (d := 1) (room.deeper.le (by decide)) (by walk_at "ev") (Evs.cons (by walk_at "ev") Evs.nil) Evk.nil fun F s X => ⟨X.inv.1.1, X.inv.2⟩) (Evs.cons (by walk_at "ev") (Evs.cons (by walk_at "ev") Evs.nil)))) (Evk.cons (by walk_at "ev") Evk.nil) fun F s X => ⟨Def.kp (P.bisR.choose_spec.d) X.ok, bisRK P (lo := 0) X.inv.1 hkv hz (.inl ⟨rfl, rfl⟩) (Nat.zero_le _) (Nat.le_refl _)⟩)) (.inl (by rfl)))
theorem bisR_le (f : Nat → Int) (x : Int) : ∀ n lo hi, hi - lo ≤ n → lo ≤ hi → lo ≤ bisR f x lo hi ∧ bisR f x lo hi ≤ hi := by
  intro n
  induction n with
  | zero => intro lo hi h1 h2; have : lo = hi := by omega
            subst this; rw [bisR_stop]; omega
  | succ n ih =>
    intro lo hi h1 h2
    rw [bisR]
    split
    · split
      · have := ih lo ((lo + hi) / 2) (by first | assumption | decide | omega) (by first | assumption | decide | omega); omega
      · have := ih ((lo + hi) / 2 + 1) hi (by first | assumption | decide | omega) (by first | assumption | decide | omega); omega
    · omega
/- the row after i numbers -/
noncomputable abbrev rowA (ps : List (Int × Int)) : List AV := ps.map fun p => .tup [.int p.1, .int p.2]
noncomputable def keyAt (ps : List (Int × Int)) (i : Nat) : Int := (ps.getD i (0, 0)).1
noncomputable def rowAt (ns : List Nat) : Nat → List (Int × Int)
  | 0 => []
  | i + 1 =>
    let ps := rowAt ns i
    let p := if i % 2 = 0 then bisL (keyAt ps) (ns.getD i 0 : Nat) 0 ps.length else bisR (keyAt ps) (ns.getD i 0 : Nat) 0 ps.length
    ps.take p ++ (((ns.getD i 0 : Nat) : Int), if i % 2 = 0 then -(i : Int) else i) :: ps.drop p
theorem rowAt_len (ns : List Nat) (i : Nat) : (rowAt ns i).length = i := by
  induction i with
  | zero => rfl
  | succ i ih =>
    rw [rowAt]
    have h1 := bisL_le (keyAt (rowAt ns i)) (ns.getD i 0 : Nat) _ 0 (rowAt ns i).length (Nat.le_refl _) (Nat.zero_le _)
    have h2 := bisR_le (keyAt (rowAt ns i)) (ns.getD i 0 : Nat) _ 0 (rowAt ns i).length (Nat.le_refl _) (Nat.zero_le _)
    simp only [List.length_append, List.length_cons, List.length_take, List.length_drop]
    split <;> omega
noncomputable abbrev kRow : Str := Str.ofString "row"
noncomputable abbrev kNumbers : Str := Str.ofString "numbers"
noncomputable abbrev kItem : Str := Str.ofString "item"
noncomputable abbrev kLam : Str := Str.ofString "<lambda>"
noncomputable def fstmt (i : Nat) : Stmt := nth (ifBodyOr (nth (forBody (nth (fnBody sOrdered) 1)) 0) i) 0
where ifBodyOr (s : Stmt) (i : Nat) : List Stmt := match s, i with
  | .If _ b _ _, 0 => b
  | .If _ _ b _, _ => b
  | _, _ => []
noncomputable def lamOf : Stmt → Option (Arguments × Expr × Scope)
  | .Expr (.Call _ _ [⟨_, .Lambda a b s _, _⟩] _) _ => some (a, b, s)
  | _ => none
theorem lamFn {C : Cx} {F : Ghost} {g : Addr} {fd : FuncData} {ar : Arguments} {lb : Expr} {lsc : Scope} {a b : Int} {q : Str} (j : Nat) (D : DefG F g fd []) (hfd : ∃ pm cdv ctv, fd = fdX kLam q ar (.expr lb) lsc [] .none pm cdv ctv) (hl : lamOf (fstmt j) = some (ar, lb, lsc)) (hj : j < 2) :
    Fn C 1 F (.ref g) [.tup [.int a, .int b]] [] (.int a) := by
  obtain ⟨pm, cdv, ctv, rfl⟩ := hfd
  have hj' : j = 0 ∨ j = 1 := by omega
  rcases hj' with rfl | rfl
  all_goals
    injection hl with hl
    injection hl with h1 h2
    injection h2 with h2 h3
    subst h1 h2 h3
    refine Fn.lam (d := 0) (I := fun _ => True) (ρ := [(kItem, .tup [.int a, .int b])]) (ρf := []) D trivial Mono.triv rfl rfl (HB.one (x := kItem) fun v s => BindsTo.of_eq rfl) (by simp only [List.map_cons, List.map_nil]; decide) (by simp only [List.map_cons, List.map_nil]; decide +kernel) (fun x b e => nomatch e) (fun x hx => by have hx' : x ∈ [(Str.ofString "item", NameKind.local)] := hx; rw [List.mem_singleton] at hx'; subst hx'; decide) rfl rfl rfl fun A L q E hq room => ?_
    exact Ev.itemT (k := 0) (j := 0) (by walk_at "ev") Ev.int rfl rfl (by decide) (by decide)
theorem keyI {C : Cx} {F : Ghost} {g : Addr} {fd : FuncData} {ar : Arguments} {lb : Expr} {lsc : Scope} {q : Str} {ps : List (Int × Int)} (j : Nat) (D : DefG F g fd []) (hfd : ∃ pm cdv ctv, fd = fdX kLam q ar (.expr lb) lsc [] .none pm cdv ctv) (hl : lamOf (fstmt j) = some (ar, lb, lsc)) (hj : j < 2) :
    KeyI C (.ref g) (rowA ps) (keyAt ps) F := ⟨D.kp, fun i y e => by
  rw [List.getElem?_map] at e
  unfold keyAt
  rw [List.getD_eq_getElem?_getD]
  cases h : ps[i]? with
  | none => rw [h] at e; cases e
  | some p =>
    rw [h] at e
    obtain rfl : AV.tup [.int p.1, .int p.2] = y := by simpa using e
    exact lamFn j D hfd hl hj⟩
theorem orderedFn {C : Cx} (P : PX C) {F : Ghost} {ns : List Nat} (hz : ns.length ≤ 1000) : Fn C 8 F (.ref 133) [.list (nints ns)] [] (.list (rowA (rowAt ns ns.length))) := by
  obtain ⟨fd, D⟩ := P.ordered
  obtain ⟨pm, cd, doc, rfl⟩ := D.e
  refine Fn.body (d := 7) (I := fun _ => True) (ρ := [(kNumbers, .list (nints ns))]) D.d trivial Mono.triv (HB.one (x := kNumbers) fun v s => BindsTo.of_eq rfl) (by simp only [List.map_cons, List.map_nil]; decide) (by simp only [List.map_cons, List.map_nil]; decide +kernel) rfl rfl rfl fun A L q E hq room => ⟨.ret _ [], rfl, ?_⟩
  refine Ex.new (x := kRow) (xs := rowA (rowAt ns 0)) (EvN.lst Evs.nil (Nat.zero_le _)) (.inl (by rfl)) fun l hl => ?_
  refine Ex.cons (ρ' := [(kRow, .val (.ref l))]) (σ' := [(l, .lst (rowA (rowAt ns ns.length)))]) (Es.for (vs := enumOf (nints ns)) (Src.enum (xs := nints ns) room.deeper.hd (by walk_at "ev") (by walk_at "ev")) fun it τ I hE => ?_) (Ex.frz (Ex.one (Es.ret (by walk_at "ev"))))
  refine Fo.sub (Fo.run ns.length I (by rw [enumOf_len, List.length_map]) hE (fun i => [(kRow, .val (.ref l))]) (fun i => [(l, .lst (rowA (rowAt ns i)))]) (fun i => [(kNumber, .int (ns.getD i 0 : Nat)), (kTurn, .int (i : Nat))]) (fun i x hi hx => ?_) Ex.nil) (Sub.cons (by rfl) Sub.nil)
  obtain ⟨y, hy, rfl⟩ := enumOf_get hx
  have hy' : y = .int (ns.getD i 0 : Nat) := by rw [List.getElem?_map, List.getElem?_eq_getElem hi] at hy; rw [List.getD_eq_getElem?_getD, List.getElem?_eq_getElem hi]; simpa using hy.symm
  subst hy'
  refine ⟨As.tup room.deeper.hd (Ass.cons (As.name (.inl (by rfl))) (Ass.cons (As.name (.inl (by rfl))) Ass.nil)), ?_⟩
  have m2 : BinI .Mod (i : Int) 2 ((i % 2 : Nat) : Int) := (BinI.mod (by decide)).eq (show (i : Int).fmod 2 = _ from modN (y := 2) (by decide))
  have hlen := rowAt_len ns i
  have hzl : (rowA (rowAt ns i)).length ≤ 1000000 := by rw [List.length_map, hlen]; omega
  have hlA : (rowA (rowAt ns i)).length = (rowAt ns i).length := List.length_map _
  refine Ex.fgt (ρ' := [(kNumber, .int (ns.getD i 0 : Nat)), (kTurn, .int (i : Nat)), (kRow, .val (.ref l))]) (Ex.one (Es.ite (Tr.cmp (Ev.bin (by walk_at "ev") Ev.int m2) Ev.int CmpI.eq) (fun q2 => ?_) fun q2 => ?_)) (Sub.cons (by rfl) Sub.nil)
  · have h2 : i % 2 = 0 := by have : ((i % 2 : Nat) : Int) = 0 := eq_of_beq q2; omega
    have e : rowA (rowAt ns (i + 1)) = (rowA (rowAt ns i)).take (bisL (keyAt (rowAt ns i)) (ns.getD i 0 : Nat) 0 (rowAt ns i).length) ++ .tup [.int (ns.getD i 0 : Nat), .int (-(i : Int))] :: (rowA (rowAt ns i)).drop (bisL (keyAt (rowAt ns i)) (ns.getD i 0 : Nat) 0 (rowAt ns i).length) := by
      rw [rowAt]; simp only [if_pos h2, rowA, List.map_append, List.map_cons, List.map_take, List.map_drop]
    rw [e]
    refine Ex.one (Es.expr (EvM.callK (c := 132) (P := 128) (d := 5) (o' := .lst _) (room.deeper.le (by first | assumption | decide | omega)) D.mem D.code (by rw [D.tq, hq]) (by decide +kernel) (by walk_at "ev") (Evs.cons (by walk_at "ev") (Evs.cons (Ev.tup (Evs.cons (by walk_at "ev") (Evs.cons (Ev.neg (by walk_at "ev")) Evs.nil))) Evs.nil)) (Upd.app .here) fun F' s g fd X DG hfd => ⟨Def.kp (P.insL.choose_spec.d) X.ok, ?_⟩))
    have := insL P (l := l) (kv := .ref g) (f := keyAt (rowAt ns i)) (kx := (ns.getD i 0 : Nat)) (xs := rowA (rowAt ns i)) (y := .tup [.int (ns.getD i 0 : Nat), .int (-(i : Int))]) ⟨keyI 0 DG hfd (by rfl) (by decide), lamFn 0 DG hfd (by rfl) (by decide)⟩ rfl hzl (bisL_le _ _ _ _ _ (Nat.le_refl _) (Nat.zero_le _)).2
    rw [hlA] at this
    exact this
  · have h2 : ¬ i % 2 = 0  := by have := ne_of_beq_false q2; omega
    have e : rowA (rowAt ns (i + 1)) = (rowA (rowAt ns i)).take (bisR (keyAt (rowAt ns i)) (ns.getD i 0 : Nat) 0 (rowAt ns i).length) ++ .tup [.int (ns.getD i 0 : Nat), .int (i : Int)] :: (rowA (rowAt ns i)).drop (bisR (keyAt (rowAt ns i)) (ns.getD i 0 : Nat) 0 (rowAt ns i).length) := by
      rw [rowAt]; simp only [if_neg h2, rowA, List.map_append, List.map_cons, List.map_take, List.map_drop]
    rw [e]
    refine Ex.one (Es.expr (EvM.callK (c := 132) (P := 128) (d := 5) (o' := .lst _) (room.deeper.le (by first | assumption | decide | omega)) D.mem D.code (by rw [D.tq, hq]) (by decide +kernel) (by walk_at "ev") (Evs.cons (by walk_at "ev") (Evs.cons (Ev.tup (Evs.cons (by walk_at "ev") (Evs.cons (by walk_at "ev") Evs.nil))) Evs.nil)) (Upd.app .here) fun F' s g fd X DG hfd => ⟨Def.kp (P.insR.choose_spec.d) X.ok, ?_⟩))
    have := insR P (l := l) (kv := .ref g) (f := keyAt (rowAt ns i)) (kx := (ns.getD i 0 : Nat)) (xs := rowA (rowAt ns i)) (y := .tup [.int (ns.getD i 0 : Nat), .int (i : Int)]) ⟨keyI 1 DG hfd (by rfl) (by decide), lamFn 1 DG hfd (by rfl) (by decide)⟩ rfl hzl (bisR_le _ _ _ _ _ (Nat.le_refl _) (Nat.zero_le _)).2
    rw [hlA] at this
    exact this
section
variable {C : Cx} {fm : Fm} {ρ ρ' ρf : Rho} {σ σ' ω ω' : Sig} {F F' F'' : Ghost} {s s' s'' : Shared} {out : Out}
/- an exception in flight: what it left behind -/
structure Fly (C : Cx) (F : Ghost) (s : Shared) (X fs : List Addr) (l : List Env) (F' : Ghost) (s' : Shared) (e t : Addr) (base : Heap) (cls : Value) (args : List Value) : Prop where
  fly : Heap.FlyingW base l e cls (.ref t) s'.heap
  tup : s'.heap.TupAt t args
  tn : base.get? t = none
  ok : Ok C F' { s' with heap := base }
  le : GLe F F'
  new : ∀ a o, F' a = some o → F a = some o ∨ s.heap.get? a = none ∨ a ∈ X
  cov : ∀ b o, s.heap.get? b = some o → b ∉ X → b ∉ fs → b ∉ C.T → ∃ o', base.get? b = some o' ∧ Kept o o'
  frs : ∀ L ∈ fs, Keeps1 s.heap s'.heap L ∧ base.get? L = none
  os : s'.os = s.os
  enew : s.heap.get? e = none
  tnew : s.heap.get? t = none
/- the frames of the stack, and where they stand -/
structure Stk (A : Around) (fs : List Addr) (l : List Env) : Prop where
  fr : A.frames = some l
  all : ∀ env ∈ l, env.scope.kind ≠ .module ∧ ∃ L ∈ fs, env.frame = some L
theorem Fly.gr {X fs l e t base cls args} (x : Fly C F s X fs l F' s' e t base cls args) : Gr C (fun b => b ∉ X) F s F' s' := by
  have st := x.fly.1
  refine ⟨⟨x.ok.base, fun a o e => st a o (x.ok.sub a o e), x.ok.gens, x.ok.tabF, fun P hP => let ⟨ps, e, g⟩ := x.ok.tabs P hP; ⟨ps, st _ _ e, g⟩⟩, x.le, fun a o e => (x.new a o e).imp id fun q => q.imp id fun q h => h q, fun b hb hT o e => ?_, x.os⟩
  by_cases hf : b ∈ fs
  · exact (x.frs b hf).1 o e
  · obtain ⟨o', e', k⟩ := x.cov b o e hb hf hT
    exact ⟨o', st _ _ e', k⟩
/- an exception made anew flies -/
theorem Fly.made {fs : List Addr} {env : Env} {outer : List Env} {L e : Addr} {cls : Value} {args : List Value} {A : Around} {Q : Unit → Shared → Prop} {E : Value → Shared → Prop} {h' : Heap} (ok : Ok C F s) (S : Stk A fs (env :: outer)) (hf : env.frame = some L) (hfr : ∀ M ∈ fs, FrOk C F s M)
    (hx : Heap.MadeExcOf s.heap h' e cls args)
    (hQ : ∀ h'' t base, Fly C F s [] fs outer F { s with heap := h'' } e t base cls args → Q () { s with heap := h'' }) : wpAny C.M A (leaving env (.ref e)) Q E { s with heap := h' } := by
  have hFun : ∀ (l : List Env), (∀ env ∈ l, env.scope.kind ≠ .module ∧ ∃ L ∈ fs, env.frame = some L) → s.heap.FunFrames (hideAll s.heap fs) l := by
    intro l
    induction l with
    | nil => intro _; trivial
    | cons v r ih =>
      intro hl
      obtain ⟨h1, L', hL', h2⟩ := hl v (.head _)
      obtain ⟨_, _, o, ho, es, n, hd⟩ := hfr L' hL'
      exact ⟨h1, ⟨L', o, h2, hideAll_none _ hL', ho, fun vs q => by rw [hd] at q; cases q⟩, ih fun w hw => hl w (.tail _ hw)⟩
  have stay : (hideAll s.heap fs).StaysIn s.heap := fun b o e => of_hideAll _ e
  refine wpAny_leaves_madeW (base := hideAll s.heap fs) (h := s.heap) S.fr hf stay (hFun _ S.all) hx fun h'' t f1 f2 f3 f4 => hQ h'' t (hideAll s.heap fs) ?_
  have nfs : ∀ b o, F b = some o → b ∉ fs := fun b o e q => by rw [(hfr b q).1] at e; cases e
  have up : s.heap.UpToSlots h'' := (Heap.UpToSlots.of_keeps hx.keeps).trans f4
  exact { fly := f1, tup := f2, tn := f3, ok := ⟨ok.base, fun a o e => hideAll_get _ (ok.sub a o e) (nfs a o e), ok.gens, ok.tabF, fun P hP => let ⟨ps, e, g⟩ := ok.tabs P hP; ⟨ps, hideAll_get _ e fun q => (hfr P q).2.1 hP, g⟩⟩, le := GLe.refl F, new := fun a o e => .inl e, cov := fun b o e _ h2 _ => ⟨o, hideAll_get _ e h2, Kept.refl⟩, frs := fun M hM => ⟨fun o e => by
      obtain ⟨_, _, o', ho', es, n, hd⟩ := hfr M hM
      rw [ho'] at e; cases e
      obtain ⟨sl, e2⟩ := up M _ ho' fun vs q => by rw [hd] at q; cases q
      exact ⟨_, e2, .inr ⟨⟨es, n, hd⟩, sl, rfl⟩⟩, hideAll_none _ hM⟩, os := rfl, enew := hx.new, tnew := (by
      cases q : s.heap.get? t with
      | none => rfl
      | some o =>
        by_cases hm : t ∈ fs
        · obtain ⟨_, _, o', ho', es, n, hd⟩ := hfr t hm
          obtain ⟨sl, e2⟩ := up t o' ho' fun vs q => by rw [hd] at q; cases q
          obtain ⟨o2, n2, h2, _, hd2⟩ := f2
          rw [e2] at h2; cases h2
          rw [show ({ o' with slots := sl } : Obj).data = o'.data from rfl, hd] at hd2; cases hd2
        · have := hideAll_get fs q hm; rw [f3] at this; cases this) }
/- it leaves one more frame -/
theorem Fly.leave {X fs : List Addr} {env : Env} {outer : List Env} {L e t : Addr} {base : Heap} {cls : Value} {args : List Value} {A : Around} {Q : Unit → Shared → Prop} {E : Value → Shared → Prop} (x : Fly C F s X fs (env :: outer) F' s' e t base cls args) (hA : A.frames = some (env :: outer)) (hf : env.frame = some L) (hfr : ∀ M ∈ fs, ∃ o, s.heap.get? M = some o ∧ IsDc o)
    (hQ : ∀ h'', Fly C F s X fs outer F' { s' with heap := h'' } e t base cls args → Q () { s' with heap := h'' }) : wpAny C.M A (leaving env (.ref e)) Q E s' := by
  refine wpAny_leaves_onW hA hf x.fly fun h'' f1 up => hQ h'' ?_
  exact { fly := f1, tup := x.tup.of_slots up, tn := x.tn, ok := x.ok, le := x.le, new := x.new, cov := x.cov, frs := fun M hM => ⟨fun o e => by
      obtain ⟨o₀, e₀, hdc⟩ := hfr M hM
      obtain ⟨o₁, e₁, k₁⟩ := (x.frs M hM).1 o e
      rw [e₀] at e; cases e
      have hd₁ : IsDc o₁ := by unfold IsDc; rw [k₁.data]; exact hdc
      obtain ⟨es, n, hd⟩ := id hd₁
      obtain ⟨sl, e2⟩ := up M o₁ e₁ fun vs q => by rw [hd] at q; cases q
      exact ⟨_, e2, k₁.trans (.inr ⟨hd₁, sl, rfl⟩)⟩, (x.frs M hM).2⟩, os := x.os, enew := x.enew, tnew := x.tnew }
end
section
variable {C : Cx} {fm : Fm} {ρ ρ' ρf : Rho} {σ σ' ω ω' : Sig} {F F' F'' : Ghost} {s s' s'' : Shared} {out : Out}
/- an exception has been raised in the frame itself, or has come from a call -/
noncomputable def Lands (C : Cx) (fm : Fm) (ρ : Rho) (σ : Sig) (fs : List Addr) (l : List Env) (cls : Value) (xa : List Value → Prop) : Ghost → Shared → Value → Shared → Prop := fun F' s₀ v s' =>
  St C fm ρ σ F' s₀ ∧ ∃ e args, v = .ref e ∧ xa args ∧ ((∃ h', s' = { s₀ with heap := h' } ∧ Heap.MadeExcOf s₀.heap h' e cls args) ∨ ∃ F'' t base, Fly C F' s₀ [] fs l F'' s' e t base cls args)
/- an exception has come from a call -/
noncomputable def Comes (C : Cx) (fm : Fm) (ρ : Rho) (σ : Sig) (fs : List Addr) (l : List Env) (cls : Value) (xa : List Value → Prop) : Ghost → Shared → Value → Shared → Prop := fun F' s₀ v s' =>
  St C fm ρ σ F' s₀ ∧ ∃ e args, v = .ref e ∧ xa args ∧ ∃ F'' t base, Fly C F' s₀ [] fs l F'' s' e t base cls args
/- what a call raises -/
structure FnX (C : Cx) (d : Nat) (F : Ghost) (f : Value) (args : List AV) (kw : Rho) (cls : Value) (xa : List Value → Prop) : Prop where
  of ::
  h : ∀ F₁ s A l fs vals kvs, GLe F F₁ → Ok C F₁ s → Room A d → Stk A fs l → (∀ L ∈ fs, FrOk C F₁ s L) → Reps F₁ args vals → Binds F₁ kw kvs →
    wpAny C.M A (call f vals kvs) (fun _ _ => False) (fun v s' => ∃ F' e t base xs, v = .ref e ∧ xa xs ∧ Fly C F₁ s [] fs l F' s' e t base cls xs) s
/- the frame's own frame stands, and the outer ones -/
theorem St.stack {A : Around} {l : List Env} (X : St C fm ρ σ F s) (S : Stk A fm.fs l) (hA : fm.A = A.deeper fm.env) (hf : fm.env.frame = some fm.env.locals) :
    Stk fm.A (fm.env.locals :: fm.fs) (fm.env :: l) ∧ ∀ M ∈ fm.env.locals :: fm.fs, FrOk C F s M := by
  refine ⟨⟨by rw [hA]; exact Around.frames_deeper S.fr, fun env he => ?_⟩, fun M hM => ?_⟩
  · rcases List.mem_cons.mp he with rfl | he
    · exact ⟨by rw [X.kind]; decide, _, .head _, hf⟩
    · obtain ⟨h1, L, hL, h2⟩ := S.all env he
      exact ⟨h1, L, .tail _ hL, h2⟩
  · rcases List.mem_cons.mp hM with rfl | hM
    · obtain ⟨m, ⟨o, es, ep, ho, hd, _⟩, _⟩ := X.loc
      exact ⟨X.locF, X.locT, o, ho, es, ep, hd⟩
    · exact (X.fr M hM).2.2
/- the steps from a call's start to the raise -/
theorem Fly.pre' {fs l e t base cls args} {E : Addr → Prop} {L : Addr} (hE : ∀ b, E b ↔ ∃ o, s.heap.get? b = some o) (g0 : Grow C F s F s') {s₂ s₃ : Shared} {F₂ F₃ : Ghost} (g : Gr C E F s' F₂ s₂) (hfs : ∀ M ∈ fs, M ∉ C.T ∧ ∃ o, s.heap.get? M = some o) (hd : s.heap.get? L = none) (x : Fly C F₂ s₂ [] (L :: fs) l F₃ s₃ e t base cls args) :
    Fly C F s [] fs l F₃ s₃ e t base cls args := by
  have gg : Gr C All F s F₂ s₂ := Gr.comp (E := E) (fun b hb => (hE b).mpr hb) g0 g
  have gg' : Gr C (fun b => b ∉ ([] : List Addr)) F s F₂ s₂ := gg.any
  refine { fly := x.fly, tup := x.tup, tn := x.tn, ok := x.ok, le := gg.le.trans x.le, new := fun a o e' => ?_, cov := fun b o e' h1 h2 h3 => ?_, frs := fun M hM => ⟨(gg.keep M trivial (hfs M hM).1).trans (x.frs M (.tail _ hM)).1, (x.frs M (.tail _ hM)).2⟩, os := x.os.trans gg.os, enew := gg.dead x.enew, tnew := gg.dead x.tnew }
  · rcases x.new a o e' with q | q | q
    · rcases gg.new a o q with q | q | q
      · exact .inl q
      · exact .inr (.inl q)
      · exact absurd trivial q
    · refine .inr (.inl ?_)
      cases e2 : s.heap.get? a with
      | none => rfl
      | some o2 => obtain ⟨o3, e3⟩ := gg.live (a := a) trivial ⟨o2, e2⟩; rw [q] at e3; cases e3
    · cases q
  · obtain ⟨o1, e1, k1⟩ := gg.keep b trivial h3 o e'
    have hbL : b ≠ L := fun q => by subst q; rw [hd] at e'; cases e'
    obtain ⟨o2, e2, k2⟩ := x.cov b o1 e1 h1 (fun q => (List.mem_cons.mp q).elim hbL h2) h3
    exact ⟨o2, e2, k1.trans k2⟩
theorem FnX.body {d : Nat} {a : Addr} {fd : FuncData} {body : List Stmt} {sc : Scope} {args : List AV} {kw : Rho} {cls : Value} {xa : List Value → Prop} {I : Ghost → Prop}
    (D : Def C a fd body sc) (hI : I F) (hM : Mono I) (hb : HB C fd args kw ρ)
    (hn : (ρ.map (·.1)).Nodup) (hk : ∀ x ∈ ρ.map (·.1), sc.names.lookup x = some .local ∨ sc.names.lookup x = some .cell)
    (hkf : sc.kind = .function) (hco : sc.isCoroutine = false) (hgen : sc.isGenerator = false)
    (hh : ∀ A L q E fs l, q = fd.qualname ++ ".<locals>." → Room A (d + 1) → Stk A fs l → ∃ ρ' σ', Ex C (ffm A sc L a q fd.code E I fs) ρ [] body (.rse (Lands C (ffm A sc L a q fd.code E I fs) ρ' σ' (L :: fs) (fenv sc L a q fd.code :: l) cls xa)) ∨ Ex C (ffm A sc L a q fd.code E I fs) ρ [] body (.rse (Comes C (ffm A sc L a q fd.code E I fs) ρ' σ' (L :: fs) (fenv sc L a q fd.code :: l) cls xa))) : FnX C (d + 1) F (.ref a) args kw cls xa := by
  refine ⟨fun F₁ s A l fs vals kvs hF ok room S hfs hv hkv => ?_⟩
  obtain ⟨bs, hbs, hr⟩ := hb F₁ s vals kvs ok hv hkv
  refine wpAny_call (call_in (I := I) (fs := fs) hfs D (hM _ _ hF hI) hM ok (by have := room.dep; omega) hbs hr hn hk hkf hco hgen fun L q E s₁ hq hE X g => ?_)
  have hLd : s.heap.get? L = none := by
    cases e : s.heap.get? L with
    | none => rfl
    | some o => exact absurd ((hE L).mpr ⟨o, e⟩) X.locB
  have hfs' : ∀ M ∈ fs, M ∉ C.T ∧ ∃ o, s.heap.get? M = some o := fun M hM => let ⟨_, h2, o, ho, _⟩ := hfs M hM; ⟨h2, o, ho⟩
  obtain ⟨ρ₂, σ₂, hx⟩ := hh A L q E fs l hq room S
  have hx' : wpAny C.M (A.deeper (fenv sc L a q fd.code)) (execs body (fenv sc L a q fd.code)) (fun _ _ => False) (fun v s' => ∃ F₂ s₂, Gr C (Kf (ffm A sc L a q fd.code E I fs)) F₁ s₁ F₂ s₂ ∧ Lands C (ffm A sc L a q fd.code E I fs) ρ₂ σ₂ (L :: fs) (fenv sc L a q fd.code :: l) cls xa F₂ s₂ v s') s₁ := by
    rcases hx with hx | hx
    · refine wpAny_mono (hx.h F₁ s₁ X) (fun f s' ⟨F', g', r⟩ => r.elim) fun v s' ⟨P, hP, F₂, s₂, g₂, hp⟩ => ?_
      injection hP with hP
      subst hP
      exact ⟨F₂, s₂, g₂, hp⟩
    · refine wpAny_mono (hx.h F₁ s₁ X) (fun f s' ⟨F', g', r⟩ => r.elim) fun v s' ⟨P, hP, F₂, s₂, g₂, hp⟩ => ?_
      injection hP with hP
      subst hP
      obtain ⟨h1, e, xs, h2, h3, h4⟩ := hp
      exact ⟨F₂, s₂, g₂, h1, e, xs, h2, h3, .inr h4⟩
  refine wpAny_mono hx' (fun f s' q => q.elim) fun v s' ⟨F₂, s₂, g₂, hp⟩ => ?_
  obtain ⟨X₂, e, xs, hv, hxa, hr⟩ := hp
  have g₂' : Gr C E F₁ s₁ F₂ s₂ := Gr.weak (fun b hb => ⟨hb, fun q => nomatch q⟩) g₂
  obtain ⟨S₂, fr₂⟩ := X₂.stack (A := A) S rfl rfl
  subst hv
  rcases hr with ⟨h', hs', hx⟩ | ⟨F₃, t, base, x⟩
  · subst hs'
    refine Fly.made (env := fenv sc L a q fd.code) X₂.ok S₂ rfl fr₂ hx fun h'' t base x => ?_
    exact ⟨_, e, t, base, xs, rfl, hxa, Fly.pre' hE g g₂' hfs' hLd x⟩
  · refine Fly.leave (env := fenv sc L a q fd.code) x S₂.fr rfl (fun M hM => let ⟨_, _, o, ho, hd⟩ := fr₂ M hM; ⟨o, ho, hd⟩) fun h'' x => ?_
    exact ⟨_, e, t, base, xs, rfl, hxa, Fly.pre' hE g g₂' hfs' hLd x⟩
end
section
variable {C : Cx} {fm : Fm} {ρ ρ' ρf : Rho} {σ σ' ω ω' : Sig} {F F' F'' : Ghost} {s s' s'' : Shared} {out : Out} {fs : List Addr} {l : List Env}
/- an exception is raised, made by a call of its class -/
theorem Es.raiseA {cls newId initId : String} (FC : ExcCallFacts cls newId initId) (FR : ExcRaiseFacts cls) {x : Str} {np cpos pos : Pos} {es : List Expr} {as : List AV} {xa : List Value → Prop} (hh : fm.A.handled = none)
    (hf : Ev C fm ρ σ (.Name x np) (.val (.type cls))) (has : Evs C fm ρ σ es as) (hxa : ∀ F vs, Reps F as vs → xa vs) (hz : as.length ≤ 1000) (hpl : Plain es fm.env := by rfl) :
    Es C fm ρ σ (.Raise (some (.Call (.Name x np) es [] cpos)) none pos) (.rse (Lands C fm ρ σ fs l (.type cls) xa)) := ⟨fun F s X => by
  refine wpAny_Raise_call FC FR hh (backTo_any hpl) (wpAny_mono (hf.h F s X) (fun v s₁ ⟨F₁, g₁, r₁⟩ => ⟨r₁.oval, ?_⟩) fun _ _ q => q.elim)
  have X₁ := X.grow g₁
  refine evalArgs_any (kws := []) hpl (kwAll (kws := []) rfl).1 (wpAny_mono (has.h F₁ s₁ cpos X₁) (fun vs s₂ ⟨F₂, g₂, r₂⟩ => evalAll_nil ⟨rfl, ?_, fun h' e hx => ?_⟩) fun _ _ q => q.elim)
  · show vs.length ≤ sizeLine
    rw [← r₂.length]; exact sizeLine_ge (by first | assumption | decide | omega)
  · exact ⟨_, rfl, F₂, s₂, (g₁.trans g₂).any, X₁.grow g₂, e, vs, rfl, hxa F₂ vs r₂, .inl ⟨h', rfl, hx.of⟩⟩⟩
/- a call that raises -/
structure EvX (C : Cx) (fm : Fm) (ρ : Rho) (σ : Sig) (e : Expr) (fs : List Addr) (l : List Env) (cls : Value) (xa : List Value → Prop) : Prop where
  of ::
  h : ∀ F s, St C fm ρ σ F s → wpAny C.M fm.A (eval e fm.env) (fun _ _ => False) (fun v s' => ∃ F' s₀, Grow C F s F' s₀ ∧ Comes C fm ρ σ fs l cls xa F' s₀ v s') s
theorem EvX.call {A : Around} {x : Str} {px pos : Pos} {es : List Expr} {kws : List Keyword} {f : Value} {as : List AV} {kρ : Rho} {cls : Value} {xa : List Value → Prop} {d : Nat} (room : Room fm.A d) (S : Stk A fm.fs l) (hA : fm.A = A.deeper fm.env) (hfr : fm.env.frame = some fm.env.locals)
    (hf : Ev C fm ρ σ (.Name x px) (.val f)) (has : Evs C fm ρ σ es as) (hks : Evk C fm ρ σ kws kρ)
    (hfn : ∀ F s, St C fm ρ σ F s → KpOk F f ∧ FnX C d F f as kρ cls xa) (hpl : Plain es fm.env := by rfl) (hkw : kws.all (fun k => k.arg.isSome) = true := by rfl) :
    EvX C fm ρ σ (.Call (.Name x px) es kws pos) (fm.env.locals :: fm.fs) (fm.env :: l) cls xa := ⟨fun F s X => by
  refine wpAny_Call_Name_kw (wpAny_mono (hf.h F s X) (fun v s₁ ⟨F₁, g₁, r₁⟩ => ?_) fun _ _ q => q.elim)
  obtain rfl := r₁.oval
  have X₁ := X.grow g₁
  have hk := kwAll (pos := pos) (env := fm.env) hkw
  refine callWith_any (backTo_any hpl) hk.2 (evalArgs_any hpl hk.1 (wpAny_mono (has.h F₁ s₁ pos X₁) (fun vs s₂ ⟨F₂, g₂, r₂⟩ => ?_) fun _ _ q => q.elim))
  have X₂ := X₁.grow g₂
  refine wpAny_mono (hks.h F₂ s₂ pos X₂) (fun ks s₃ ⟨F₃, g₃, r₃⟩ => ?_) fun _ _ q => q.elim
  have X₃ := X₂.grow g₃
  obtain ⟨hkp, hfn⟩ := hfn F₃ s₃ X₃
  obtain ⟨S₃, fr₃⟩ := X₃.stack S hA hfr
  refine ⟨⟨F₃, X₃.ok, hkp⟩, wpAny_mono (hfn.h F₃ s₃ fm.A _ _ vs _ (GLe.refl _) X₃.ok room S₃ fr₃ (Reps.mono g₃.le _ _ r₂) r₃) (fun r s₄ q => q.elim) fun v s₄ ⟨F₄, e, t, base, xs, hv, hxa, x⟩ => ?_⟩
  exact ⟨F₃, s₃, (g₁.trans g₂).trans g₃, X₃, e, xs, hv, hxa, F₄, t, base, x⟩⟩
theorem Es.asgX {x : Str} {px : Pos} {e : Expr} {pos : Pos} {cls : Value} {xa : List Value → Prop} (he : EvX C fm ρ σ e fs l cls xa) (hs : swapsWith e (some (.Name x px)) pos.line fm.env = pure false := by rfl) :
    Es C fm ρ σ (.Assign [.Name x px] e pos) (.rse (Comes C fm ρ σ fs l cls xa)) := ⟨fun F s X =>
  wpAny_Assign_Name (wpAny_mono (he.h F s X) (fun v s₁ q => q.elim) fun v s₁ ⟨F₁, s₀, g, q⟩ => ⟨_, rfl, F₁, s₀, g.any, q⟩) hs⟩
theorem Es.asgTX {t : Expr} {e : Expr} {pos : Pos} {cls : Value} {xa : List Value → Prop} (he : EvX C fm ρ σ e fs l cls xa)
    (hs : exec (.Assign [t] e pos) fm.env = (do standAt pos; let v ← eval e fm.env; assign t fm.env v; pure .next) := by rfl) : Es C fm ρ σ (.Assign [t] e pos) (.rse (Comes C fm ρ σ fs l cls xa)) := ⟨fun F s X => by
  rw [hs]
  exact wpAny_bind (wpAny_standAt (wpAny_bind (wpAny_mono (he.h F s X) (fun v s₁ q => q.elim) fun v s₁ ⟨F₁, s₀, g, q⟩ => ⟨_, rfl, F₁, s₀, g.any, q⟩)))⟩
theorem Es.exprX {e : Expr} {pos : Pos} {cls : Value} {xa : List Value → Prop} (he : EvX C fm ρ σ e fs l cls xa) (hi : interactive fm.env = false := by rfl) (hs : swapsWith e none pos.line fm.env = pure false := by rfl) :
    Es C fm ρ σ (.Expr e pos) (.rse (Comes C fm ρ σ fs l cls xa)) := ⟨fun F s X =>
  wpAny_Expr (wpAny_mono (he.h F s X) (fun v s₁ q => q.elim) fun v s₁ ⟨F₁, s₀, g, q⟩ => ⟨_, rfl, F₁, s₀, g.any, q⟩) hi hs⟩
end
/- the words with which a first place below nought is refused -/
noncomputable def loBad (vs : List Value) : Prop := ∃ t, vs = [.str (Str.ofString "lo must be non-negative") t]
theorem loBad.of {F : Ghost} {vs : List Value} (h : Reps F [.str (Str.ofString "lo must be non-negative")] vs) : loBad vs := by
  obtain ⟨v, r, rfl, rv, rn⟩ := h.ocons
  obtain rfl := rn.onil
  obtain ⟨t, rfl⟩ := rv.ostr
  exact ⟨t, rfl⟩
theorem bisLx {C : Cx} (P : PX C) {F : Ghost} {a x ha : AV} {lo : Int} (hlo : lo < 0) : FnX C 3 F (.ref 50) [a, x, .int lo, ha] [] (.type "ValueError") loBad := by
  obtain ⟨fd, D⟩ := P.bisL
  obtain ⟨pm, cd, doc, d, k, rfl, h1, h2⟩ := D.e
  refine FnX.body (d := 2) (I := fun _ => True) D.d trivial Mono.triv (hbL4 h1 h2) (bnd _ _ _ _ _) (by simp only [List.map_cons, List.map_nil]; decide +kernel) rfl rfl rfl fun A L q E fs l hq room S => ⟨bRho a x (.int lo) ha .none, [], ?_⟩
  exact .inl (Ex.head (Es.ite (b := true) (Tr.eq (Tr.cmp (by walk_at "ev") (by walk_at "ev") CmpI.lt) (by simpa using hlo)) (fun _ => Ex.head (Es.raiseA PySem.F.excCall_ValueError PySem.F.excRaise_ValueError room.deeper.hd (by walk_at "ev") (Evs.cons (by walk_at "ev") Evs.nil) (fun F vs h => loBad.of h) (by decide))) fun q => nomatch q))
theorem hbLI3 {C : Cx} {pm cd doc : Value} {d k : Addr} {a x lo : AV} (h1 : ∃ o t n, C.H.get? d = some o ∧ o.data = .seq #[.int 0 t, .none] n) (h2 : ∃ m, C.H.Ns k m ∧ m (Str.ofString "key") = some .none) :
    HB C (fdD sInsL pm cd doc d k) [a, x, lo] [] (bRho a x lo .none .none) :=
  hbG3 (b := fdP sInsL pm cd doc) h1 h2
theorem insLx {C : Cx} (P : PX C) {F : Ghost} {a x : AV} {lo : Int} (hlo : lo < 0) : FnX C 5 F (.ref 41) [a, x, .int lo] [] (.type "ValueError") loBad := by
  obtain ⟨fd, D⟩ := P.insL
  obtain ⟨pm, cd, doc, d, k, rfl, h1, h2⟩ := D.e
  refine FnX.body (d := 4) (I := fun _ => True) D.d trivial Mono.triv (hbLI3 h1 h2) (bnd _ _ _ _ _) (by simp only [List.map_cons, List.map_nil]; decide +kernel) rfl rfl rfl fun A L q E fs l hq room S => ⟨bRho a x (.int lo) .none .none, [], ?_⟩
  exact .inr (Ex.head (Es.ite (b := true) (Tr.isN (a := .none) (by walk_at "ev")) (fun _ => Ex.head (Es.asgX (EvX.call (A := A) (d := 3) (room.deeper.le (by decide)) S rfl rfl (by walk_at "ev") (Evs.cons (by walk_at "ev") (Evs.cons (by walk_at "ev") (Evs.cons (by walk_at "ev") (Evs.cons (by walk_at "ev") Evs.nil)))) Evk.nil fun F s X => ⟨Def.kp (P.bisL.choose_spec.d) X.ok, bisLx P hlo⟩))) fun q => nomatch q))
theorem bisRx {C : Cx} (P : PX C) {F : Ghost} {a x ha : AV} {lo : Int} (hlo : lo < 0) : FnX C 3 F (.ref 32) [a, x, .int lo, ha] [] (.type "ValueError") loBad := by
  obtain ⟨fd, D⟩ := P.bisR
  obtain ⟨pm, cd, doc, d, k, rfl, h1, h2⟩ := D.e
  refine FnX.body (d := 2) (I := fun _ => True) D.d trivial Mono.triv (hbR4 h1 h2) (bnd _ _ _ _ _) (by simp only [List.map_cons, List.map_nil]; decide +kernel) rfl rfl rfl fun A L q E fs l hq room S => ⟨bRho a x (.int lo) ha .none, [], ?_⟩
  exact .inl (Ex.head (Es.ite (b := true) (Tr.eq (Tr.cmp (by walk_at "ev") (by walk_at "ev") CmpI.lt) (by simpa using hlo)) (fun _ => Ex.head (Es.raiseA PySem.F.excCall_ValueError PySem.F.excRaise_ValueError room.deeper.hd (by walk_at "ev") (Evs.cons (by walk_at "ev") Evs.nil) (fun F vs h => loBad.of h) (by decide))) fun q => nomatch q))
theorem hbRI3 {C : Cx} {pm cd doc : Value} {d k : Addr} {a x lo : AV} (h1 : ∃ o t n, C.H.get? d = some o ∧ o.data = .seq #[.int 0 t, .none] n) (h2 : ∃ m, C.H.Ns k m ∧ m (Str.ofString "key") = some .none) :
    HB C (fdD sInsR pm cd doc d k) [a, x, lo] [] (bRho a x lo .none .none) :=
  hbG3 (b := fdP sInsR pm cd doc) h1 h2
theorem insRx {C : Cx} (P : PX C) {F : Ghost} {a x : AV} {lo : Int} (hlo : lo < 0) : FnX C 5 F (.ref 23) [a, x, .int lo] [] (.type "ValueError") loBad := by
  obtain ⟨fd, D⟩ := P.insR
  obtain ⟨pm, cd, doc, d, k, rfl, h1, h2⟩ := D.e
  refine FnX.body (d := 4) (I := fun _ => True) D.d trivial Mono.triv (hbRI3 h1 h2) (bnd _ _ _ _ _) (by simp only [List.map_cons, List.map_nil]; decide +kernel) rfl rfl rfl fun A L q E fs l hq room S => ⟨bRho a x (.int lo) .none .none, [], ?_⟩
  exact .inr (Ex.head (Es.ite (b := true) (Tr.isN (a := .none) (by walk_at "ev")) (fun _ => Ex.head (Es.asgX (EvX.call (A := A) (d := 3) (room.deeper.le (by decide)) S rfl rfl (by walk_at "ev") (Evs.cons (by walk_at "ev") (Evs.cons (by walk_at "ev") (Evs.cons (by walk_at "ev") (Evs.cons (by walk_at "ev") Evs.nil)))) Evk.nil fun F s X => ⟨Def.kp (P.bisR.choose_spec.d) X.ok, bisRx P hlo⟩))) fun q => nomatch q))
section
variable {C : Cx} {fm : Fm} {ρ ρ' ρf : Rho} {σ σ' ω ω' : Sig} {F F' F'' : Ghost} {s s' s'' : Shared} {out : Out} {fs X : List Addr} {l : List Env} {e t : Addr} {base : Heap} {cls : Value} {args : List Value}
/- the heap moves up to slots, the base stays -/
theorem Fly.up {h'' : Heap} {l' : List Env} (x : Fly C F s X fs l F' s' e t base cls args) (hfr : ∀ M ∈ fs, ∃ o, s.heap.get? M = some o ∧ IsDc o) (f1 : Heap.FlyingW base l' e cls (.ref t) h'') (up : s'.heap.UpToSlots h'') : Fly C F s X fs l' F' { s' with heap := h'' } e t base cls args := by
  refine { fly := f1, tup := x.tup.of_slots up, tn := x.tn, ok := x.ok, le := x.le, new := x.new, cov := x.cov, frs := fun M hM => ⟨fun o e => ?_, (x.frs M hM).2⟩, os := x.os, enew := x.enew, tnew := x.tnew }
  obtain ⟨o₀, e₀, hdc⟩ := hfr M hM
  obtain ⟨o₁, e₁, k₁⟩ := (x.frs M hM).1 o e
  rw [e₀] at e; cases e
  have hd₁ : IsDc o₁ := by unfold IsDc; rw [k₁.data]; exact hdc
  obtain ⟨es, n, hd⟩ := id hd₁
  obtain ⟨sl, e2⟩ := up M o₁ e₁ fun vs q => by rw [hd] at q; cases q
  exact ⟨_, e2, k₁.trans (.inr ⟨hd₁, sl, rfl⟩)⟩
/- it lands in a frame that looks at it -/
theorem Fly.land {env : Env} {outer : List Env} {L : Addr} {A : Around} {Q : Unit → Shared → Prop} {E : Value → Shared → Prop} (x : Fly C F s X fs (env :: outer) F' s' e t base cls args) (hA : A.frames = some (env :: outer)) (hf : env.frame = some L) (hfr : ∀ M ∈ fs, ∃ o, s.heap.get? M = some o ∧ IsDc o)
    (hQ : ∀ h'', Fly C F s X fs (env :: outer) F' { s' with heap := h'' } e t base cls args → Q () { s' with heap := h'' }) :
    wpAny C.M A (noteFrame (.ref e) env) (fun _ s₂ => wpAny C.M A (setFlight (.ref e) none) Q E s₂) E s' := by
  refine wpAny_looks_onW hA hf x.fly fun h₁ hh up₁ => wpAny_landsW hh fun h₂ f₂ up₂ => hQ h₂ ?_
  exact x.up hfr f₂ (up₁.trans up₂)
end
section
variable {C : Cx} {fm : Fm} {ρ ρ' ρ₁ : Rho} {σ σ' σ₁ : Sig} {F F' F'' : Ghost} {s s' s'' : Shared} {out : Out} {fs X : List Addr} {l : List Env} {e t : Addr} {base : Heap} {cls : Value} {args : List Value}
/- the frame while it handles an exception -/
noncomputable abbrev Fm.mark (fm : Fm) (v : Value) : Fm := { fm with A := fm.A.mark (some v) }
theorem St.mark {v : Value} (X : St C fm ρ σ F s) : St C (fm.mark v) ρ σ F s := { X with }
theorem St.unmark {v : Value} (X : St C (fm.mark v) ρ σ F s) : St C fm ρ σ F s := { X with }
theorem OutQ.unmark {v : Value} {f : Flow} (h : OutQ C (fm.mark v) F s out f s') : OutQ C fm F s out f s' := by
  obtain ⟨F', g, r⟩ := h
  cases out with
  | nxt => exact ⟨F', g, r.1, r.2.unmark⟩
  | brk => exact ⟨F', g, r.1, r.2.unmark⟩
  | cnt => exact ⟨F', g, r.1, r.2.unmark⟩
  | ret => exact ⟨F', g, let ⟨v, e, h, q⟩ := r; ⟨v, e, h, q.1, q.2, q.3, q.4, q.5⟩⟩
  | rse => exact r.elim
/- a global name is read, nothing else -/
theorem St.glo {A : Around} {x : Str} {pos : Pos} {v : Value} {Q : Value → Shared → Prop} {E : Value → Shared → Prop} (X : St C fm ρ σ F s) (hk : fm.env.kindOf x = some .globalImplicit) (hg : C.gl x v) (hd : (x == ("__debug__" : Str)) = false) (h : Q v s) : wpAny C.M A (eval (.Name x pos) fm.env) Q E s := by
  have hgn : s.heap.Ns mainGlobals C.mg := C.hg.keeps (hsub X.ok)
  have hbn : s.heap.Ns builtinsNs C.mb := C.hb.keeps (hsub X.ok)
  refine wpAny_Name ?_ hd
  have e : loadName fm.env x = loadGlobal fm.env x := by
    unfold loadName
    simp only [Env.blockKind, X.kind, hk, ScopeKind.isAnnotationScope, Bool.false_and, Bool.false_eq_true, if_false]
  rw [e]
  unfold loadGlobal
  rw [X.glb, X.blt]
  refine wpAny_bind (wpAny_nsGet hgn ?_)
  rcases hg with q | ⟨h1, h2⟩
  · rw [q]; exact wpAny_pure h
  · rw [h1]
    refine wpAny_bind (wpAny_nsGet hbn ?_)
    rw [h2]; exact wpAny_pure h
end
section
variable {C : Cx} {fm : Fm} {ρ ρ' ρ₁ ρ₂ : Rho} {σ σ' σ₁ : Sig} {F F' F'' : Ghost} {s s' s'' : Shared} {out : Out} {fs X : List Addr} {l : List Env} {e t : Addr} {base : Heap} {cls : Value} {args : List Value}
/- a name behind its suite is unbound -/
theorem goneHeap {A : Around} {n : Str} {pos : Pos} {m : Str → Option Value} {Q : Unit → Shared → Prop} {E : Value → Shared → Prop} (hk : fm.env.scope.kind = .function) (hl : fm.env.kindOf n = some .local) (ok : Ok C F s) (hns : s.heap.Ns fm.env.locals m) (hF : F fm.env.locals = none) (hT : fm.env.locals ∉ C.T)
    (h : ∀ h' v, Gr C (fun b => b ≠ fm.env.locals) F s F { s with heap := h', toks := s.toks + 1 } → h'.Ns fm.env.locals (fun x => if x = n then v else m x) → Q () { s with heap := h', toks := s.toks + 1 }) :
    wpAny C.M A (do bindName fm.env n .none; unbindBehindTheSuite fm.env n pos) Q E s := by
  refine wpAny_nameGoes_keeps hl hns (by rw [hk]; rfl) fun h' v hn hs => h h' v ?_ hn
  exact Gr.heap ok (fun b o e q => by rw [q, hF] at e; cases e) (fun b hb (q : b = fm.env.locals) => hT (q ▸ hb)) (fun b o hb e => (hs.2 b hb).trans e)
theorem St.gone {A : Around} {n : Str} {pos : Pos} {Q : Unit → Shared → Prop} {E : Value → Shared → Prop} (X : St C fm ρ σ F s) (hl : fm.env.kindOf n = some .local) (hs : Sub ρ' ρ) (hn : ρ'.lookup n = none)
    (h : ∀ s', Gr C (Kf fm) F s F s' → St C fm ρ' σ F s' → Q () s') : wpAny C.M A (do bindName fm.env n .none; unbindBehindTheSuite fm.env n pos) Q E s := by
  obtain ⟨m, hns, hm⟩ := X.loc
  refine goneHeap X.kind hl X.ok hns X.locF X.locT fun h' v g hns' => ?_
  refine h _ (Gr.weak (fun b hb (q : b = fm.env.locals) => Kf.notloc X (q ▸ hb)) g) { X with
    ok := g.ok
    loc := ⟨_, hns', fun y a e hk => ?_⟩
    base := fun a ha => g.live (fun (q : a = fm.env.locals) => X.locB (q ▸ ha)) (X.base a ha)
    cel := fun y b e hk => let ⟨c, w, e1, ho, r1⟩ := X.cel y b (hs y b e) hk; ⟨c, w, e1, (g.keep _ (X.cne y c e1).1 (X.cne y c e1).2.1).cell ho, r1⟩
    cne := fun y c e => ⟨(X.cne y c e).1, (X.cne y c e).2.1, g.live (X.cne y c e).1 (X.cne y c e).2.2⟩
    own := fun hcl y hk => let ⟨c, w, e1, ho, r1⟩ := X.own hcl y hk; ⟨c, w, e1, (g.keep _ (X.cne y c e1).1 (X.cne y c e1).2.1).cell ho, r1⟩
    mu := fun p hp => let ⟨h1, h2, h3, h4, h5⟩ := X.mu p hp; ⟨h1.gr g h4 h3, h2, h3, h4, h5⟩
    fr := fun L hL => let ⟨h1, h2, h3⟩ := X.fr L hL; ⟨h1, h2, h3.gr g fun (q : L = fm.env.locals) => X.locB (q ▸ h1)⟩ }
  obtain ⟨w, e1, r⟩ := hm y a (hs y a e) hk
  have hy : y ≠ n := fun q => by subst q; rw [hn] at e; cases e
  exact ⟨w, by simp only [if_neg hy]; exact e1, r⟩
theorem RetOk.gone {A : Around} {n : Str} {pos : Pos} {Q : Unit → Shared → Prop} {E : Value → Shared → Prop} (R : RetOk C fm F s σ) (ok : Ok C F s) (hk : fm.env.scope.kind = .function) (hB : ¬ fm.E fm.env.locals) (hl : fm.env.kindOf n = some .local)
    (h : ∀ s', Gr C (Kf fm) F s F s' → RetOk C fm F s' σ → Q () s') : wpAny C.M A (do bindName fm.env n .none; unbindBehindTheSuite fm.env n pos) Q E s := by
  obtain ⟨m, hns⟩ := R.ns
  refine goneHeap hk hl ok hns R.locF R.locT fun h' v g hns' => h _ (Gr.weak (fun b hb (q : b = fm.env.locals) => hB (q ▸ hb.1)) g) ⟨fun p hp => ⟨(R.sig p hp).1.gr g (R.apart p hp).1 (R.apart p hp).2, (R.sig p hp).2⟩, ⟨_, hns'⟩, R.locF, R.locT, R.apart⟩
/- an exception that has been caught, as the ghost holds it -/
noncomputable def ExcJ (e : Addr) (X : String) (args : List Value) (F : Ghost) : Prop := ∃ t oe ot vs n, F e = some oe ∧ oe.cls = .type X ∧ oe.data = .fields vs ∧ vs[0]? = some (.ref t) ∧ F t = some ot ∧ ot.cls = .type "tuple" ∧ ot.data = .seq args.toArray n
theorem ExcJ.mono {X : String} : Mono (ExcJ e X args) := fun F F' h ⟨t, oe, ot, vs, n, a, b, c, d, f, g⟩ => ⟨t, oe, ot, vs, n, h _ _ a, b, c, d, h _ _ f, g⟩
theorem ExcJ.at' {X : String} (x : ExcJ e X args F) (ok : Ok C F s) : ∃ t, s.heap.ExcAt e X (.ref t) ∧ s.heap.TupAt t args :=
  let ⟨t, oe, ot, vs, n, a, b, c, d, f, g, h⟩ := x; ⟨t, ⟨oe, vs, ok.sub _ _ a, b, c, d⟩, ⟨ot, n, ok.sub _ _ f, g, h⟩⟩
theorem OutQ.unmarkJ {v : Value} {J : Ghost → Prop} {f : Flow} (hI : Mono fm.I) (h : OutQ C ((fm.mark v).and J) F s out f s') : OutQ C fm F s out f s' := OutQ.unmark (OutQ.un (fm := fm.mark v) hI h)
/- a try whose body raises in a call, caught with a name -/
theorem Es.tryN {A : Around} {x n : Str} {np hp pos : Pos} {body : List Stmt} {b₀ : Stmt} {suite : List Stmt} {X T : String} {xa : List Value → Prop} {o₁ : Out} (S : Stk A fm.fs l) (hA : fm.A = A.deeper fm.env) (hfr : fm.env.frame = some fm.env.locals)
    (hb : Ex C fm ρ σ body (.rse (Comes C fm ρ₁ σ₁ (fm.env.locals :: fm.fs) (fm.env :: l) (.type X) xa)))
    (hx : fm.env.kindOf x = some .globalImplicit) (hg : C.gl x (.type T)) (hd : (x == ("__debug__" : Str)) = false)
    (hexc : isSubtype (.type T) (.type "BaseException") = pure true) (hnt : isSubtype (.type ((Manifest.find? T).elim "type" fun y => y.metatype)) (.type "tuple") = pure false) (hsub : isSubtype (.type X) (.type T) = pure true)
    (hl : fm.env.kindOf n = some .local)
    (hs : ∀ e args, xa args → Ex C ((fm.mark (.ref e)).and (ExcJ e X args)) ((n, .val (.ref e)) :: ρ₁) σ₁ (b₀ :: suite) o₁)
    (ho : (∃ ρ₂ ρ₃ σ₂, o₁ = .nxt ρ₂ σ₂ ∧ out = .nxt ρ₃ σ₂ ∧ Sub ρ₃ ρ₂ ∧ ρ₃.lookup n = none) ∨ (∃ a σ₂, o₁ = .ret a σ₂ ∧ out = .ret a σ₂)) :
    Es C fm ρ σ (.Try body [.ExceptHandler (some (.Name x np)) (some n) (b₀ :: suite) hp] [] [] pos) out := ⟨fun F s X₀ => by
  have hI : Mono fm.I := X₀.imo
  have calm : out.calm = true ∧ o₁.calm = true := by
    rcases ho with ⟨_, _, _, rfl, rfl, _⟩ | ⟨_, _, rfl, rfl⟩ <;> exact ⟨rfl, rfl⟩
  refine wpAny_Try_except (wpAny_mono (hb.h F s X₀) (fun f s' ⟨F', g', r⟩ => r.elim) fun v s' ⟨P, hP, F₂, s₂, g₂, hp⟩ => ?_)
  injection hP with hP
  subst hP
  obtain ⟨X₂, e, xs, hv, hxa, F₃, t, base, fl⟩ := hp
  subst hv
  obtain ⟨S₂, fr₂⟩ := X₂.stack S hA hfr
  have fr₂' : ∀ M ∈ fm.env.locals :: fm.fs, ∃ o, s₂.heap.get? M = some o ∧ IsDc o := fun M hM => let ⟨_, _, o, ho, hd⟩ := fr₂ M hM; ⟨o, ho, hd⟩
  refine fl.land S₂.fr hfr fr₂' fun h₃ fl₃ => ?_
  have X₃ := X₂.grow (Gr.weak (K := fun b => b ∉ ([] : List Addr)) (fun a _ q => nomatch q) fl₃.gr)
  refine wpAny_handleBy_builtin_as (T := T) (X := X) (b := true) hexc hnt hsub ?_
  refine X₃.glo hx hg hd ⟨rfl, fl₃.fly.there, ?_⟩
  show wpAny C.M (fm.A.mark (some (.ref e))) (setFlight (.ref e) none) _ _ _
  refine lands_againW fl₃.fly fun h₅ f₅ up₅ => ?_
  have fl₅ := fl₃.up fr₂' f₅ up₅
  have g₅ : Grow C F₂ s₂ F₃ { s' with heap := h₅ } := Gr.weak (fun a _ q => nomatch q) fl₅.gr
  -- the exception and its arguments are frozen
  obtain ⟨oe, vs, he, hec, hed, hv0⟩ := fl₅.fly.first
  obtain ⟨ot, nt, ht, htc, htd⟩ := fl₅.tup
  have hFn : ∀ b, base.get? b = none → F₃ b = none := fun b hb => by
    cases q : F₃ b with
    | none => rfl
    | some o => have := fl₅.ok.sub b o q; rw [show ({ s' with heap := base } : Shared).heap = base from rfl, hb] at this; cases this
  have hFe : F₃ e = none := hFn e fl₅.fly.2.1
  have hFt : F₃ t = none := hFn t fl₅.tn
  have hte : t ≠ e := fun q => by
    rw [q] at ht
    have : oe = ot := Option.some.inj (he.symm.trans ht)
    rw [← this, hed] at htd; cases htd
  have g₆ := Gr.frz X₂.ok g₅ fl₅.enew he hFe
  have g₇ := Gr.frz X₂.ok g₆ fl₅.tnew ht (by rw [Ghost.add_ne hte]; exact hFt)
  have X₇ := ((X₂.grow g₇).and (J := ExcJ e X xs) ⟨t, oe, ot, vs, nt, by rw [Ghost.add_ne hte.symm]; exact Ghost.add_self _ _ _, hec, hed, hv0, Ghost.add_self _ _ _, htc, htd⟩ ExcJ.mono)
  have X₈ : St C ((fm.mark (.ref e)).and (ExcJ e X xs)) ρ₁ σ₁ _ _ := { X₇ with }
  refine X₈.store hl rVal fun s₉ g₉ X₉ => ?_
  have G := g₂.trans ((Grow.any g₇ (K := Kf fm)).trans g₉)
  refine wpAny_mono ((hs e xs hxa).h _ _ X₉) (fun f s₁₀ q => ?_) fun v s₁₀ q => (Out.calm.no calm.2 q).elim
  obtain ⟨F₁₀, g₁₀, r⟩ := q.unmarkJ hI
  have G' := G.trans g₁₀
  rcases ho with ⟨ρ₂, ρ₃, σ₂, rfl, rfl, hsb, hnn⟩ | ⟨a, σ₂, rfl, rfl⟩
  · obtain ⟨rfl, X₁₀⟩ := r
    exact X₁₀.gone hl hsb hnn fun s₁₁ g₁₁ X₁₁ => ⟨F₁₀, G'.trans g₁₁, rfl, X₁₁⟩
  · obtain ⟨v, rfl, rv, R⟩ := r
    exact R.gone G'.ok X₀.kind X₀.locB hl fun s₁₁ g₁₁ R' => ⟨F₁₀, G'.trans g₁₁, v, rfl, rv, R'⟩⟩
/- what a call gives where frames of the stack may be told -/
structure FnS (C : Cx) (d : Nat) (F : Ghost) (f : Value) (args : List AV) (kw : Rho) (res : AV) : Prop where
  of ::
  h : ∀ F₁ s A l fs vals kvs, GLe F F₁ → Ok C F₁ s → Room A d → Stk A fs l → (∀ L ∈ fs, FrOk C F₁ s L) → Reps F₁ args vals → Binds F₁ kw kvs →
    wpAny C.M A (call f vals kvs) (fun v s' => ∃ F', Grow C F₁ s F' s' ∧ Rep F' res v) (fun _ _ => False) s
theorem FnS.body {d : Nat} {a : Addr} {fd : FuncData} {body : List Stmt} {sc : Scope} {args : List AV} {kw : Rho} {res : AV} {I : Ghost → Prop}
    (D : Def C a fd body sc) (hI : I F) (hM : Mono I) (hb : HB C fd args kw ρ)
    (hn : (ρ.map (·.1)).Nodup) (hk : ∀ x ∈ ρ.map (·.1), sc.names.lookup x = some .local ∨ sc.names.lookup x = some .cell)
    (hkf : sc.kind = .function) (hco : sc.isCoroutine = false) (hgen : sc.isGenerator = false)
    (hh : ∀ A L q E fs l, q = fd.qualname ++ ".<locals>." → Room A (d + 1) → Stk A fs l → ∃ out, out.res = some res ∧ Ex C (ffm A sc L a q fd.code E I fs) ρ [] body out) : FnS C (d + 1) F (.ref a) args kw res := by
  refine ⟨fun F₁ s A l fs vals kvs hF ok room S hfs hv hkv => ?_⟩
  obtain ⟨bs, hbs, hr⟩ := hb F₁ s vals kvs ok hv hkv
  refine wpAny_call (call_in (I := I) (fs := fs) hfs D (hM _ _ hF hI) hM ok (by have := room.dep; omega) hbs hr hn hk hkf hco hgen fun L q E s₁ hq hE X g => ?_)
  obtain ⟨out, ho, hx⟩ := hh A L q E fs l hq room S
  have fin : ∀ {s' F'}, Gr C (Kf (ffm A sc L a q fd.code E I fs)) F₁ s₁ F' s' → Grow C F₁ s F' s' := fun {s' F'} g' =>
    Gr.comp (E := E) (fun b hb => (hE b).mpr hb) g (Gr.weak (fun b hb => ⟨hb, fun q => nomatch q⟩) g')
  refine wpAny_mono (hx.h F₁ s₁ X) (fun f s' ⟨F', g', r⟩ => ?_) fun e s' q => ?_
  · cases out with
    | nxt => obtain ⟨rfl, _⟩ := r; cases ho; exact ⟨F', fin g', rVal⟩
    | ret b => obtain ⟨v, rfl, rv, _⟩ := r; cases ho; exact ⟨F', fin g', rv⟩
    | brk => cases ho
    | cnt => cases ho
    | rse => cases ho
  · obtain ⟨P, e, _⟩ := q; subst e; cases ho
/- a call by a name of a function that asks for its stack -/
theorem Ev.callS {A : Around} {x : Str} {px pos : Pos} {es : List Expr} {kws : List Keyword} {f : Value} {as : List AV} {kρ : Rho} {res : AV} {d : Nat} (room : Room fm.A d) (S : Stk A fm.fs l) (hA : fm.A = A.deeper fm.env) (hfr : fm.env.frame = some fm.env.locals)
    (hf : Ev C fm ρ σ (.Name x px) (.val f)) (has : Evs C fm ρ σ es as) (hks : Evk C fm ρ σ kws kρ)
    (hfn : ∀ F s, St C fm ρ σ F s → KpOk F f ∧ FnS C d F f as kρ res) (hpl : Plain es fm.env := by rfl) (hkw : kws.all (fun k => k.arg.isSome) = true := by rfl) :
    Ev C fm ρ σ (.Call (.Name x px) es kws pos) res := ⟨fun F s X => by
  refine wpAny_Call_Name_kw (wpAny_mono (hf.h F s X) (fun v s₁ ⟨F₁, g₁, r₁⟩ => ?_) fun _ _ q => q)
  obtain rfl := r₁.oval
  have X₁ := X.grow g₁
  have hk := kwAll (pos := pos) (env := fm.env) hkw
  refine callWith_any (backTo_any hpl) hk.2 (evalArgs_any hpl hk.1 (wpAny_mono (has.h F₁ s₁ pos X₁) (fun vs s₂ ⟨F₂, g₂, r₂⟩ => ?_) fun _ _ q => q))
  have X₂ := X₁.grow g₂
  refine wpAny_mono (hks.h F₂ s₂ pos X₂) (fun ks s₃ ⟨F₃, g₃, r₃⟩ => ?_) fun _ _ q => q
  have X₃ := X₂.grow g₃
  obtain ⟨hkp, hfn⟩ := hfn F₃ s₃ X₃
  obtain ⟨S₃, fr₃⟩ := X₃.stack S hA hfr
  refine ⟨⟨F₃, X₃.ok, hkp⟩, wpAny_mono (hfn.h F₃ s₃ fm.A _ _ vs _ (GLe.refl _) X₃.ok room S₃ fr₃ (Reps.mono g₃.le _ _ r₂) r₃) (fun r s₄ ⟨F₄, g₄, r₄⟩ => ?_) fun _ _ q => q⟩
  exact ⟨F₄, ((g₁.trans g₂).trans g₃).trans g₄, r₄⟩⟩
end
section
variable {C : Cx} {fm : Fm} {ρ : Rho} {σ : Sig}
/- a list copied -/
theorem fnCopy {d : Nat} {F : Ghost} {xs : List AV} (hz : xs.length ≤ 1000000) : Fn C d F (.type "list") [.list xs] [] (.list xs) := Fn.bi fun F s A vals Q E ok room r h => by
  obtain ⟨v, r', rfl, rv, rn⟩ := r.ocons
  obtain rfl := rn.onil
  obtain ⟨l, vs, rfl, hq, hr⟩ := rv.olst
  obtain ⟨o, ho, hc, n, hd⟩ := hq.lst ok
  refine call_list_seq (hsz := by rw [List.size_toArray, ← hr.length]; exact sizeLine_ge hz) l (.inl rfl) ho hc hd fun h' c' hk hD => ?_
  have g := Grow.heap ok (h' := h') (n := s.toks) hk
  have hn := ok.none_of_dead (dead_top s.heap)
  exact h _ _ _ (Gr.frz ok g (dead_top _) hD hn) (rLst ⟨_, _, Ghost.add_self _ _ _, rfl, rfl⟩ (Reps.mono (Ghost.le_add hn) _ _ hr))
/- an exception's words -/
theorem Ev.strExc {x : Str} {px pos : Pos} {en : Expr} {X n : String} {e : Addr} {m : Str} (FX : ExcStrFacts X n) (hu : fm.A.units + 2 < cLine) (hI : ∀ F, fm.I F → ∃ tk, ExcJ e X [.str m tk] F) (hf : Ev C fm ρ σ (.Name x px) (.val (.type "str"))) (he : Ev C fm ρ σ en (.val (.ref e)))
    (hpl : Plain [en] fm.env := by rfl) (hst : starEach [en] fm.env = [(false, eval en fm.env)] := by rfl) : Ev C fm ρ σ (.Call (.Name x px) [en] [] pos) (.str m) := ⟨fun F s X =>
  evCall X hf (Evs.cons he Evs.nil (by rw [hst]; rfl)) (.inr (.inl ⟨_, rfl⟩)) (fun F₁ s₁ vs g₁ r₁ => by
    obtain ⟨v, r', rfl, rv, rn⟩ := r₁.ocons
    obtain rfl := rn.onil
    obtain rfl := rv.oval
    obtain ⟨tk, hJ⟩ := hI _ (X.grow g₁).inv
    obtain ⟨t, x1, x2⟩ := hJ.at' g₁.ok
    exact PySem.P.str_of_exc_one FX hu x1 x2 ⟨F₁, g₁, rStr⟩) hpl⟩
theorem Ev.strExc0 {x : Str} {px pos : Pos} {en : Expr} {X n : String} {e : Addr} (FX : ExcStrFacts X n) (hu : fm.A.units + 2 < cLine) (hI : ∀ F, fm.I F → ExcJ e X [] F) (hf : Ev C fm ρ σ (.Name x px) (.val (.type "str"))) (he : Ev C fm ρ σ en (.val (.ref e)))
    (hpl : Plain [en] fm.env := by rfl) (hst : starEach [en] fm.env = [(false, eval en fm.env)] := by rfl) : Ev C fm ρ σ (.Call (.Name x px) [en] [] pos) (.str Str.empty) := ⟨fun F s X =>
  evCall X hf (Evs.cons he Evs.nil (by rw [hst]; rfl)) (.inr (.inl ⟨_, rfl⟩)) (fun F₁ s₁ vs g₁ r₁ => by
    obtain ⟨v, r', rfl, rv, rn⟩ := r₁.ocons
    obtain rfl := rn.onil
    obtain rfl := rv.oval
    obtain ⟨t, x1, x2⟩ := (hI _ (X.grow g₁).inv).at' g₁.ok
    exact PySem.P.str_of_exc_none FX hu x1 x2 ⟨F₁, g₁.trans (Grow.tok1 g₁.ok), rStr⟩) hpl⟩
theorem Tr.neD' {l r pos} {a : AV} (hu : fm.A.units + 64 < cLine) (hf : a.flatD) (hl : Ev C fm ρ σ l a) (hr : Ev C fm ρ σ r a) (hm : behindInMarks .NotEq r = false := by with_unfolding_all rfl) : Tr C fm ρ σ (.Compare l [.NotEq] [r] pos) false :=
  Tr.cmpR hl hr (fun F s v u Q E ok r1 r2 h => (cmpSame ok hf hu r1 r2).2 (h s.toks)) hm
end
noncomputable abbrev kKept : Str := Str.ofString "kept"
noncomputable abbrev kPut : Str := Str.ofString "put"
noncomputable abbrev kErr : Str := Str.ofString "error"
noncomputable abbrev fns2 : List AV := [.val (.ref 41), .val (.ref 23)]
theorem notTuple_VE : isSubtype (.type ((Manifest.find? "ValueError").elim "type" fun y => y.metatype)) (.type "tuple") = pure false := PySem.F.notTuple_ValueError
theorem subVE : isSubtype (.type "ValueError") (.type "ValueError") = pure true := by rw [isSubtype_type]; kernel_rfl
theorem refusedFn {C : Cx} (P : PX C) {F : Ghost} {ps : List (Int × Int)} (hz : ps.length ≤ 1000) : FnS C 8 F (.ref 155) [.list (rowA ps)] [] (.bool true) := by
  obtain ⟨fd, D⟩ := P.refused
  obtain ⟨pm, cd, doc, rfl⟩ := D.e
  have hzr : (rowA ps).length ≤ 1000000 := by rw [List.length_map]; omega
  refine FnS.body (d := 7) (I := fun _ => True) (ρ := [(kRow, .list (rowA ps))]) D.d trivial Mono.triv (HB.one (x := kRow) fun v s => BindsTo.of_eq rfl) (by simp only [List.map_cons, List.map_nil]; decide) (by simp only [List.map_cons, List.map_nil]; decide +kernel) rfl rfl rfl fun A L q E fs l hq room S => ⟨.ret _ [], rfl, ?_⟩
  refine Ex.cons (Es.asg (Ev.call (d := 1) (room.deeper.le (by decide)) (by walk_at "ev") (Evs.cons (by walk_at "ev") Evs.nil) Evk.nil fun _ _ _ => ⟨.inr (.inl ⟨_, rfl⟩), fnCopy hzr⟩) (.inl (by rfl))) ?_
  refine Ex.cons (ρ' := [(kKept, .list (rowA ps)), (kRow, .list (rowA ps))]) (σ' := []) (Es.for (vs := fns2) (Src.tuple room.deeper.hd (Ev.tup (Evs.cons (by walk_at "ev") (Evs.cons (by walk_at "ev") Evs.nil)))) fun it τ I hE => ?_) (Ex.head (Es.ret Ev.bool))
  have room' : Room (A.deeper (fenv (fnScope sRefused) L 155 q cd)) 7 := room.deeper
  have hu : A.units + 3 + 64 < cLine := room'.u64
  refine Fo.all I hE (fun _ => [(kKept, .list (rowA ps)), (kRow, .list (rowA ps))]) (fun _ => []) (fun x => [(kPut, x)]) (fun x _ => As.name (.inl (by rfl))) (fun i x hx => ?_) Ex.nil
  obtain ⟨f, hxf, hkp, hfx⟩ : ∃ f, x = .val f ∧ (∀ F s, Ok C F s → KpOk F f) ∧ ∀ F, FnX C 5 F f [.list (rowA ps), .tup [.int 0, .int 0], .int (-1)] [] (.type "ValueError") loBad := by
    match i, hx with
    | 0, hx => cases hx; exact ⟨_, rfl, fun F s ok => Def.kp (P.insL.choose_spec.d) ok, fun F => insLx P (by decide)⟩
    | 1, hx => cases hx; exact ⟨_, rfl, fun F s ok => Def.kp (P.insR.choose_spec.d) ok, fun F => insRx P (by decide)⟩
  subst hxf
  refine Ex.one (Es.tryN (A := A) (o₁ := .nxt [(kKept, .list (rowA ps)), (kRow, .list (rowA ps))] _) (xa := loBad) S rfl rfl
    (Ex.head (Es.exprX (EvX.call (A := A) (d := 5) (room'.le (by decide)) S rfl rfl (by walk_at "ev") (Evs.cons (by walk_at "ev") (Evs.cons (Ev.tup (Evs.cons Ev.int (Evs.cons Ev.int Evs.nil))) (Evs.cons (Ev.neg Ev.int) Evs.nil))) Evk.nil fun F s X => ⟨hkp F s X.ok, hfx F⟩)))
    (by rfl) (PX.gl P _ _ (by rfl)) (by decide) PySem.F.isExc_ValueError notTuple_VE subVE (by rfl) (fun e args hxa => ?_) (.inl ⟨_, _, _, rfl, rfl, Sub.refl, by rfl⟩))
  refine Ex.fgt (Ex.one (Es.ite (b := false) ?_ (fun q => nomatch q) fun _ => Ex.nil)) (Sub.cons (by rfl) (Sub.cons (by rfl) Sub.nil))
  refine Tr.bop (b := false || (false || false)) (Trs.or_cons (Tr.neS (Ev.strExc PySem.F.excStr_ValueError (show A.units + 3 + 2 < cLine by omega) (fun F q => let ⟨tk, e⟩ := hxa; ⟨tk, e ▸ q.2⟩) (by walk_at "ev") (by walk_at "ev")) Ev.str) fun _ => Trs.or_cons (Tr.neD' hu (flatPairs ps) (by walk_at "ev") (by walk_at "ev")) fun _ => Trs.or_nil)
section
variable {C : Cx} {fm : Fm} {ρ : Rho} {σ : Sig} {fs : List Addr} {l : List Env}
/- an exception is raised by its class alone -/
theorem raiseC {prog : Program} {w : World} {A : Around} {E : Value → Shared → Prop} {s : Shared} {env : Env} {T N I : String} (FC : ExcCallFacts T N I) (FR : ExcRaiseFacts T) (hc : ExcClass T N I) (hs : isSubtype (.type T) (.type T) = pure true) {x : Str} {np pos : Pos} {Q : Flow → Shared → Prop} (hh : A.handled = none)
    (hx : ∀ Q' : Value → Shared → Prop, Q' (.type T) s → wpAny (model prog w) A (eval (.Name x np) env) Q' E s)
    (h : ∀ h' e, Heap.MadeExc s.heap h' e T [] → E (.ref e) { s with heap := h' }) :
    wpAny (model prog w) A (exec (.Raise (some (.Name x np)) none pos) env) Q E s := by
  show wpAny (model prog w) A (do standAt pos; raiseStmt env (some (do let v ← eval (.Name x np) env; standAt pos; pure v)) none) Q E s
  refine wpAny_bind (wpAny_standAt ?_)
  unfold raiseStmt
  refine wpAny_bind (wpAny_bind (hx _ (wpAny_bind (wpAny_standAt (wpAny_pure (wpAny_bind (wpAny_pure (wpAny_bind (wpAny_holding ?_)))))))))
  unfold excFromValue isExcClass
  refine wpAny_bind (wpAny_bind (wpAny_pure ?_))
  simp only [if_true]
  rw [FR.isExc]
  refine wpAny_pure ?_
  simp only [if_true]
  obtain ⟨hp, g, d, tk, os⟩ := s
  refine wpAny_bind (wpAny_call_exc FC (hrest := Nat.zero_le _) fun h' e hm => ?_)
  obtain ⟨t, he, _⟩ := hm.there
  have hT : (⟨h', g, d, tk, os⟩ : Shared).TypeIs (.ref e) T := ⟨_, he, rfl⟩
  refine wpAny_bind (wpAny_isInstance hT FR.isExc ?_)
  simp only [Bool.not_true, Bool.false_eq_true, if_false]
  refine wpAny_pure ?_
  refine wpAny_bind (m := isType (.type T)) (wpAny_pure ?_)
  rw [if_pos rfl]
  refine wpAny_bind (wpAny_holding ?_)
  unfold raisedFor
  rw [if_neg (by decide)]
  refine wpAny_bind (wpAny_typeOf hT ?_)
  refine wpAny_bind (call_issubclass (issubclass_self hc hs) ?_)
  refine wpAny_bind (wpAny_truthy_bool ?_)
  simp only [if_true]
  refine wpAny_pure ?_
  unfold setFlight raiseNew
  refine wpAny_bind (wpAny_bind (wpAny_field (i := 1) (x := Value.none) he rfl rfl ?_))
  rw [if_neg (by decide)]
  refine wpAny_pure (wpAny_bind (wpAny_handled ?_))
  rw [hh]
  exact wpAny_bind (wpAny_pure (wpAny_throw (h h' e hm)))
theorem Es.raiseC {T N I : String} (FC : ExcCallFacts T N I) (FR : ExcRaiseFacts T) (hc : ExcClass T N I) (hs : isSubtype (.type T) (.type T) = pure true) {x : Str} {np pos : Pos} (hh : fm.A.handled = none)
    (hx : fm.env.kindOf x = some .globalImplicit) (hg : C.gl x (.type T)) (hd : (x == ("__debug__" : Str)) = false := by decide) :
    Es C fm ρ σ (.Raise (some (.Name x np)) none pos) (.rse (Lands C fm ρ σ fs l (.type T) (· = []))) := ⟨fun F s X =>
  Mine.raiseC FC FR hc hs hh (fun Q' q => X.glo hx hg hd q) fun h' e hm => ⟨_, rfl, F, s, Gr.refl X.ok, X, e, [], rfl, rfl, .inl ⟨h', rfl, hm.of⟩⟩⟩
end
theorem subZD : isSubtype (.type "ZeroDivisionError") (.type "ZeroDivisionError") = pure true := by rw [isSubtype_type]; kernel_rfl
/- a division by nought is refused -/
theorem dm0 {C : Cx} (P : PX C) {F : Ghost} {a : Int} : FnX C 3 F (.ref 92) [.int a, .int 0] [] (.type "ZeroDivisionError") (· = []) := by
  obtain ⟨fd, D⟩ := P.divm
  obtain ⟨pm, cd, doc, rfl⟩ := D.e
  refine FnX.body (d := 2) (I := fun _ => True) (ρ := [(kA, .int a), (kB, .int 0)]) D.d trivial Mono.triv (HB.two (x := kA) (y := kB) fun v u s => BindsTo.of_eq rfl) (by simp only [List.map_cons, List.map_nil]; decide) (by simp only [List.map_cons, List.map_nil]; decide +kernel) rfl rfl rfl fun A L q E fs l hq room S => ⟨[(kA, .int a), (kB, .int 0)], [], .inl ?_⟩
  exact Ex.head (Es.ite (b := true) (Tr.cmp (by walk_at "ev") Ev.int CmpI.eq) (fun _ => Ex.head (Es.raiseC PySem.F.excCall_ZeroDivisionError PySem.F.excRaise_ZeroDivisionError excClass_ZeroDivisionError subZD room.deeper.hd (by rfl) (PX.gl P _ _ (by rfl)))) fun q => nomatch q)
section
variable {C : Cx} {fm : Fm} {ρ : Rho} {σ : Sig}
/- a list of two unpacked -/
theorem As.lst2 {e1 e2 : Expr} {k : Nat} {p : Pos} {x y : AV} {bd : Rho} (hh : fm.A.handled = none) (h : Ass C fm [e1, e2] [x, y] bd) (hn : (assignEach [e1, e2] fm.env).length = 2 := by rfl) (hs : (assignEach [e1, e2] fm.env).findIdx? (·.1) = none := by rfl) :
    As C fm (.Tuple [e1, e2] k p) (.list [x, y]) bd := ⟨fun ρ σ F s v X r => by
  obtain ⟨l, vs, rfl, hq, hr⟩ := r.olst
  have hL := hq.lst X.ok
  obtain ⟨v1, r1, rfl, rv1, rr1⟩ := hr.ocons
  obtain ⟨v2, r2, rfl, rv2, rr2⟩ := rr1.ocons
  obtain rfl := rr2.onil
  obtain ⟨o, ho, hc, n, hd⟩ := id hL
  have hne : l ≠ s.heap.objs.size := Nat.ne_of_lt (Heap.lt_size ho)
  have hT : s.TypeIs (.ref l) "list" := ⟨o, ho, hc⟩
  rw [arm_assign_Tuple]
  refine wpAny_bind (wpAny_standAt ?_)
  unfold unpack
  rw [hn, hs]
  refine wpAny_bind (wpAny_holding ?_)
  unfold unpackItems
  refine wpAny_bind ?_
  unfold notIterableAtAll
  refine wpAny_bind (wpAny_specialOf hT PySem.F.slot_list_iter.lookup ?_)
  refine wpAny_pure ?_
  simp only [Bool.false_eq_true, if_false]
  refine wpAny_bind (wpAny_holding (wpAny_pyIter_list hL ?_))
  have hL1 : (s.heap.push { cls := .type "list_iterator", data := .fields #[.ref l, .int 0 0] }).IsList l [v1, v2].toArray := ⟨o, Heap.get?_push_of_some _ ho, hc, n, hd⟩
  refine wpAny_bind (wpAny_holding ?_)
  show wpAny _ _ (pyNext (.ref s.heap.objs.size) >>= _) _ _ _
  refine wpAny_bind (wpAny_pyNext_list_item (i := 0) ⟨_, Heap.get?_push_size _ rfl, rfl, rfl⟩ hL1 (x := v1) rfl fun h1 i1 s1 => ?_)
  have hL2 : h1.IsList l [v1, v2].toArray := ⟨o, s1.extBut _ _ hne (Heap.get?_push_of_some _ ho), hc, n, hd⟩
  refine wpAny_bind (wpAny_holding ?_)
  show wpAny _ _ (pyNext (.ref s.heap.objs.size) >>= _) _ _ _
  refine wpAny_bind (wpAny_pyNext_list_item (i := 1) i1 hL2 (x := v2) rfl fun h2 i2 s2 => ?_)
  have hL3 : h2.IsList l [v1, v2].toArray := ⟨o, s2.extBut _ _ hne (s1.extBut _ _ hne (Heap.get?_push_of_some _ ho)), hc, n, hd⟩
  refine wpAny_bind (wpAny_holding (wpAny_pure (wpAny_pure (wpAny_pure ?_))))
  rw [if_neg (by simp)]
  refine wpAny_bind (wpAny_holding (wpAny_pyNext_list_end hh i2 hL3 (by simp) fun h3 he => ?_))
  simp only [Option.isSome_none, Bool.false_eq_true, if_false]
  refine wpAny_pure ?_
  have g : Grow C F s F { s with heap := h3 } := Grow.heap (n := s.toks) X.ok fun b o' e => by
    have hb : b ≠ s.heap.objs.size := Nat.ne_of_lt (Heap.lt_size e)
    exact he b o' hb (s2.extBut _ _ hb (s1.extBut _ _ hb (Heap.get?_push_of_some _ e)))
  exact wpAny_mono (h.h ρ σ F _ [v1, v2] (X.grow g) hr) (fun _ s₂ ⟨F₂, g₂, X₂⟩ => ⟨F₂, g.any.trans g₂, X₂⟩) fun _ _ q => q⟩
end
noncomputable abbrev kKeys : Str := Str.ofString "keys"
noncomputable abbrev kSk : Str := Str.ofString "sketches"
noncomputable abbrev kSize : Str := Str.ofString "size"
noncomputable abbrev kNode : Str := Str.ofString "node"
noncomputable abbrev kOnes : Str := Str.ofString "ones"
noncomputable abbrev kFirst : Str := Str.ofString "first"
noncomputable abbrev kMarks : Str := Str.ofString "marks"
noncomputable abbrev kEarly : Str := Str.ofString "early"
noncomputable abbrev kPlac : Str := Str.ofString "place"
noncomputable abbrev kWithin : Str := Str.ofString "within"
noncomputable abbrev kNear : Str := Str.ofString "near"
noncomputable abbrev kTop : Str := Str.ofString "top"
noncomputable abbrev kHalf : Str := Str.ofString "half"
noncomputable abbrev kRest : Str := Str.ofString "rest"
noncomputable abbrev kLast : Str := Str.ofString "last"
noncomputable abbrev kSpots : Str := Str.ofString "spots"
noncomputable abbrev kOne : Str := Str.ofString "one"
noncomputable abbrev kMore : Str := Str.ofString "more"
noncomputable abbrev kMark : Str := Str.ofString "mark"
noncomputable abbrev kKy : Str := Str.ofString "key"
noncomputable def zls (ds : List Nat) : List Int := ds.map fun d : Nat => (d : Int)
theorem zls_len (ds : List Nat) : (zls ds).length = ds.length := List.length_map ..
noncomputable abbrev lst (ds : List Nat) : AV := .list ((zls ds).map .int)
noncomputable def SL (ds : List Nat) (x : Int) (lo hi : Nat) : Nat := bisL (fun i => (zls ds).getD i 0) x lo hi
noncomputable def SR (ds : List Nat) (x : Int) (lo hi : Nat) : Nat := bisR (fun i => (zls ds).getD i 0) x lo hi
theorem cL2 {C : Cx} (P : PX C) {F : Ghost} {ds : List Nat} {x : Int} (hz : ds.length ≤ 1000) : Fn C 3 F (.ref 50) [lst ds, .int x] [] (.int (SL ds x 0 ds.length : Nat)) := by
  have := bisL2 P (F := F) (ns := zls ds) (x := x) (by rw [zls_len]; omega)
  rw [zls_len] at this; exact this
theorem cL3 {C : Cx} (P : PX C) {F : Ghost} {ds : List Nat} {x : Int} {lo : Nat} (hz : ds.length ≤ 1000) (hl : lo ≤ ds.length) : Fn C 3 F (.ref 50) [lst ds, .int x, .int lo] [] (.int (SL ds x lo ds.length : Nat)) := by
  have := bisL3 P (F := F) (ns := zls ds) (x := x) (lo := lo) (by rw [zls_len]; omega) (by rw [zls_len]; exact hl)
  rw [zls_len] at this; exact this
theorem cL4 {C : Cx} (P : PX C) {F : Ghost} {ds : List Nat} {x : Int} {lo hi : Nat} (hz : ds.length ≤ 1000) (hl : lo ≤ hi) (hh : hi ≤ ds.length) : Fn C 3 F (.ref 50) [lst ds, .int x, .int lo, .int hi] [] (.int (SL ds x lo hi : Nat)) :=
  bisL4 P (F := F) (ns := zls ds) (x := x) (by rw [zls_len]; omega) hl (by rw [zls_len]; exact hh)
theorem cR2 {C : Cx} (P : PX C) {F : Ghost} {ds : List Nat} {x : Int} (hz : ds.length ≤ 1000) : Fn C 3 F (.ref 32) [lst ds, .int x] [] (.int (SR ds x 0 ds.length : Nat)) := by
  have := bisR2 P (F := F) (ns := zls ds) (x := x) (by rw [zls_len]; omega)
  rw [zls_len] at this; exact this
theorem cR3 {C : Cx} (P : PX C) {F : Ghost} {ds : List Nat} {x : Int} {lo : Nat} (hz : ds.length ≤ 1000) (hl : lo ≤ ds.length) : Fn C 3 F (.ref 32) [lst ds, .int x, .int lo] [] (.int (SR ds x lo ds.length : Nat)) := by
  have := bisR3 P (F := F) (ns := zls ds) (x := x) (lo := lo) (by rw [zls_len]; omega) (by rw [zls_len]; exact hl)
  rw [zls_len] at this; exact this
theorem cR4 {C : Cx} (P : PX C) {F : Ghost} {ds : List Nat} {x : Int} {lo hi : Nat} (hz : ds.length ≤ 1000) (hl : lo ≤ hi) (hh : hi ≤ ds.length) : Fn C 3 F (.ref 32) [lst ds, .int x, .int lo, .int hi] [] (.int (SR ds x lo hi : Nat)) :=
  bisR4 P (F := F) (ns := zls ds) (x := x) (by rw [zls_len]; omega) hl (by rw [zls_len]; exact hh)
theorem kpL {C : Cx} (P : PX C) {F : Ghost} {s : Shared} (ok : Ok C F s) : KpOk F (.ref 50) := Def.kp (P.bisL.choose_spec.d) ok
theorem kpR {C : Cx} (P : PX C) {F : Ghost} {s : Shared} (ok : Ok C F s) : KpOk F (.ref 32) := Def.kp (P.bisR.choose_spec.d) ok
/- a node's word, its marks -/
noncomputable def nodeOf (z : Nat) (sk : List Nat) : Nat := ofDigs (z + 3) (sk.map (2 ^ z + ·))
noncomputable def onesOf (z : Nat) : Nat := ofDigs (z + 3) [1, 1, 1, 1, 1]
noncomputable def markOf (z : Nat) (sk : List Nat) (x : Nat) : Nat := (nodeOf z sk - x * onesOf z) / 2 ^ z &&& onesOf z
/- the keys about a place; the highest place in which the number and they differ -/
noncomputable def about (keys : List Nat) (p : Nat) : List Nat := slc keys (some ((p - 1 : Nat) : Int)) (some ((p + 1 : Nat) : Int))
section
variable {C : Cx} {fm : Fm} {ρ ρ' : Rho} {σ σ' : Sig}
/- a try whose body ends well -/
theorem Es.tryOk {body : List Stmt} {h₀ : ExceptHandler} {hs : List ExceptHandler} {pos : Pos} (h : Ex C fm ρ σ body (.nxt ρ' σ')) : Es C fm ρ σ (.Try body (h₀ :: hs) [] [] pos) (.nxt ρ' σ') := ⟨fun F s X =>
  wpAny_Try_except (wpAny_mono (h.h F s X) (fun f s' ⟨F', g', e, X'⟩ => by subst e; exact wpAny_execs_nil ⟨F', g', rfl, X'⟩) fun _ _ q => (Out.calm.no rfl q).elim)⟩
/- a test that lets the block go on -/
theorem Es.pass0 {t : Expr} {xs : List Stmt} {pos : Pos} (h : Tr C fm ρ σ t false) : Es C fm ρ σ (.If t xs [] pos) (.nxt ρ σ) := Es.ite h (fun q => nomatch q) fun _ => Ex.nil
theorem Tr.eqS {l r pos} {x : Str} (hl : Ev C fm ρ σ l (.str x)) (hr : Ev C fm ρ σ r (.str x)) (hm : behindInMarks .Eq r = false := by with_unfolding_all rfl) : Tr C fm ρ σ (.Compare l [.Eq] [r] pos) true :=
  Tr.cmpR hl hr (fun F s v u Q E ok r1 r2 h => by obtain ⟨t, rfl⟩ := r1.ostr; obtain ⟨t', rfl⟩ := r2.ostr; exact PySem.P.eq_str (by have := h s.toks; simpa using this)) hm
end
theorem xor_sum : ∀ n x y : Nat, x < 2 ^ n → y < 2 ^ n → (x ^^^ y) + 2 * (x &&& y) = x + y := by
  intro n
  induction n with
  | zero => intro x y hx hy; have : x = 0 := by omega
            have : y = 0 := by omega
            subst_vars; rfl
  | succ n ih =>
    intro x y hx hy
    have h := ih (x / 2) (y / 2) (by rw [Nat.pow_succ] at hx; omega) (by rw [Nat.pow_succ] at hy; omega)
    have o2 : (x ^^^ y) / 2 = x / 2 ^^^ y / 2 := Nat.xor_div_two
    have o3 : (x &&& y) / 2 = x / 2 &&& y / 2 := Nat.and_div_two
    have q2 : (x ^^^ y) % 2 = (x % 2 ^^^ y % 2) := Nat.xor_mod_two_pow (n := 1)
    have q3 : (x &&& y) % 2 = (x % 2 &&& y % 2) := Nat.and_mod_two_pow (n := 1)
    have key : (x % 2 ^^^ y % 2) + 2 * (x % 2 &&& y % 2) = x % 2 + y % 2 := by
      rcases Nat.mod_two_eq_zero_or_one x with a | a <;> rcases Nat.mod_two_eq_zero_or_one y with b | b <;> rw [a, b] <;> rfl
    omega
theorem bitXor_nn (x y : Nat) : Builtin.bitXor (x : Int) (y : Int) = ((x ^^^ y : Nat) : Int) := by
  have h := xor_sum (x + y) x y (Nat.lt_of_le_of_lt (Nat.le_add_right x y) Nat.lt_two_pow_self) (Nat.lt_of_le_of_lt (Nat.le_add_left y x) Nat.lt_two_pow_self)
  rw [bitXor_and, bitAnd_pp (Int.natCast_nonneg _) (Int.natCast_nonneg _), Int.toNat_natCast, Int.toNat_natCast]
  omega
theorem divNot {n t : Nat} (ht : 0 < t) : (Builtin.bitNot (n : Int)).fdiv t = Builtin.bitNot ((n / t : Nat) : Int) ∧ (Builtin.bitNot (n : Int)).fmod t = (t : Int) + Builtin.bitNot ((n % t : Nat) : Int) := by
  obtain ⟨h1, h2⟩ := fdiv_not (a := n) (b := t) (by first | assumption | decide | omega)
  rw [fdivN] at h1
  rw [modN (by first | assumption | decide | omega)] at h2
  unfold Builtin.bitNot at *
  omega
theorem divOpp {n t : Nat} (ht : 0 < t) : ((n : Int) + 1).fdiv (-(t : Int)) = Builtin.bitNot ((n / t : Nat) : Int) ∧ ((n : Int) + 1).fmod (-(t : Int)) = ((n % t : Nat) : Int) + 1 - t := by
  obtain ⟨h1, h2⟩ := fdiv_opp (a := Builtin.bitNot (n : Int)) (b := t)
  have e : -Builtin.bitNot (n : Int) = (n : Int) + 1 := by unfold Builtin.bitNot; omega
  rw [e] at h1 h2
  obtain ⟨k1, k2⟩ := divNot (n := n) ht
  rw [k1] at h1; rw [k2] at h2
  refine ⟨h1, ?_⟩
  unfold Builtin.bitNot at h2; omega
theorem divBoth {n t : Nat} (ht : 0 < t) : (Builtin.bitNot (n : Int)).fdiv (-(t : Int)) = (((n + 1) / t : Nat) : Int) ∧ (Builtin.bitNot (n : Int)).fmod (-(t : Int)) = -(((n + 1) % t : Nat) : Int) := by
  obtain ⟨h1, h2⟩ := fdiv_opp (a := ((n + 1 : Nat) : Int)) (b := t)
  have e : -((n + 1 : Nat) : Int) = Builtin.bitNot (n : Int) := by unfold Builtin.bitNot; omega
  rw [e, fdivN] at h1
  rw [e, modN (by first | assumption | decide | omega)] at h2
  exact ⟨h1, by omega⟩
theorem markLt (z : Nat) (sk : List Nat) (x : Nat) : markOf z sk x < 2 ^ ((z + 3) * 5) := Nat.lt_of_le_of_lt Nat.and_le_right (ofDigs_lt (z + 3) [1, 1, 1, 1, 1] fun d hd => by
  have : d = 1 := by simpa using hd
  rw [this, Nat.pow_add]; have := Nat.two_pow_pos z; omega)
structure FoundOk (n m : Nat) (keys sk : List Nat) (ws : List Str) (e p near lt le : Nat) : Prop where
  hn : n < 10000
  hk : keys.length = 5
  hs : sk.length = 5
  hw : ws.length ≤ 13
  hsb : ∀ s ∈ sk, s < 2 ^ ws.length
  hf : sketch (n &&& m) ws < 2 ^ ws.length
  hle : (sketch (n &&& m) ws + 1) * onesOf ws.length ≤ nodeOf ws.length sk
  m0 : e + markOf ws.length sk (sketch (n &&& m) ws) % (8 * 2 ^ ws.length - 1) = 5
  m1 : p + markOf ws.length sk (sketch (n &&& m) ws + 1) % (8 * 2 ^ ws.length - 1) = 5
  e0 : SL sk (sketch (n &&& m) ws) 0 5 = e
  p0 : SR sk (sketch (n &&& m) ws) 0 5 = p
  ep : e ≤ p
  w1 : SL sk (-1) e p = e
  w2 : SR sk (2 ^ ws.length : Nat) e p = p
  w3 : SR sk (-1) p 5 = p
  w4 : SL sk (2 ^ ws.length : Nat) 0 p = p
  hnear : near ∈ (about keys p).map (n ^^^ ·) ∧ ∀ a ∈ (about keys p).map (n ^^^ ·), near ≤ a
  hkb : ∀ k ∈ keys, k < 8192
  z : near = 0 → lt = e ∧ le = p
  o : near ≠ 0 → n / 2 ^ (bits near - 1) % 2 = 1 → SR sk (sketch ((n / 2 ^ (bits near - 1) * 2 ^ (bits near - 1) - 1) &&& m) ws : Nat) p 5 = lt ∧ lt = le ∧ SR sk (sketch ((n / 2 ^ (bits near - 1) * 2 ^ (bits near - 1) - 1) &&& m) ws : Nat) 0 p = p
  v : near ≠ 0 → n / 2 ^ (bits near - 1) % 2 ≠ 1 → SL sk (sketch ((n / 2 ^ (bits near - 1) * 2 ^ (bits near - 1) + 2 ^ (bits near - 1)) &&& m) ws : Nat) 0 p = lt ∧ lt = le ∧ SL sk (sketch ((n / 2 ^ (bits near - 1) * 2 ^ (bits near - 1) + 2 ^ (bits near - 1)) &&& m) ws : Nat) p 5 = p
theorem Tr.neT {C : Cx} {fm : Fm} {ρ : Rho} {σ : Sig} {l r pos} {a b : Int} (hu : fm.A.units + 64 < cLine) (hl : Ev C fm ρ σ l (.tup [.int a, .int b])) (hr : Ev C fm ρ σ r (.tup [.int a, .int b])) (hm : behindInMarks .NotEq r = false := by with_unfolding_all rfl) : Tr C fm ρ σ (.Compare l [.NotEq] [r] pos) false :=
  Tr.neD' hu (flatTup2 a b) hl hr hm
theorem fzA {z s : Nat} (h : s < 2 ^ z) : 2 ^ z + s < 2 ^ (z + 3) := by rw [Nat.pow_add]; omega
theorem fzB (z : Nat) : 1 < 2 ^ (z + 3) := by have := Nat.two_pow_pos z; rw [Nat.pow_add]; omega
theorem fzC {z l : Nat} (hz : z ≤ 13) (hl : l = 5) : (z + 3) * (l + 1) ≤ 128 := by subst hl; omega
theorem fzD {d : Nat} (h : d ∈ [0, 1]) : d ≤ 1 := by simp only [List.mem_cons, List.mem_nil_iff, or_false] at h; omega
theorem fzE {f d z : Nat} (h : f < 2 ^ z) (hz : z ≤ 13) (hd : d ≤ 1) : f + d ≤ 1000000 := by
  have : 2 ^ z ≤ 2 ^ 13 := Nat.pow_le_pow_right (by decide) hz
  have e2 : (2 : Nat) ^ 13 = 8192 := by decide
  omega
theorem fzT {z : Nat} (hz : z ≤ 13) : 1 ≤ 8 * 2 ^ z ∧ ((8 * 2 ^ z - 1 : Nat) : Int).natAbs < 2 ^ 20 ∧ 8 * 2 ^ z - 1 ≠ 0 ∧ ((8 * 2 ^ z - 1 : Nat) : Int) ≠ 0 := by
  have : 2 ^ z ≤ 2 ^ 13 := Nat.pow_le_pow_right (by decide) hz
  have h2 := Nat.two_pow_pos z
  have e1 : (2 : Nat) ^ 20 = 1048576 := by decide
  have e2 : (2 : Nat) ^ 13 = 8192 := by decide
  omega
theorem fzM {m T r : Nat} (h : m % T + r = 5) : (5 : Int) - ((m % T : Nat) : Int) = (r : Nat) := by omega
theorem fzX {n k : Nat} (h1 : n < 10000) (h2 : k < 8192) : n ^^^ k < 2 ^ 14 := Nat.xor_lt_two_pow (by first | assumption | decide | omega) (by first | assumption | decide | omega)
theorem fzNot {n : Nat} (h : n < 10000) : (Builtin.bitNot (n : Int)).natAbs ≤ 20000 := by unfold Builtin.bitNot; omega
theorem fzP {b : Nat} (h : 1 ≤ b) : 2 ^ b / 2 = 2 ^ (b - 1) := by
  have : 2 ^ b = 2 ^ (b - 1) * 2 := by rw [← Nat.pow_succ]; congr 1; omega
  omega
theorem fzQ {a : Nat} (q : ((a : Nat) : Int) = (1 : Nat)) : a = 1 := Int.ofNat.inj q
theorem fzR {a : Nat} (q : ((a : Nat) : Int) ≠ (1 : Nat)) : a ≠ 1 := fun e => q (by rw [e])
theorem fzS {z : Nat} (h : z ≤ 13) : (z + 3) * 5 ≤ 80 := by omega
theorem fzU {p : Nat} : (if (0 : Int) < (p : Int) - 1 then (p : Int) - 1 else 0) = ((p - 1 : Nat) : Int) := by split <;> omega
theorem foundFn {C : Cx} (P : PX C) {F : Ghost} {n m : Nat} {keys sk : List Nat} {ws : List Str} {e p near lt le : Nat} (H : FoundOk n m keys sk ws e p near lt le) : FnS C 130 F (.ref 148) [.int n, lst keys, lst sk, .int m, .list (texts ws)] [] (.tup [.int lt, .int le]) := by
  obtain ⟨fd, D⟩ := P.found
  obtain ⟨pm, cd, doc, rfl⟩ := D.e
  refine FnS.body (d := 129) (I := fun _ => True) (ρ := [(kNumber, .int n), (kKeys, lst keys), (kSk, lst sk), (kMask, .int m), (kWords, .list (texts ws))]) D.d trivial Mono.triv (HB.five (x := kNumber) (y := kKeys) (z := kSk) (p := kMask) (q := kWords) fun v1 v2 v3 v4 v5 s => BindsTo.of_eq rfl) (by simp only [List.map_cons, List.map_nil]; decide) (by simp only [List.map_cons, List.map_nil]; decide +kernel) rfl rfl rfl fun A L q E fs l hq room S => ⟨.ret _ [], rfl, ?_⟩
  have hwz := H.hw
  have rm : Room (A.deeper (fenv (fnScope sFound) L 148 q cd)) 129 := room.deeper
  have hu : A.units + 3 + 64 < cLine := rm.u64
  obtain ⟨z, hz⟩ : ∃ z, z = ws.length := ⟨_, rfl⟩
  have hzz : z ≤ 13 := hz ▸ hwz
  have zM : z ≤ 1000000 := Nat.le_trans hzz (by decide)
  have hw100 : ws.length ≤ 100 := Nat.le_trans hwz (by decide)
  have rmw : Room (A.deeper (fenv (fnScope sFound) L 148 q cd)) (ws.length + 9) := rm.le (Nat.le_trans (Nat.add_le_add_right hwz 9) (by decide))
  have hp2 : 2 ^ z ≤ 2 ^ 13 := Nat.pow_le_pow_right (by decide) hzz
  have h2p : 0 < 2 ^ z := Nat.two_pow_pos z
  -- size
  refine Ex.cons (Es.asg (a := .int (z : Nat)) ((Ev.call (d := 1) (rm.le (by decide)) (by walk_at "ev") (Evs.cons (by walk_at "ev") Evs.nil) Evk.nil fun _ _ _ => ⟨kpB, fnLen (xs := texts ws) (by rw [List.length_map]; exact Nat.le_trans hwz (by decide))⟩).eq (by rw [List.length_map, hz])) (.inr ⟨rfl, by rfl⟩)) ?_
  -- node
  refine Ex.cons (Es.asg (a := .int (nodeOf z sk : Nat)) (Ev.call (d := sk.length + 3) (rm.le (by rw [H.hs]; decide)) (by walk_at "ev") (Evs.cons ((Ev.maps (ρc := [(kSize, .int (z : Nat))]) sk (fun d => .int (d : Nat)) (fun d => .int ((2 ^ z + d : Nat) : Int)) (fun d => [(kOne, .int (d : Nat))]) ((Src.list rm.hd (by walk_at "ev")).eq (by unfold zls; rw [List.map_map]; rfl)) (CScope.of [kSize] (by show csOk (fnScope sFound) _ _ = true; decide +kernel) rfl (Sub.cons (by rfl) Sub.nil)) (fun L cl E => ⟨fun x _ => As.name (.inl (by rfl)), fun d _ σ => Ev.bin (Ev.bin (Ev.int (i := ((1 : Nat) : Int))) (by walk_at "ev") ((BinI.shlN zM (by decide)).eq (by rw [Nat.one_mul]))) (by walk_at "ev") BinI.addN⟩) (fun _ _ => Sub.cons (by rfl) Sub.nil) (by rw [H.hs]; decide)).eq (b := .list (nints (sk.map (2 ^ z + ·)))) (by rw [nints, List.map_map]; rfl)) (Evs.cons (Ev.bin (by walk_at "ev") (Ev.int (i := ((3 : Nat) : Int))) BinI.addN) Evs.nil)) Evk.nil fun F s X => ⟨Def.kp (P.d2i.choose_spec.d) X.ok, ?_⟩) (.inr ⟨rfl, by rfl⟩)) ?_
  · have := d2i P (F := F) (ds := sk.map (2 ^ z + ·)) (n := z + 3) (fun d hd => by
      obtain ⟨s, hs, rfl⟩ := List.mem_map.mp hd
      exact fzA (hz ▸ H.hsb s hs)) (by rw [List.length_map]; exact fzC hzz H.hs) (by rw [List.length_map, H.hs]; decide)
    rw [List.length_map] at this
    exact this
  -- ones
  refine Ex.cons (Es.asg (a := .int (onesOf z : Nat)) (Ev.call (d := 8) (rm.le (by decide)) (by walk_at "ev") (Evs.cons ((Ev.lst (Evs.cons Ev.int (Evs.cons Ev.int (Evs.cons Ev.int (Evs.cons Ev.int (Evs.cons Ev.int Evs.nil)))))).eq (b := .list (nints [1, 1, 1, 1, 1])) rfl) (Evs.cons (Ev.bin (by walk_at "ev") (Ev.int (i := ((3 : Nat) : Int))) BinI.addN) Evs.nil)) Evk.nil fun F s X => ⟨Def.kp (P.d2i.choose_spec.d) X.ok, ?_⟩) (.inr ⟨rfl, by rfl⟩)) ?_
  · exact d2i P (F := F) (ds := [1, 1, 1, 1, 1]) (n := z + 3) (fun d hd => by
      have : d = 1 := by simpa using hd
      rw [this]; exact fzB z) (fzC hzz rfl) (by simp)
  -- first
  obtain ⟨f, hf⟩ : ∃ f, f = sketch (n &&& m) ws := ⟨_, rfl⟩
  have hfl : f < 2 ^ z := by rw [hf, hz]; exact H.hf
  refine Ex.cons (Es.asg (a := .int (f : Nat)) (Ev.call (d := ws.length + 9) rmw (by walk_at "ev") (Evs.cons (by walk_at "ev") (Evs.cons (by walk_at "ev") (Evs.cons (by walk_at "ev") Evs.nil))) Evk.nil fun F s X => ⟨Def.kp (P.sketch.choose_spec.d) X.ok, hf ▸ sketchFn P (Nat.lt_trans H.hn (by decide)) hw100⟩) (.inr ⟨rfl, by rfl⟩)) ?_
  -- marks
  have hle : (f + 1) * onesOf z ≤ nodeOf z sk := by rw [hf, hz]; exact H.hle
  refine Ex.cons (Es.asgMaps (ρc := [(kFirst, .int (f : Nat)), (kNode, .int (nodeOf z sk : Nat)), (kOnes, .int (onesOf z : Nat)), (kSize, .int (z : Nat))]) [0, 1] (fun d : Nat => .int (d : Nat)) (fun d => .int (markOf z sk (f + d) : Nat)) (fun d => [(kMore, .int (d : Nat))]) (Src.tuple rm.hd (Ev.tup (Evs.cons Ev.int (Evs.cons Ev.int Evs.nil)))) (CScope.of [kFirst, kNode, kOnes, kSize] (by show csOk (fnScope sFound) _ _ = true; decide +kernel) rfl (Sub.cons (by rfl) (Sub.cons (by rfl) (Sub.cons (by rfl) (Sub.cons (by rfl) Sub.nil))))) (fun L cl E => ⟨fun x _ => As.name (.inl (by rfl)), fun d hd σ => ?_⟩) (fun _ _ => Sub.cons (by rfl) (Sub.cons (by rfl) (Sub.cons (by rfl) (Sub.cons (by rfl) Sub.nil)))) (by simp) (.inl (by rfl))) ?_
  · have hd1 : d ≤ 1 := fzD hd
    have hm : (f + d) * onesOf z ≤ nodeOf z sk := Nat.le_trans (Nat.mul_le_mul_right _ (Nat.add_le_add_left hd1 _)) hle
    exact Ev.bin (Ev.bin (Ev.bin (by walk_at "ev") (Ev.bin (Ev.bin (by walk_at "ev") (by walk_at "ev") BinI.addN) (by walk_at "ev") (BinI.mulN (fzE hfl hzz hd1))) (BinI.subN hm)) (by walk_at "ev") BinI.shrN) (by walk_at "ev") (BinI.and.eq (by rw [bitAnd_pp (Int.natCast_nonneg _) (Int.natCast_nonneg _)]; rfl))
  -- early, place
  have h5 : ∀ d : Nat, d ∈ [0, 1] → (markOf z sk (f + d) : Nat) % (8 * 2 ^ z - 1) + (if d = 0 then e else p) = 5 := fun d hd => by
    have m0 := H.m0
    have m1 := H.m1
    rw [← hf, ← hz] at m0 m1
    simp only [List.mem_cons, List.mem_nil_iff, or_false] at hd
    rcases hd with rfl | rfl
    · rw [if_pos rfl, Nat.add_zero, Nat.add_comm]; exact m0
    · rw [if_neg (by decide), Nat.add_comm]; exact m1
  refine Ex.cons (Es.asgT (x := .list [.int (e : Nat), .int (p : Nat)]) ((Ev.maps (ρc := [(kSize, .int (z : Nat))]) [0, 1] (fun d : Nat => .int (markOf z sk (f + d) : Nat)) (fun d => .int ((if d = 0 then e else p : Nat) : Int)) (fun d => [(kMark, .int (markOf z sk (f + d) : Nat))]) (Src.list rm.hd (by walk_at "ev")) (CScope.of [kSize] (by show csOk (fnScope sFound) _ _ = true; decide +kernel) rfl (Sub.cons (by rfl) Sub.nil)) (fun L cl E => ⟨fun x _ => As.name (.inl (by rfl)), fun d hd σ => ?_⟩) (fun _ _ => Sub.cons (by rfl) Sub.nil) (by simp)).eq rfl) (As.lst2 rm.hd (Ass.cons (As.name (.inl (by rfl))) (Ass.cons (As.name (.inl (by rfl))) Ass.nil)))) ?_
  · have hml : markOf z sk (f + d) < 2 ^ 80 := Nat.lt_of_lt_of_le (markLt z sk (f + d)) (Nat.pow_le_pow_right (by decide) (fzS hzz))
    have hdb : ((8 * 2 ^ z - 1 : Nat) : Int).natAbs < 2 ^ 20 := (fzT hzz).2.1
    have hdv : BinI .Sub ((8 * 2 ^ z : Nat) : Int) 1 ((8 * 2 ^ z - 1 : Nat) : Int) := BinI.subN (y := 1) (fzT hzz).1
    refine Ev.bin (Ev.int (i := 5)) (Ev.itemT (Ev.call (d := 112) (rm.le (by decide)) (by walk_at "ev") (Evs.cons (by walk_at "ev") (Evs.cons (Ev.bin (Ev.bin (Ev.int (i := ((8 : Nat) : Int))) (by walk_at "ev") (BinI.shlN zM (by decide))) Ev.int hdv) Evs.nil)) Evk.nil fun F s X => ⟨Def.kp (P.divm.choose_spec.d) X.ok, dm P (by simpa using hml) (fzT hzz).2.2.2 hdb⟩) Ev.int (j := 1) (by rfl) (by rfl) (by decide) (by decide)) (BinI.sub.eq ?_)
    have := h5 d hd
    rw [modN (fzT hzz).2.2.1]; exact fzM this
  refine Ex.cons (Es.pass0 (Tr.neT hu (Ev.tup (Evs.cons (by walk_at "ev") (Evs.cons (by walk_at "ev") Evs.nil))) ((Ev.tup (Evs.cons (Ev.call (d := 3) (rm.le (by decide)) (by walk_at "ev") (Evs.cons (by walk_at "ev") (Evs.cons (by walk_at "ev") Evs.nil)) Evk.nil fun F s X => ⟨kpL P X.ok, cL2 P (by rw [H.hs]; decide)⟩) (Evs.cons (Ev.call (d := 3) (rm.le (by decide)) (by walk_at "ev") (Evs.cons (by walk_at "ev") (Evs.cons (by walk_at "ev") Evs.nil)) Evk.nil fun F s X => ⟨kpR P X.ok, cR2 P (by rw [H.hs]; decide)⟩) Evs.nil))).eq (by rw [H.hs, hf, H.e0, H.p0])))) ?_
  -- within
  have hpl : p ≤ 5 := Nat.le_trans (Nat.le_add_right _ _) (Nat.le_of_eq H.m1)
  have hone : BinI .LShift (1 : Int) (z : Int) ((2 ^ z : Nat) : Int) := (BinI.shlN (x := 1) zM (by decide)).eq (by rw [Nat.one_mul])
  have w1 := H.w1
  have w2 := H.w2
  have w3 := H.w3
  have w4 := H.w4
  rw [← hz] at w2 w4
  have hsl := H.hs
  have hs1 : sk.length ≤ 1000 := by rw [hsl]; decide
  have hps : p ≤ sk.length := by rw [hsl]; exact hpl
  refine Ex.cons (Es.asg (a := .tup [.int (e : Nat), .int (p : Nat)]) ((Ev.tup (Evs.cons (Ev.call (d := 3) (rm.le (by decide)) (by walk_at "ev") (Evs.cons (by walk_at "ev") (Evs.cons (Ev.neg Ev.int) (Evs.cons (by walk_at "ev") (Evs.cons (by walk_at "ev") Evs.nil)))) Evk.nil fun F s X => ⟨kpL P X.ok, cL4 P hs1 H.ep hps⟩) (Evs.cons (Ev.call (d := 3) (rm.le (by decide)) (by walk_at "ev") (Evs.cons (by walk_at "ev") (Evs.cons (Ev.bin Ev.int (by walk_at "ev") hone) (Evs.cons (by walk_at "ev") (Evs.cons (by walk_at "ev") Evs.nil)))) Evk.nil fun F s X => ⟨kpR P X.ok, cR4 P hs1 H.ep hps⟩) Evs.nil))).eq (by rw [w1, w2])) (.inl (by rfl))) ?_
  refine Ex.cons (Es.pass0 (Tr.bop (b := false || (false || false)) (Trs.or_cons (Tr.neT hu (by walk_at "ev") (Ev.tup (Evs.cons (by walk_at "ev") (Evs.cons (by walk_at "ev") Evs.nil)))) fun _ => Trs.or_cons (Tr.neT hu (Ev.tup (Evs.cons (by walk_at "ev") (Evs.cons (by walk_at "ev") Evs.nil))) ((Ev.tup (Evs.cons (Ev.call (d := 3) (rm.le (by decide)) (by walk_at "ev") (Evs.cons (by walk_at "ev") (Evs.cons (Ev.neg Ev.int) (Evs.cons (by walk_at "ev") Evs.nil))) Evk.nil fun F s X => ⟨kpR P X.ok, cR3 P hs1 hps⟩) (Evs.cons (Ev.call (d := 3) (rm.le (by decide)) (by walk_at "ev") (Evs.cons (by walk_at "ev") (Evs.cons (Ev.bin Ev.int (by walk_at "ev") hone) (Evs.cons (Ev.int (i := ((0 : Nat) : Int))) (Evs.cons (by walk_at "ev") Evs.nil)))) Evk.nil fun F s X => ⟨kpL P X.ok, cL4 P hs1 (Nat.zero_le _) hps⟩) Evs.nil))).eq (by rw [hsl, w3, w4]))) fun _ => Trs.or_nil))) ?_
  -- near
  have hab : ∀ k ∈ about keys p, k < 8192 := fun k hk => H.hkb k (List.mem_of_mem_drop (List.mem_of_mem_take hk))
  have hnl : near < 2 ^ 14 := by
    obtain ⟨k, hk, e1⟩ := List.mem_map.mp H.hnear.1
    rw [← e1]
    exact fzX H.hn (hab k hk)
  have hmin : IsMin (zls ((about keys p).map (n ^^^ ·))) near := ⟨by
      unfold zls
      exact List.mem_map_of_mem (f := fun d : Nat => (d : Int)) H.hnear.1, fun a ha => by
      obtain ⟨b, hb, rfl⟩ := List.mem_map.mp ha
      have := H.hnear.2 b hb
      omega⟩
  have hkl := H.hk
  refine Ex.cons (Es.asg (a := .int (near : Nat)) (Ev.call (d := 1) (rm.le (by decide)) (by walk_at "ev") (Evs.cons ((Ev.maps (ρc := [(kNumber, .int (n : Nat))]) (about keys p) (fun k => .int (k : Nat)) (fun k => .int ((n ^^^ k : Nat) : Int)) (fun k => [(kKy, .int (k : Nat))]) ((Src.list rm.hd (Ev.slice (by walk_at "ev") (Evp.some ((Ev.call (d := 1) (rm.le (by decide)) (by walk_at "ev") (Evs.cons Ev.int (Evs.cons (Ev.bin (by walk_at "ev") Ev.int BinI.sub) Evs.nil)) Evk.nil fun _ _ _ => ⟨kpB, fnMax2⟩).eq (b := .int ((p - 1 : Nat) : Int)) ?_)) (Evp.some (Ev.bin (by walk_at "ev") (Ev.int (i := ((1 : Nat) : Int))) BinI.addN)) ?_)).eq ?_) (CScope.of [kNumber] (by show csOk (fnScope sFound) _ _ = true; decide +kernel) rfl (Sub.cons (by rfl) Sub.nil)) (fun L cl E => ⟨fun x _ => As.name (.inl (by rfl)), fun k hk σ => Ev.bin (by walk_at "ev") (by walk_at "ev") (BinI.xor.eq (bitXor_nn n k))⟩) (fun _ _ => Sub.cons (by rfl) Sub.nil) ?_).eq (b := .list ((zls ((about keys p).map (n ^^^ ·))).map .int)) (by unfold zls; rw [List.map_map, List.map_map]; rfl)) Evs.nil) Evk.nil fun _ _ _ => ⟨kpB, fnMin hmin⟩) (.inl (by rfl))) ?_
  · congr 1; first | exact fzU | (split <;> omega)
  · rw [List.length_map, zls_len, hkl]; decide
  · unfold about zls; rw [List.map_map, slc_map]; rfl
  · have : (about keys p).length ≤ keys.length := by unfold about slc; rw [List.length_take, List.length_drop]; omega
    omega
  -- top
  have hbl : bits near ≤ 14 := bits_le near 14 hnl
  obtain ⟨t, ht⟩ : ∃ t, t = 2 ^ bits near / 2 := ⟨_, rfl⟩
  refine Ex.cons (Es.asg (a := .int (t : Nat)) ((Ev.bin (Ev.bin Ev.int ((Ev.bits (by walk_at "ev")).eq (b := .int ((bits near : Nat) : Int)) (by rw [intBits_nat])) ((BinI.shlN (x := 1) (Nat.le_trans hbl (by decide)) (by decide)).eq (c' := ((2 ^ bits near : Nat) : Int)) (by rw [Nat.one_mul]))) (Ev.int (i := ((1 : Nat) : Int))) BinI.shrN).eq (by rw [ht])) (.inl (by rfl))) ?_
  by_cases hn0 : near = 0
  · -- the number is a key
    obtain ⟨r1, r2⟩ := H.z hn0
    subst r1 r2
    have ht0 : t = 0 := by rw [ht, hn0]; decide
    subst ht0
    refine Ex.head (Es.tryN (A := A) (o₁ := .ret _ []) (xa := (· = [])) S rfl rfl
      (Ex.head (Es.asgTX (EvX.call (A := A) (d := 3) (rm.le (by decide)) S rfl rfl (by walk_at "ev") (Evs.cons (by walk_at "ev") (Evs.cons (by walk_at "ev") Evs.nil)) Evk.nil fun F s X => ⟨Def.kp (P.divm.choose_spec.d) X.ok, dm0 P⟩)))
      (by rfl) (PX.gl P _ _ (by rfl)) (by decide) PySem.F.isExc_ZeroDivisionError PySem.F.notTuple_ZeroDivisionError subZD (by rfl) (fun ex args hxa => ?_) (.inr ⟨_, _, rfl, rfl⟩))
    refine Ex.head (Es.ret (Ev.ife (b := true && (true && true)) (Tr.bop (Trs.and_cons (Tr.cmp (by walk_at "ev") Ev.int CmpI.eq) fun _ => Trs.and_cons (Tr.eqS (Ev.strExc0 PySem.F.excStr_ZeroDivisionError (Nat.lt_of_le_of_lt (Nat.add_le_add_left (by decide) _) hu) (fun F q => hxa ▸ q.2) (by walk_at "ev") (by walk_at "ev")) (Ev.str.eq (by rfl))) fun _ => Trs.and_nil)) (fun _ => Ev.tup (Evs.cons (by walk_at "ev") (Evs.cons (by walk_at "ev") Evs.nil))) fun q => nomatch q))
  -- it is none
  have hb1 : 1 ≤ bits near := bits_pos (Nat.pos_of_ne_zero hn0)
  have ht1 : t = 2 ^ (bits near - 1) := by
    rw [ht]; exact fzP hb1
  have htp : 0 < t := ht1 ▸ Nat.two_pow_pos _
  have tN : t ≠ 0 := Nat.pos_iff_ne_zero.mp htp
  have tI : (t : Int) ≠ 0 := fun e => tN (Int.ofNat_eq_zero.mp e)
  have tnI : -(t : Int) ≠ 0 := fun e => tI (Int.neg_eq_zero.mp e)
  have ht14 : t ≤ 8192 := by
    rw [ht1]
    exact Nat.le_trans (Nat.pow_le_pow_right (by decide) (show bits near - 1 ≤ 13 from Nat.sub_le_of_le_add hbl)) (by decide)
  have hnl2 := H.hn
  have tM : t ≤ 1000000 := Nat.le_trans ht14 (by decide)
  have hbig : ∀ x : Int, x.natAbs ≤ 20000 → x.natAbs < 2 ^ 80 := fun x hx => Nat.lt_of_le_of_lt hx (by decide)
  have htb : ∀ x : Int, x.natAbs = t → x.natAbs < 2 ^ 20 := fun x hx => by rw [hx]; exact Nat.lt_of_le_of_lt ht14 (by decide)
  have hodd := H.o hn0
  have heven := H.v hn0
  rw [← ht1] at hodd heven
  obtain ⟨d1, d2⟩ := divNot (n := n) htp
  obtain ⟨d3, d4⟩ := divOpp (n := n) htp
  obtain ⟨d5, d6⟩ := divBoth (n := n) htp
  refine Ex.cons (Es.tryOk (Ex.one (Es.asgT (x := .tup [.int (n / t : Nat), .int (n % t : Nat)]) ((Ev.call (d := 112) (rm.le (by decide)) (by walk_at "ev") (Evs.cons (by walk_at "ev") (Evs.cons (by walk_at "ev") Evs.nil)) Evk.nil fun F s X => ⟨Def.kp (P.divm.choose_spec.d) X.ok, dm P (hbig (n : Int) (show n ≤ 20000 from Nat.le_trans (Nat.le_of_lt hnl2) (by decide))) tI (htb _ rfl)⟩).eq (by rw [fdivN, modN tN])) (As.tup rm.hd (Ass.cons (As.name (.inl (by rfl))) (Ass.cons (As.name (.inl (by rfl))) Ass.nil)))))) ?_
  refine Ex.cons (Es.pass0 (Tr.bop (b := false || (false || false)) (Trs.or_cons (Tr.eq (Tr.cmp (by walk_at "ev") Ev.int CmpI.eq) (by simp; omega)) fun _ => Trs.or_cons (Tr.neT hu (Ev.tup (Evs.cons (by walk_at "ev") (Evs.cons (by walk_at "ev") Evs.nil))) (Ev.tup (Evs.cons (Ev.bin (by walk_at "ev") (by walk_at "ev") (divN tN tM)) (Evs.cons (Ev.bin (by walk_at "ev") (by walk_at "ev") ((BinI.mod tI).eq (modN tN))) Evs.nil)))) fun _ => Trs.or_nil))) ?_
  have cdm : ∀ (F : Ghost) (a b : Int), a.natAbs ≤ 20000 → b.natAbs = t → Fn C 112 F (.ref 92) [.int a, .int b] [] (.tup [.int (a.fdiv b), .int (a.fmod b)]) := fun F a b h1 h2 => dm P (hbig a h1) (fun e => tN (by rw [← h2, e]; rfl)) (htb b h2)
  have hn1b : ((n : Int) + 1).natAbs ≤ 20000 := show n + 1 ≤ 20000 from Nat.le_trans hnl2 (by decide)
  have hnb : (Builtin.bitNot (n : Int)).natAbs ≤ 20000 := fzNot hnl2
  refine Ex.cons (Es.pass0 (Tr.bop (b := false || (false || (false || false))) (Trs.or_cons (Tr.neT hu ((Ev.call (d := 112) (rm.le (by decide)) (by walk_at "ev") (Evs.cons (Ev.inv (by walk_at "ev")) (Evs.cons (by walk_at "ev") Evs.nil)) Evk.nil fun F s X => ⟨Def.kp (P.divm.choose_spec.d) X.ok, cdm F _ _ hnb rfl⟩).eq (by rw [d1, d2])) (Ev.tup (Evs.cons (Ev.inv (by walk_at "ev")) (Evs.cons (Ev.bin (by walk_at "ev") (Ev.inv (by walk_at "ev")) BinI.add) Evs.nil)))) fun _ => Trs.or_cons (Tr.neT hu ((Ev.call (d := 112) (rm.le (by decide)) (by walk_at "ev") (Evs.cons (Ev.bin (by walk_at "ev") Ev.int BinI.add) (Evs.cons (Ev.neg (by walk_at "ev")) Evs.nil)) Evk.nil fun F s X => ⟨Def.kp (P.divm.choose_spec.d) X.ok, cdm F _ _ hn1b (Int.natAbs_neg _)⟩).eq (by rw [d3, d4])) (Ev.tup (Evs.cons (Ev.inv (by walk_at "ev")) (Evs.cons (Ev.bin (Ev.bin (by walk_at "ev") Ev.int BinI.add) (by walk_at "ev") BinI.sub) Evs.nil)))) fun _ => Trs.or_cons (Tr.neT hu ((Ev.call (d := 112) (rm.le (by decide)) (by walk_at "ev") (Evs.cons (Ev.inv (by walk_at "ev")) (Evs.cons (Ev.neg (by walk_at "ev")) Evs.nil)) Evk.nil fun F s X => ⟨Def.kp (P.divm.choose_spec.d) X.ok, cdm F _ _ hnb (Int.natAbs_neg _)⟩).eq (by rw [d5, d6])) (Ev.tup (Evs.cons (Ev.bin (Ev.bin (by walk_at "ev") (Ev.int (i := ((1 : Nat) : Int))) BinI.addN) (by walk_at "ev") (divN tN tM)) (Evs.cons (Ev.neg (Ev.bin (Ev.bin (by walk_at "ev") (Ev.int (i := ((1 : Nat) : Int))) BinI.addN) (by walk_at "ev") ((BinI.mod tI).eq (modN tN)))) Evs.nil)))) fun _ => Trs.or_nil))) ?_
  refine Ex.cons (ρ' := [(kSpots, .tup [.int (lt : Nat), .int (p : Nat)]), (kPlac, .int (p : Nat))]) (σ' := []) (Es.ite (Tr.cmp (Ev.bin (by walk_at "ev") (Ev.int (i := ((2 : Nat) : Int))) ((BinI.mod (by decide)).eq (modN (by decide)))) (Ev.int (i := ((1 : Nat) : Int))) CmpI.eq) (fun q => ?_) fun q => ?_) ?_
  · have hq : n / t % 2 = 1 := fzQ (eq_of_beq q)
    obtain ⟨o1, o2, o3⟩ := hodd hq
    have hh : 1 ≤ n / t := by
      rcases Nat.eq_zero_or_pos (n / t) with h | h
      · rw [h] at hq; cases hq
      · exact h
    have hpos : 1 ≤ n / t * t := Nat.le_trans (Nat.mul_le_mul hh htp) (Nat.le_refl _)
    have hle2 : n / t * t ≤ n := Nat.div_mul_le_self n t
    refine Ex.cons (Es.asg (Ev.call (d := ws.length + 9) rmw (by walk_at "ev") (Evs.cons (Ev.bin (Ev.bin (by walk_at "ev") (by walk_at "ev") (BinI.mulN (Nat.le_trans (Nat.div_le_self n t) (Nat.le_trans (Nat.le_of_lt hnl2) (by decide))))) (Ev.int (i := ((1 : Nat) : Int))) (BinI.subN hpos)) (Evs.cons (by walk_at "ev") (Evs.cons (by walk_at "ev") Evs.nil))) Evk.nil fun F s X => ⟨Def.kp (P.sketch.choose_spec.d) X.ok, sketchFn P (Nat.lt_of_le_of_lt (Nat.le_trans (Nat.sub_le _ _) hle2) (Nat.lt_trans hnl2 (by decide))) hw100⟩) (.inl (by rfl))) ?_
    refine Ex.fgt (Ex.one (Es.asg (a := .tup [.int (lt : Nat), .int (p : Nat)]) ((Ev.tup (Evs.cons (Ev.call (d := 3) (rm.le (by decide)) (by walk_at "ev") (Evs.cons (by walk_at "ev") (Evs.cons (by walk_at "ev") (Evs.cons (by walk_at "ev") Evs.nil))) Evk.nil fun F s X => ⟨kpR P X.ok, cR3 P hs1 hps⟩) (Evs.cons (Ev.call (d := 3) (rm.le (by decide)) (by walk_at "ev") (Evs.cons (by walk_at "ev") (Evs.cons (by walk_at "ev") (Evs.cons (Ev.int (i := ((0 : Nat) : Int))) (Evs.cons (by walk_at "ev") Evs.nil)))) Evk.nil fun F s X => ⟨kpR P X.ok, cR4 P hs1 (Nat.zero_le _) hps⟩) Evs.nil))).eq (by rw [hsl, o1, o3])) (.inl (by rfl)))) (Sub.cons (by rfl) (Sub.cons (by rfl) Sub.nil))
  · have hq : n / t % 2 ≠ 1 := fzR (ne_of_beq_false q)
    obtain ⟨o1, o2, o3⟩ := heven hq
    have hle2 : n / t * t ≤ n := Nat.div_mul_le_self n t
    refine Ex.cons (Es.asg (Ev.call (d := ws.length + 9) rmw (by walk_at "ev") (Evs.cons (Ev.bin (Ev.bin (by walk_at "ev") (by walk_at "ev") (BinI.mulN (Nat.le_trans (Nat.div_le_self n t) (Nat.le_trans (Nat.le_of_lt hnl2) (by decide))))) (by walk_at "ev") BinI.addN) (Evs.cons (by walk_at "ev") (Evs.cons (by walk_at "ev") Evs.nil))) Evk.nil fun F s X => ⟨Def.kp (P.sketch.choose_spec.d) X.ok, sketchFn P (Nat.lt_of_le_of_lt (Nat.add_le_add (Nat.le_trans hle2 (Nat.le_of_lt hnl2)) ht14) (by decide)) hw100⟩) (.inl (by rfl))) ?_
    refine Ex.fgt (Ex.one (Es.asg (a := .tup [.int (lt : Nat), .int (p : Nat)]) ((Ev.tup (Evs.cons (Ev.call (d := 3) (rm.le (by decide)) (by walk_at "ev") (Evs.cons (by walk_at "ev") (Evs.cons (by walk_at "ev") (Evs.cons (Ev.int (i := ((0 : Nat) : Int))) (Evs.cons (by walk_at "ev") Evs.nil)))) Evk.nil fun F s X => ⟨kpL P X.ok, cL4 P hs1 (Nat.zero_le _) hps⟩) (Evs.cons (Ev.call (d := 3) (rm.le (by decide)) (by walk_at "ev") (Evs.cons (by walk_at "ev") (Evs.cons (by walk_at "ev") (Evs.cons (by walk_at "ev") Evs.nil))) Evk.nil fun F s X => ⟨kpL P X.ok, cL3 P hs1 hps⟩) Evs.nil))).eq (by rw [hsl, o1, o3])) (.inl (by rfl)))) (Sub.cons (by rfl) (Sub.cons (by rfl) Sub.nil))
  have hll : le = lt := by
    by_cases hq : n / t % 2 = 1
    · exact (hodd hq).2.1.symm
    · exact (heven hq).2.1.symm
  subst hll
  exact Ex.head (Es.ret (Ev.ife (b := true) (Tr.eq (Tr.cmp (Ev.itemT (by walk_at "ev") Ev.int (j := 1) (by rfl) (by rfl) (by decide) (by decide)) (by walk_at "ev") CmpI.eq) (by simp)) (fun _ => Ev.tup (Evs.cons (Ev.itemT (by walk_at "ev") Ev.int (j := 0) (by rfl) (by rfl) (by decide) (by decide)) (Evs.cons (Ev.itemT (by walk_at "ev") Ev.int (j := 0) (by rfl) (by rfl) (by decide) (by decide)) Evs.nil))) fun q => nomatch q))
section
variable {C : Cx} {fm : Fm} {ρ ρ' : Rho} {σ σ' : Sig} {F F' : Ghost} {s s' : Shared}
section
variable {prog : Program} {w : World} {A : Around} {E : Value → Shared → Prop} {b : Array UInt8} {t : Tok} {it : Addr} {i : Nat}
theorem callNext {c : UInt8} {Q : Value → Shared → Prop} (hit : KBw.IsBytesIter s.heap it b t i) (hx : b[i]? = some c)
    (hQ : ∀ h', KBw.IsBytesIter h' it b t (i + 1) → Heap.SameBut it s.heap h' → Q (.int (c.toNat : Int) s.toks) { s with heap := h', toks := s.toks + 1 }) : wpAny (model prog w) A (call (.builtin "next") [.ref it]) Q E s := by
  obtain ⟨o, ho, hc, hd⟩ := id hit
  refine PySem.Calls.call_function_entry (by decide +kernel) (by decide +kernel) kdk_entry_next (kdk_args_next _) ?_
  unfold Builtin.«next»
  refine wpAny_bind (m := someArgs "next" 1 2 _) (wpAny_of_eq (a := [Value.ref it]) (by first | rfl | kernel_rfl!) ?_)
  dsimp only
  refine wpAny_bind (wpAny_specialOf (name := Str.ofString "__next__") (KBw.iter_typeIs hit) KBw.slot_next.lookup ?_)
  refine wpAny_ite_split (fun hab => absurd hab (by decide)) (fun _ => ?_)
  refine wpAny_bind (wpAny_callSpecial?_slot (name := Str.ofString "__next__") (KBw.iter_typeIs hit) KBw.slot_next
    (wpAny_call_entry KBw.slot_next (KBw.iter_typeIs hit) KBw.entry_next ?_ (KBw.args_next _)))
  show wpAny _ _ (field (.ref it) 0 >>= _) _ _ s
  refine wpAny_bind (wpAny_field ho hd (x := .bytes b t) rfl ?_)
  show wpAny _ _ (if (Value.bytes b t == Value.none) = true then _ else _) _ _ s
  rw [if_neg (show ¬ ((Value.bytes b t == Value.none) = true) from Bool.false_ne_true)]
  show wpAny _ _ (field (.ref it) 1 >>= _) _ _ s
  refine wpAny_bind (wpAny_field ho hd (x := .int i 0) rfl ?_)
  refine wpAny_bind (wpAny_of_eq (a := b) rfl ?_)
  simp only [Int.toNat_natCast, hx]
  refine wpAny_bind (wpAny_setField ho hd (by simp) (wpAny_bind (wpAny_mkInt (wpAny_pure ⟨_, rfl, wpAny_pure ⟨_, rfl, hQ _ ?_ (Heap.SameBut.update ..)⟩⟩))))
  exact ⟨_, Heap.get?_update_self _ ho (Obj.isFreed_of_fields (Obj.data_mapFields hd _)), (Obj.cls_mapFields ..).trans hc, by
    rw [Obj.data_mapFields hd]; simp [rawInt]⟩
theorem callStop {Q : Value → Shared → Prop} (hh : A.handled = none) (hit : KBw.IsBytesIter s.heap it b t i) (hx : b[i]? = none)
    (hE : ∀ h₀ h' e, Heap.SameBut it s.heap h₀ → (∃ o vs, h₀.get? it = some o ∧ o.data = .fields vs) → Heap.MadeExcOf h₀ h' e (.type "StopIteration") [] → E (.ref e) { s with heap := h' }) : wpAny (model prog w) A (call (.builtin "next") [.ref it]) Q E s := by
  obtain ⟨o, ho, hc, hd⟩ := id hit
  refine PySem.Calls.call_function_entry (by decide +kernel) (by decide +kernel) kdk_entry_next (kdk_args_next _) ?_
  unfold Builtin.«next»
  refine wpAny_bind (m := someArgs "next" 1 2 _) (wpAny_of_eq (a := [Value.ref it]) (by first | rfl | kernel_rfl!) ?_)
  dsimp only
  refine wpAny_bind (wpAny_specialOf (name := Str.ofString "__next__") (KBw.iter_typeIs hit) KBw.slot_next.lookup ?_)
  refine wpAny_ite_split (fun hab => absurd hab (by decide)) (fun _ => ?_)
  refine wpAny_bind (wpAny_callSpecial?_slot (name := Str.ofString "__next__") (KBw.iter_typeIs hit) KBw.slot_next
    (wpAny_call_entry KBw.slot_next (KBw.iter_typeIs hit) KBw.entry_next ?_ (KBw.args_next _)))
  show wpAny _ _ (field (.ref it) 0 >>= _) _ _ s
  refine wpAny_bind (wpAny_field ho hd (x := .bytes b t) rfl ?_)
  show wpAny _ _ (if (Value.bytes b t == Value.none) = true then _ else _) _ _ s
  rw [if_neg (show ¬ ((Value.bytes b t == Value.none) = true) from Bool.false_ne_true)]
  show wpAny _ _ (field (.ref it) 1 >>= _) _ _ s
  refine wpAny_bind (wpAny_field ho hd (x := .int i 0) rfl ?_)
  refine wpAny_bind (wpAny_of_eq (a := b) rfl ?_)
  simp only [Int.toNat_natCast, hx]
  refine wpAny_bind (wpAny_rule (wpAny_bind (wpAny_setField ho hd (by simp) ?_)))
  show wpAny _ _ (newExc (.type "StopIteration") [] >>= _) _ _ _
  refine wpAny_bind ?_
  simp only [newExc, newTuple]
  refine wpAny_bind (wpAny_newObj_type ?_ (by size_fits))
  refine wpAny_bind (m := firstArgMember _ _) (wpAny_of_eq (a := Value.none) (by first | rfl | (simp only [firstArgMember]; rfl)) ?_)
  refine wpAny_newObj_type ?_ (by size_fits)
  simp only [raiseNew]
  refine wpAny_bind (wpAny_handled ?_)
  first | rw [show A.in1.in1.handled = none from hh] | rw [show A.in1.handled = none from hh] | rw [hh]
  refine wpAny_bind (wpAny_pure (wpAny_throw ?_))
  refine hE _ _ _ (Heap.SameBut.update ..) ⟨_, _, Heap.get?_update_self _ ho (Obj.isFreed_of_fields (Obj.data_mapFields hd _)), Obj.data_mapFields hd _⟩ ⟨fun b o e => Heap.get?_push_of_some _ (Heap.get?_push_of_some _ e), ?_, _, Heap.get?_push_size _ rfl, dead_top _, ?_⟩
  · exact Heap.get?_none_of_le (by simp)
  · exact Heap.get?_push_of_some _ (Heap.get?_push_size _ rfl)
end
/- bytes' iterator -/
noncomputable def BIt (b : Array UInt8) (i : Nat) : MO := .obj (fun F o => o.cls = .type "bytes_iterator" ∧ ∃ t, o.data = .fields #[.bytes b t, .int i 0]) fun _ _ _ _ q => q
/- an object of which nothing is told -/
noncomputable def AnyO : MO := .obj (fun _ _ => True) fun _ _ _ _ q => q
theorem BIt.open {it : Addr} {b : Array UInt8} {i : Nat} (h : MOk F s.heap it (BIt b i)) : ∃ t, KBw.IsBytesIter s.heap it b t i := by
  obtain ⟨o, ho, _, hc, t, hd⟩ := h
  exact ⟨t, o, ho, hc, hd⟩
theorem BIt.mk {h : Heap} {it : Addr} {b : Array UInt8} {t : Tok} {i : Nat} (x : KBw.IsBytesIter h it b t i) : MOk F h it (BIt b i) := let ⟨o, ho, hc, hd⟩ := x; ⟨o, ho, IsDc.fields hd, hc, t, hd⟩
/- what comes next -/
theorem EvM.next {x y : Str} {px py pos : Pos} {it : Addr} {b : Array UInt8} {i : Nat} {c : UInt8} (hf : Ev C fm ρ σ (.Name x px) (.val (.builtin "next"))) (hy : Ev C fm ρ σ (.Name y py) (.val (.ref it))) (u : Upd σ it (BIt b i) (BIt b (i + 1)) σ') (hc : b[i]? = some c) :
    EvM C fm ρ σ (.Call (.Name x px) [.Name y py] [] pos) (.int (c.toNat : Nat)) σ' := ⟨fun F s X =>
  evCall X hf (Evs.cons hy Evs.nil) (.inl ⟨_, rfl⟩) (fun F₁ s₁ vs g₁ r₁ => by
    obtain ⟨v, r', rfl, rv, rn⟩ := r₁.ocons
    obtain rfl := rn.onil
    obtain rfl := rv.oval
    have X₁ := X.grow g₁
    obtain ⟨hm, hn, hT, _⟩ := X₁.mu _ u.mem
    obtain ⟨t, hit⟩ := BIt.open hm
    refine callNext hit hc fun h' hit' hs => ?_
    have g2 : Gr C (fun b => b ≠ it) F₁ s₁ F₁ { s₁ with heap := h', toks := s₁.toks + 1 } := Gr.weak (fun a (h : a ≠ it) (q : a ∈ [it]) => h (List.mem_singleton.mp q)) (Gr.one (l := it) (n := s₁.toks + 1) g₁.ok hn hT fun b o hb e => hs.extBut b o hb e)
    obtain ⟨X₂, g3⟩ := X₁.upd u g2 (BIt.mk hit') hn
    exact ⟨F₁, g₁.any.trans g3, X₂, rInt⟩) rfl⟩
theorem Es.asgM {x : Str} {px : Pos} {e : Expr} {pos : Pos} {a : AV} (he : EvM C fm ρ σ e a σ') (hk : Sto fm x) (hs : swapsWith e (some (.Name x px)) pos.line fm.env = pure false := by rfl) : Es C fm ρ σ (.Assign [.Name x px] e pos) (.nxt ((x, a) :: ρ) σ') := ⟨fun F s X =>
  wpAny_Assign_Name (wpAny_mono (he.h F s X) (fun v s₁ ⟨F₁, g₁, X₁, r₁⟩ => X₁.stor hk r₁ fun s₂ g₂ X₂ => ⟨F₁, g₁.trans g₂, rfl, X₂⟩) fun _ _ q => q.elim) hs⟩
/- nothing comes next -/
theorem Es.asgStop {x y z : Str} {px py pz p pos : Pos} {it : Addr} {b : Array UInt8} {i : Nat} {fs : List Addr} {l : List Env} (hh : fm.A.handled = none) (hf : Ev C fm ρ σ (.Name x px) (.val (.builtin "next"))) (hy : Ev C fm ρ σ (.Name y py) (.val (.ref it))) (u : Upd σ it (BIt b i) AnyO σ') (hc : b[i]? = none)
    (hs : swapsWith (.Call (.Name x px) [.Name y py] [] p) (some (.Name z pz)) pos.line fm.env = pure false := by rfl) : Es C fm ρ σ (.Assign [.Name z pz] (.Call (.Name x px) [.Name y py] [] p) pos) (.rse (Lands C fm ρ σ' fs l (.type "StopIteration") (· = []))) := ⟨fun F s X => by
  refine wpAny_Assign_Name (Q := OutQ C fm F s (.rse (Lands C fm ρ σ' fs l (.type "StopIteration") (· = [])))) ?_ hs
  refine wpAny_Call_Name_kw (wpAny_mono (hf.h F s X) (fun v s₁ ⟨F₁, g₁, r₁⟩ => ?_) fun _ _ q => q.elim)
  obtain rfl := r₁.oval
  have X₁ := X.grow g₁
  have hk' := kwAll (kws := []) (pos := p) (env := fm.env) rfl
  have hpl : Plain [.Name y py] fm.env := rfl
  refine callWith_any (backTo_any hpl) hk'.2 (evalArgs_any hpl hk'.1 (wpAny_mono ((Evs.cons hy Evs.nil).h F₁ s₁ p X₁) (fun vs s₂ ⟨F₂, g₂, r₂⟩ => ?_) fun _ _ q => q.elim))
  refine evalAll_nil ⟨⟨F₂, g₂.ok, .inl ⟨_, rfl⟩⟩, ?_⟩
  obtain ⟨v, r', rfl, rv, rn⟩ := r₂.ocons
  obtain rfl := rn.onil
  obtain rfl := rv.oval
  have X₂ := X₁.grow g₂
  obtain ⟨hm, hn, hT, _⟩ := X₂.mu _ u.mem
  obtain ⟨t, hit⟩ := BIt.open hm
  refine callStop hh hit hc fun h₀ h' e hs0 ⟨o, ws, ho, hd⟩ hx => ?_
  have g3 : Gr C (fun b => b ≠ it) F₂ s₂ F₂ { s₂ with heap := h₀ } := Gr.weak (fun a (h : a ≠ it) (q : a ∈ [it]) => h (List.mem_singleton.mp q)) (Gr.one (l := it) (n := s₂.toks) g₂.ok hn hT fun b o hb e => hs0.extBut b o hb e)
  obtain ⟨X₃, g4⟩ := X₂.upd u g3 ⟨o, ho, IsDc.fields hd, trivial⟩ hn
  exact ⟨_, rfl, F₂, { s₂ with heap := h₀ }, (g₁.trans g₂).any.trans g4, X₃, e, [], rfl, rfl, .inl ⟨h', rfl, hx⟩⟩⟩
/- a name takes a new object -/
structure EvO (C : Cx) (fm : Fm) (ρ : Rho) (σ : Sig) (e : Expr) (o : MO) : Prop where
  of ::
  h : ∀ F s, St C fm ρ σ F s → wpAny C.M fm.A (eval e fm.env) (fun v s' => ∃ l F', v = .ref l ∧ Grow C F s F' s' ∧ s.heap.get? l = none ∧ F' l = none ∧ MOk F' s'.heap l o) (fun _ _ => False) s
theorem Ex.newO {out : Out} {x : Str} {px : Pos} {e : Expr} {pos : Pos} {ss : List Stmt} {o : MO} (he : EvO C fm ρ σ e o) (hk : Sto fm x) (h : ∀ l, ¬ fm.E l → Ex C fm ((x, .val (.ref l)) :: ρ) ((l, o) :: σ) ss out)
    (hs : swapsWith e (some (.Name x px)) pos.line fm.env = pure false := by rfl) : Ex C fm ρ σ (.Assign [.Name x px] e pos :: ss) out := ⟨fun F s X =>
  wpAny_execs_cons (wpAny_Assign_Name (wpAny_mono (he.h F s X) (fun v s₁ ⟨l, F₁, e, g₁, hd, hn, hm⟩ => by
    subst e
    have hE : ¬ fm.E l := fun q => by obtain ⟨o, e⟩ := X.base l q; rw [hd] at e; cases e
    have X₁ : St C fm ρ ([(l, o)] ++ σ) F₁ s₁ := X.join g₁ (sig1 hm hn) (fun p hp => by rw [List.mem_singleton] at hp; subst hp; exact hd) (by simp)
    exact X₁.stor hk rVal fun s₂ g₂ X₂ => wpAny_mono ((h l hE).h F₁ s₂ X₂) (fun _ _ q => q.pre (g₁.any.trans g₂)) fun _ _ q => q.pre (g₁.any.trans g₂)) fun _ _ q => q.elim) hs)⟩
/- the octets of a list, an iterator over them -/
noncomputable def octs (ds : List Nat) : Array UInt8 := ((zls ds).map fun n => n.toNat.toUInt8).toArray
theorem fnBytes {d : Nat} {ds : List Nat} (hr : ∀ n ∈ ds, n < 256) (hz : ds.length ≤ 1000000) : Fn C d F (.type "bytes") [lst ds] [] (.byt (octs ds)) := Fn.bi fun F s A vals Q E ok room r h => by
  obtain ⟨v, r', rfl, rv, rn⟩ := r.ocons
  obtain rfl := rn.onil
  obtain ⟨l, vs, rfl, hq, hr'⟩ := rv.olst
  refine call_bytes_ints (hq.lst ok) hr'.ints (fun n hn => ?_) ?_ room.hd fun h' t k hk => h _ _ F (Grow.hk ok hk) rByt
  · obtain ⟨d, hd, rfl⟩ := List.mem_map.mp hn
    have := hr d hd; omega
  · rw [← hr'.length, List.length_map, zls_len]; exact sizeLine_ge hz
theorem EvO.iter {x : Str} {px pos : Pos} {e : Expr} {b : Array UInt8} (hf : Ev C fm ρ σ (.Name x px) (.val (.builtin "iter"))) (he : Ev C fm ρ σ e (.byt b)) (hpl : Plain [e] fm.env := by rfl) (hst : starEach [e] fm.env = [(false, eval e fm.env)] := by rfl) : EvO C fm ρ σ (.Call (.Name x px) [e] [] pos) (BIt b 0) := ⟨fun F s X =>
  evCall X hf (Evs.cons he Evs.nil (by rw [hst]; rfl)) (.inl ⟨_, rfl⟩) (fun F₁ s₁ vs g₁ r₁ => by
    obtain ⟨v, r', rfl, rv, rn⟩ := r₁.ocons
    obtain rfl := rn.onil
    obtain ⟨t, rfl⟩ := rv.obyt
    refine PySem.Calls.call_function_entry (by decide +kernel) (by decide +kernel) kdk_entry_iter (kdk_args_iter _) ?_
    unfold Builtin.«iter»
    refine wpAny_bind (m := someArgs "iter" 1 2 _) (wpAny_of_eq (a := [Value.bytes b t]) (by first | rfl | kernel_rfl!) ?_)
    show wpAny _ _ (pyIter (.bytes b t) >>= _) _ _ _
    refine wpAny_bind (KBw.pyIter_bytes (wpAny_pure ⟨_, rfl, s₁.heap.objs.size, F₁, rfl, g₁.trans (Grow.heap g₁.ok fun b o e => Heap.get?_push_of_some _ e), g₁.dead (dead_top _), g₁.ok.none_of_dead (dead_top _), ?_⟩))
    exact ⟨_, Heap.get?_push_size _ rfl, IsDc.fields rfl, rfl, t, rfl⟩) hpl⟩
end
section
variable {C : Cx} {fm : Fm} {ρ ρ' ρ₁ ρf : Rho} {σ σ' σ₁ τ ω : Sig} {F F' F'' : Ghost} {s s' s'' : Shared} {out : Out} {fs Xs : List Addr} {l : List Env} {e t : Addr} {base : Heap} {cls : Value} {args : List Value} {xa : List Value → Prop}
theorem St.perm (X : St C fm ρ σ F s) (h : σ'.Perm σ) : St C fm ρ σ' F s := { X with mu := fun p hp => X.mu p (h.subset hp), mud := (h.map _).nodup_iff.mpr X.mud }
/- what a call raises that has written some objects of its caller's -/
structure FnXW (C : Cx) (d : Nat) (F : Ghost) (f : Value) (args : List AV) (kw : Rho) (ω : Sig) (cls : Value) (xa : List Value → Prop) : Prop where
  of ::
  h : ∀ F₁ s A l fs vals kvs, GLe F F₁ → Ok C F₁ s → Room A d → Stk A fs l → (∀ L ∈ fs, FrOk C F₁ s L ∧ L ∉ ω.map (·.1)) → Reps F₁ args vals → Binds F₁ kw kvs → SigOk F₁ s ω → (∀ p ∈ ω, p.1 ∉ C.T) →
    wpAny C.M A (call f vals kvs) (fun _ _ => False) (fun v s' => ∃ F' e t base xs, v = .ref e ∧ xa xs ∧ Fly C F₁ s (ω.map (·.1)) fs l F' s' e t base cls xs) s
theorem Fly.preX {L : Addr} {F₂ F₃ : Ghost} {s₂ s₃ : Shared} (g : Gr C (fun b => b ∉ Xs) F s F₂ s₂) (hlive : ∀ b, (∃ o, s.heap.get? b = some o) → ∃ o, s₂.heap.get? b = some o) (hfs : ∀ M ∈ fs, M ∉ C.T ∧ M ∉ Xs) (hd : s.heap.get? L = none) (x : Fly C F₂ s₂ [] (L :: fs) l F₃ s₃ e t base cls args) :
    Fly C F s Xs fs l F₃ s₃ e t base cls args := by
  have dead : ∀ b, s₂.heap.get? b = none → s.heap.get? b = none := fun b h => by
    cases q : s.heap.get? b with
    | none => rfl
    | some o => obtain ⟨o', e'⟩ := hlive b ⟨o, q⟩; rw [h] at e'; cases e'
  refine { fly := x.fly, tup := x.tup, tn := x.tn, ok := x.ok, le := g.le.trans x.le, new := fun a o e' => ?_, cov := fun b o e' h1 h2 h3 => ?_, frs := fun M hM => ⟨(g.keep M (hfs M hM).2 (hfs M hM).1).trans (x.frs M (.tail _ hM)).1, (x.frs M (.tail _ hM)).2⟩, os := x.os.trans g.os, enew := dead _ x.enew, tnew := dead _ x.tnew }
  · rcases x.new a o e' with q | q | q
    · rcases g.new a o q with q | q | q
      · exact .inl q
      · exact .inr (.inl q)
      · exact .inr (.inr (Decidable.not_not.mp q))
    · exact .inr (.inl (dead _ q))
    · cases q
  · obtain ⟨o1, e1, k1⟩ := g.keep b h1 h3 o e'
    obtain ⟨o2, e2, k2⟩ := x.cov b o1 e1 (fun q => nomatch q) (fun q => (List.mem_cons.mp q).elim (fun q => by subst q; rw [hd] at e'; cases e') h2) h3
    exact ⟨o2, e2, k1.trans k2⟩
theorem FnXW.body {d : Nat} {a : Addr} {fd : FuncData} {cl : List (Str × Addr)} {body : List Stmt} {sc : Scope} {args : List AV} {kw : Rho} {I : Ghost → Prop} (D : DefG F a fd cl) (hI : I F) (hM : Mono I) (hbody : fd.body = .stmts body) (hsc : fd.scope = sc)
    (hb : HB C fd args kw ρ) (hn : (ρ.map (·.1)).Nodup) (hk : ∀ x ∈ ρ.map (·.1), sc.names.lookup x = some .local) (hf : ∀ x b, ρf.lookup x = some b → sc.names.lookup x = some .free ∧ CelF F cl x b) (hc : ∀ x ∈ sc.names, x.2 ≠ .cell)
    (hkf : sc.kind = .function) (hco : sc.isCoroutine = false) (hgen : sc.isGenerator = false) (hωn : (ω.map (·.1)).Nodup)
    (hh : ∀ A L q E fs l, q = fd.qualname ++ ".<locals>." → Room A (d + 1) → Stk A fs l → ∃ ρ' σ', Ex C (gfm A sc L a q fd.code cl E (ω.map (·.1)) I fs) (ρ ++ ρf) ω body (.rse (Lands C (gfm A sc L a q fd.code cl E (ω.map (·.1)) I fs) ρ' σ' (L :: fs) (genv sc L a q fd.code cl :: l) cls xa))) : FnXW C (d + 1) F (.ref a) args kw ω cls xa := by
  subst hsc
  refine ⟨fun F₁ s A l fs vals kvs hF ok room S hfs hv hkv hω hωT => ?_⟩
  obtain ⟨bs, hbs, hr⟩ := hb F₁ s vals kvs ok hv hkv
  have D₁ := D.mono hF
  obtain ⟨o, ho, hd⟩ := D₁.at'
  have dep := room.dep
  refine wpAny_call (codeAny_call_function (by show A.depth < 1000; omega) (ok.sub _ _ ho) hd hco hgen hbody (by obtain ⟨c, oc, vs, t, e, hoc, r⟩ := D₁.code; exact ⟨c, oc, vs, t, e, ok.sub _ _ hoc, r⟩) (hbs _ _ _ _ ?_))
  refine frame_g A D₁ (hM _ _ hF hI) hM ok hr hn hk (fun x b e => ⟨(hf x b e).1, (hf x b e).2.mono hF⟩) hc hkf hω hωT hωn (fs := fs) hfs fun L E s₁ hE X g => ⟨C.lim.keeps (hsub g.ok), codeAny_func ?_⟩
  have hLd : s.heap.get? L = none := by
    cases e : s.heap.get? L with
    | none => rfl
    | some o => exact absurd ((hE L).mpr ⟨o, e⟩) X.locB
  obtain ⟨ρ₂, σ₂, hx⟩ := hh A L _ E fs l rfl room S
  refine wpAny_mono (hx.h F₁ s₁ X) (fun f s' ⟨F', g', r⟩ => r.elim) fun v s' ⟨P, hP, F₂, s₂, g₂, hp⟩ => ?_
  injection hP with hP
  subst hP
  obtain ⟨X₂, e, xs, hv, hxa, hr⟩ := hp
  obtain ⟨S₂, fr₂⟩ := X₂.stack (A := A) S rfl rfl
  have G : Gr C (fun a => a ∉ ω.map (·.1)) F₁ s F₂ s₂ := gfin (A := A) (sc := fd.scope) (L := L) (a := a) (q := fd.qualname ++ ".<locals>.") (cd := fd.code) (cl := cl) (I := I) hE g g₂
  have hlive : ∀ b, (∃ o, s.heap.get? b = some o) → ∃ o, s₂.heap.get? b = some o := fun b hb => X₂.base b ((hE b).mpr hb)
  have hfs' : ∀ M ∈ fs, M ∉ C.T ∧ M ∉ ω.map (·.1) := fun M hM => ⟨(hfs M hM).1.2.1, (hfs M hM).2⟩
  subst hv
  rcases hr with ⟨h', hs', hx⟩ | ⟨F₃, t, base, x⟩
  · subst hs'
    exact Fly.made (env := genv fd.scope L a _ fd.code cl) X₂.ok S₂ rfl fr₂ hx fun h'' t base x => ⟨_, e, t, base, xs, rfl, hxa, Fly.preX G hlive hfs' hLd x⟩
  · exact Fly.leave (env := genv fd.scope L a _ fd.code cl) x S₂.fr rfl (fun M hM => let ⟨_, _, o, ho, hd⟩ := fr₂ M hM; ⟨o, ho, hd⟩) fun h'' x => ⟨_, e, t, base, xs, rfl, hxa, Fly.preX G hlive hfs' hLd x⟩
/- an exception has come from a call that has written the objects τ -/
noncomputable def ComesW (C : Cx) (fm : Fm) (ρ : Rho) (τ σ : Sig) (fs : List Addr) (l : List Env) (cls : Value) (xa : List Value → Prop) : Ghost → Shared → Value → Shared → Prop := fun F' s₀ v s' =>
  St C fm ρ (τ ++ σ) F' s₀ ∧ ∃ e args, v = .ref e ∧ xa args ∧ ∃ F'' t base, Fly C F' s₀ (τ.map (·.1)) fs l F'' s' e t base cls args
/- and the frame has been noted -/
noncomputable def ComesH (C : Cx) (fm : Fm) (ρ : Rho) (τ σ : Sig) (fs : List Addr) (l : List Env) (cls : Value) (xa : List Value → Prop) : Ghost → Shared → Value → Shared → Prop := fun F' s₀ v s' =>
  St C fm ρ (τ ++ σ) F' s₀ ∧ ∃ e args, v = .ref e ∧ xa args ∧ ∃ F'' t base s₁ h, Fly C F' s₀ (τ.map (·.1)) fs l F'' s₁ e t base cls args ∧ s' = { s₁ with heap := h } ∧ s₁.heap.UpToSlots h ∧ Heap.HeldW base l e cls (.ref t) fm.env.locals h
/- an expression that raises, having written -/
structure EvXW (C : Cx) (fm : Fm) (ρ : Rho) (σ : Sig) (e : Expr) (τ σ₁ : Sig) (fs : List Addr) (l : List Env) (cls : Value) (xa : List Value → Prop) : Prop where
  of ::
  h : ∀ F s, St C fm ρ σ F s → wpAny C.M fm.A (eval e fm.env) (fun _ _ => False) (fun v s' => ∃ F' s₀, Gr C (Kf fm) F s F' s₀ ∧ ComesW C fm ρ τ σ₁ fs l cls xa F' s₀ v s') s
theorem EvXW.call {A : Around} {x : Str} {px pos : Pos} {es : List Expr} {kws : List Keyword} {f : Value} {as : List AV} {kρ : Rho} {d : Nat} (room : Room fm.A d) (S : Stk A fm.fs l) (hA : fm.A = A.deeper fm.env) (hfr : fm.env.frame = some fm.env.locals)
    (hf : Ev C fm ρ σ (.Name x px) (.val f)) (has : Evs C fm ρ σ es as) (hks : Evk C fm ρ σ kws kρ) (hp : (τ ++ σ₁).Perm σ) (hτ : ∀ p ∈ τ, ¬ fm.E p.1)
    (hfn : ∀ F s, St C fm ρ σ F s → KpOk F f ∧ FnXW C d F f as kρ τ cls xa) (hpl : Plain es fm.env := by rfl) (hkw : kws.all (fun k => k.arg.isSome) = true := by rfl) :
    EvXW C fm ρ σ (.Call (.Name x px) es kws pos) τ σ₁ (fm.env.locals :: fm.fs) (fm.env :: l) cls xa := ⟨fun F s X => by
  refine wpAny_Call_Name_kw (wpAny_mono (hf.h F s X) (fun v s₁ ⟨F₁, g₁, r₁⟩ => ?_) fun _ _ q => q.elim)
  obtain rfl := r₁.oval
  have X₁ := X.grow g₁
  have hk := kwAll (pos := pos) (env := fm.env) hkw
  refine callWith_any (backTo_any hpl) hk.2 (evalArgs_any hpl hk.1 (wpAny_mono (has.h F₁ s₁ pos X₁) (fun vs s₂ ⟨F₂, g₂, r₂⟩ => ?_) fun _ _ q => q.elim))
  have X₂ := X₁.grow g₂
  refine wpAny_mono (hks.h F₂ s₂ pos X₂) (fun ks s₃ ⟨F₃, g₃, r₃⟩ => ?_) fun _ _ q => q.elim
  have X₃ := X₂.grow g₃
  obtain ⟨hkp, hfn⟩ := hfn F₃ s₃ X₃
  obtain ⟨S₃, fr₃⟩ := X₃.stack S hA hfr
  have X₃' := X₃.perm hp
  have hfs : ∀ L ∈ fm.env.locals :: fm.fs, FrOk C F₃ s₃ L ∧ L ∉ τ.map (·.1) := fun L hL => ⟨fr₃ L hL, fun q => by
    obtain ⟨p, hp, e⟩ := List.mem_map.mp q
    rcases List.mem_cons.mp hL with rfl | hL
    · exact (X₃'.mu p (List.mem_append_left _ hp)).2.2.2.1 e
    · exact hτ p hp (by rw [e]; exact (X₃.fr L hL).1)⟩
  refine ⟨⟨F₃, X₃.ok, hkp⟩, wpAny_mono (hfn.h F₃ s₃ fm.A _ _ vs _ (GLe.refl _) X₃.ok room S₃ hfs (Reps.mono g₃.le _ _ r₂) r₃ X₃'.sigOk fun p hp => (X₃'.mu p (List.mem_append_left _ hp)).2.2.1) (fun r s₄ q => q.elim) fun v s₄ ⟨F₄, e, t, base, xs, hv, hxa, x⟩ => ?_⟩
  exact ⟨F₃, s₃, ((g₁.trans g₂).trans g₃).any, X₃', e, xs, hv, hxa, F₄, t, base, x⟩⟩
/- a list's append whose item is made by a call that writes, by one that raises -/
theorem EvM.append {o e1 : Expr} {apos pos : Pos} {a : Addr} {xs : List AV} {x : AV} (ho : Ev C fm ρ σ o (.val (.ref a))) (h1 : EvM C fm ρ σ e1 x σ₁) (hm : (a, MO.lst xs) ∈ σ) (u : Upd σ₁ a (.lst xs) (.lst (xs ++ [x])) σ') (hz : xs.length ≤ 1000000)
    (he : ∃ pl, eval (.Call (.Attribute o (Str.ofString "append") apos) [e1] [] pos) fm.env = (do
      let ov ← eval o fm.env
      standAt apos.atName
      let (f, first) ← holding [ov] (getMethod ov (Str.ofString "append") pl)
      callWith pos f first (backTo pos (starEach [e1] fm.env)) []) := by exact ⟨_, rfl⟩) (hst : starEach [e1] fm.env = [(false, eval e1 fm.env)] := by rfl) : EvM C fm ρ σ (.Call (.Attribute o (Str.ofString "append") apos) [e1] [] pos) .none σ' := ⟨fun F s X => by
  obtain ⟨pl, he⟩ := he
  refine MethodCall_ (wpAny_mono (ho.h F s X) (fun v s₁ ⟨F₁, g₁, r₁⟩ => ?_) fun _ _ q => q) he
  obtain rfl := r₁.oval
  have X₁ := X.grow g₁
  obtain ⟨⟨ws, ⟨n, hl⟩, hr⟩, hn, hT, _⟩ := X₁.mu _ hm
  refine getMethod_list_of PySem.F.slot_list_append PySem.F.type_list_append ⟨_, hl, rfl, n, rfl⟩ ⟨_, hl, rfl⟩ ?_
  have hpl : Plain [e1] fm.env := by unfold Plain; rw [hst]; rfl
  refine callWith_meth hpl (wpAny_items_cons (wpAny_mono (h1.h F₁ s₁ X₁) (fun v s₂ ⟨F₂, g₂, X₂, r₂⟩ => ?_) fun _ _ q => q) (by rw [hst]; rfl))
  refine wpAny_items_nil ?_
  obtain ⟨hm2, hn2, hT2, _⟩ := X₂.mu _ u.mem
  refine (Wr.append (A := fm.A) (x := x) hz).h F₂ s₂ a [v] _ _ g₂.ok hm2 hn2 hT2 (rCons r₂ rNil) fun r s' F' g hm' hn' rr => ?_
  obtain ⟨X₃, g₃⟩ := X₂.upd u g hm' hn'
  exact ⟨F', (g₁.any.trans g₂).trans g₃, X₃, rr⟩⟩
theorem Es.appendX {o e1 : Expr} {apos p pos : Pos} {a : Addr} {xs : List AV} (ho : Ev C fm ρ σ o (.val (.ref a))) (h1 : EvXW C fm ρ σ e1 τ σ₁ fs l cls xa) (hm : (a, MO.lst xs) ∈ σ)
    (he : ∃ pl, eval (.Call (.Attribute o (Str.ofString "append") apos) [e1] [] p) fm.env = (do
      let ov ← eval o fm.env
      standAt apos.atName
      let (f, first) ← holding [ov] (getMethod ov (Str.ofString "append") pl)
      callWith p f first (backTo p (starEach [e1] fm.env)) []) := by exact ⟨_, rfl⟩) (hst : starEach [e1] fm.env = [(false, eval e1 fm.env)] := by rfl)
    (hi : interactive fm.env = false := by rfl) (hs : swapsWith (.Call (.Attribute o (Str.ofString "append") apos) [e1] [] p) none pos.line fm.env = pure false := by rfl) : Es C fm ρ σ (.Expr (.Call (.Attribute o (Str.ofString "append") apos) [e1] [] p) pos) (.rse (ComesW C fm ρ τ σ₁ fs l cls xa)) := ⟨fun F s X => by
  obtain ⟨pl, he⟩ := he
  refine wpAny_Expr (MethodCall_ (wpAny_mono (ho.h F s X) (fun v s₁ ⟨F₁, g₁, r₁⟩ => ?_) fun _ _ q => q.elim) he) hi hs
  obtain rfl := r₁.oval
  have X₁ := X.grow g₁
  obtain ⟨⟨ws, ⟨n, hl⟩, hr⟩, hn, hT, _⟩ := X₁.mu _ hm
  refine getMethod_list_of PySem.F.slot_list_append PySem.F.type_list_append ⟨_, hl, rfl, n, rfl⟩ ⟨_, hl, rfl⟩ ?_
  have hpl : Plain [e1] fm.env := by unfold Plain; rw [hst]; rfl
  exact callWith_meth hpl (wpAny_items_cons (wpAny_mono (h1.h F₁ s₁ X₁) (fun v s₂ q => q.elim) fun v s₂ ⟨F₂, s₀, g₂, q⟩ => ⟨_, rfl, F₂, s₀, g₁.any.trans g₂, q⟩) (by rw [hst]; rfl))⟩
/- a loop that an exception leaves -/
structure FoX (C : Cx) (fm : Fm) (ρ : Rho) (σ : Sig) (tgt : Expr) (it : Value) (xs ys : List Stmt) (P : Ghost → Shared → Value → Shared → Prop) : Prop where
  of ::
  h : ∀ F s, St C fm ρ σ F s → codeAny C.M fm.A (.forLoop tgt it xs ys fm.env) (fun r s' => match r with
    | .ok f => False
    | .error e => OutE C fm F s (.rse P) e s') s
theorem FoX.turn {P : Ghost → Shared → Value → Shared → Prop} {tgt it xs ys} {vs : List AV} {τ : Nat → Sig} {i : Nat} {x : AV} {bd : Rho} (I : Itr C fm.A it tgt vs τ) (hx : vs[i]? = some x) (ha : As C fm tgt x bd)
    (h1 : Ex C fm (bd ++ ρ) (τ (i + 1) ++ σ) xs (.nxt ρ₁ σ₁)) (h2 : FoX C fm ρ₁ σ₁ tgt it xs ys P) : FoX C fm ρ (τ i ++ σ) tgt it xs ys P := ⟨fun F s X => by
  refine codeAny_of_tree ?_
  show wpAny _ fm.A ((forTurn tgt it xs ys fm.env).onRaise (fun x => do noteFrame x fm.env; theTreesLotGoes x)) _ _ s
  refine wpAny_noted ?_
  simp only [forTurn]
  have hT : ∀ a ∈ (τ 0).map (·.1), a ∉ C.T := fun a ha => by
    rw [← I.adr i] at ha
    obtain ⟨p, hp, rfl⟩ := List.mem_map.mp ha
    exact (X.mu p (List.mem_append_left _ hp)).2.2.1
  refine wpAny_bind (wpAny_standAt (wpAny_bind (wpAny_onRaise (wpAny_mono (I.item i x F s hx X.ok X.sigOk hT) (fun r s₁ ⟨v, e, hw⟩ => ?_) fun _ _ q => q.elim))))
  subst e
  refine wpAny_bind (wpAny_mono hw (fun _ s₂ ⟨F₂, g₂, hs₂, r₂⟩ => ?_) fun _ _ q => q.elim)
  obtain ⟨X₂, g₂'⟩ := X.step (τ' := τ (i + 1)) (F' := F₂) (s' := s₂) (by rw [I.adr i]; exact g₂) (by rw [I.adr, I.adr i]) hs₂
  refine wpAny_bind (wpAny_mono (ha.h ρ _ F₂ s₂ v X₂ r₂) (fun _ s₃ ⟨F₃, g₃, X₃⟩ => ?_) fun _ _ q => q.elim)
  refine wpAny_bind (wpAny_mono (h1.h F₃ s₃ X₃) (fun f s₄ ⟨F₄, g₄, e, X₄⟩ => ?_) fun _ _ q => (Out.calm.no rfl q).elim)
  subst e
  exact wpAny_pure ⟨rfl, codeAny_mono (h2.h F₄ s₄ X₄) fun r s' q => by
    cases r with
    | ok f => exact q
    | error e => exact OutE.pre ((g₂'.trans g₃).trans g₄) q⟩⟩
theorem FoX.stop {A : Around} {tgt it xs ys} {vs : List AV} {τi : Nat → Sig} {i : Nat} {x : AV} {bd : Rho} (S : Stk A fm.fs l) (hA : fm.A = A.deeper fm.env) (hfr : fm.env.frame = some fm.env.locals) (I : Itr C fm.A it tgt vs τi) (hx : vs[i]? = some x) (ha : As C fm tgt x bd)
    (h1 : Ex C fm (bd ++ ρ) (τi (i + 1) ++ σ) xs (.rse (ComesW C fm ρ₁ τ σ₁ (fm.env.locals :: fm.fs) (fm.env :: l) cls xa))) : FoX C fm ρ (τi i ++ σ) tgt it xs ys (ComesH C fm ρ₁ τ σ₁ (fm.env.locals :: fm.fs) (fm.env :: l) cls xa) := ⟨fun F s X => by
  refine codeAny_of_tree ?_
  show wpAny _ fm.A ((forTurn tgt it xs ys fm.env).onRaise (fun x => do noteFrame x fm.env; theTreesLotGoes x)) _ _ s
  refine wpAny_noted ?_
  simp only [forTurn]
  have hT : ∀ a ∈ (τi 0).map (·.1), a ∉ C.T := fun a ha => by
    rw [← I.adr i] at ha
    obtain ⟨p, hp, rfl⟩ := List.mem_map.mp ha
    exact (X.mu p (List.mem_append_left _ hp)).2.2.1
  refine wpAny_bind (wpAny_standAt (wpAny_bind (wpAny_onRaise (wpAny_mono (I.item i x F s hx X.ok X.sigOk hT) (fun r s₁ ⟨v, e, hw⟩ => ?_) fun _ _ q => q.elim))))
  subst e
  refine wpAny_bind (wpAny_mono hw (fun _ s₂ ⟨F₂, g₂, hs₂, r₂⟩ => ?_) fun _ _ q => q.elim)
  obtain ⟨X₂, g₂'⟩ := X.step (τ' := τi (i + 1)) (F' := F₂) (s' := s₂) (by rw [I.adr i]; exact g₂) (by rw [I.adr, I.adr i]) hs₂
  refine wpAny_bind (wpAny_mono (ha.h ρ _ F₂ s₂ v X₂ r₂) (fun _ s₃ ⟨F₃, g₃, X₃⟩ => ?_) fun _ _ q => q.elim)
  refine wpAny_bind (wpAny_mono (h1.h F₃ s₃ X₃) (fun f s₄ ⟨F₄, g₄, r⟩ => r.elim) fun v s₄ ⟨P, hP, F₄, s₀, g₄, hp⟩ => ?_)
  injection hP with hP
  subst hP
  obtain ⟨X₄, ex, xs', hv, hxa, F₅, t, base, fl⟩ := hp
  subst hv
  obtain ⟨S₄, fr₄⟩ := X₄.stack S hA hfr
  refine wpAny_looks_onW S₄.fr hfr fl.fly fun h' hh up => ?_
  exact ⟨_, rfl, F₄, s₀, (g₂'.trans g₃).trans g₄, X₄, ex, xs', rfl, hxa, F₅, t, base, s₄, h', fl, rfl, up, hh⟩⟩
/- the loop's statement takes the exception up again -/
theorem cameBackHeld {M : Model} {A : Around} {E : Value → Shared → Prop} {env : Env} {L : Addr} {a0 : Value} (hf : env.frame = some L) (hh : Heap.HeldW base l e cls a0 L s.heap) (h : ∀ h', Heap.HeldW base l e cls a0 L h' → s.heap.UpToSlots h' → E (.ref e) { s with heap := h' }) : cameBackBy M A env E (.ref e) s := by
  obtain ⟨f1, f2, f3, oe, vs, T, oT, ts, he, hcls, hd, h1, hnT, hTe, hT, hdT, h3⟩ := hh
  have hsz3 : 3 < ts.size := (Array.getElem?_eq_some_iff.mp h3).1
  have other : ∀ b, b ≠ T → (s.heap.update T (Obj.mapFields (·.setIfInBounds 3 (rawInt L)))).get? b = s.heap.get? b := fun b hb => Heap.get?_update_other _ _ (Ne.symm hb)
  have noRecord : ∀ b o, s.heap.get? b = some o → (∀ vs, o.data ≠ .fields vs) → b ≠ T := fun b o hb hnf q => by
    rw [q, hT] at hb; injection hb with hb; subst hb; exact hnf ts hdT
  unfold cameBackBy
  refine wpAny_bind (wpAny_field he hd h1 ?_)
  rw [if_neg (show ¬ (Value.ref T == Value.none) = true from Bool.false_ne_true), hf]
  unfold setFlight
  refine wpAny_bind (wpAny_field he hd h1 ?_)
  rw [if_pos (show (Value.ref T != Value.none) = true from by simp)]
  refine wpAny_setField hT hdT hsz3 (h _ ⟨fun b o hbo => (other b fun q => by rw [q, hnT] at hbo; cases hbo).trans (f1 b o hbo), f2,
    f3.of_keeps fun b o hb hnf => ⟨o, (other b (noRecord b o hb hnf)).trans hb, rfl⟩, ?_⟩ fun b o hb hnf => ⟨o.slots, (other b (noRecord b o hb hnf)).trans hb⟩)
  exact ⟨oe, vs, T, _, _, (other e (Ne.symm hTe)).trans he, hcls, hd, h1, hnT, hTe, Heap.get?_update_self _ hT (Obj.isFreed_of_fields (Obj.data_mapFields hdT _)), Obj.data_mapFields hdT _, by simp [hsz3]⟩
theorem Es.forX {tgt iter xs ys pos} {vs : List AV} (hfr : fm.env.frame = some fm.env.locals) (hs : Src C fm ρ σ iter tgt vs) (h : ∀ it τi, Itr C fm.A it tgt vs τi → (∀ i, ∀ p ∈ τi i, ¬ fm.E p.1) → FoX C fm ρ (τi 0 ++ σ) tgt it xs ys (ComesH C fm ρ₁ τ σ₁ fs l cls xa))
    (hf : ∀ x, foldedSetIterable iter fm.env x = pure x := by intro _; rfl) : Es C fm ρ σ (.For tgt iter xs ys pos) (.rse (ComesH C fm ρ₁ τ σ₁ fs l cls xa)) := ⟨fun F s X => by
  refine wpAny_For (wpAny_mono (hs.h F s X) (fun x s₁ h₁ => wpAny_mono h₁ (fun it s₂ ⟨F₂, τ, g₂, I, hs₂, hfr, hnd⟩ => ?_) fun _ _ q => q.elim) fun _ _ q => q.elim) hf
  have X₂ := X.join g₂ hs₂ hfr hnd
  have hE : ∀ i, ∀ p ∈ τ i, ¬ fm.E p.1 := fun i p hp hE => by
    have : p.1 ∈ (τ 0).map (·.1) := by rw [← I.adr i]; exact List.mem_map_of_mem (f := (·.1)) hp
    obtain ⟨r, hr, e⟩ := List.mem_map.mp this
    obtain ⟨o, eo⟩ := X.base _ hE
    rw [← e, hfr r hr] at eo; cases eo
  refine codeAny_mono ((h it τ I hE).h F₂ s₂ X₂) fun r s' q => ?_
  cases r with
  | ok f => exact q.elim
  | error e =>
    obtain ⟨P, hP, F₃, s₀, g₃, hp⟩ := q
    injection hP with hP
    subst hP
    obtain ⟨X₃, ex, xs', hv, hxa, F₄, t, base, s₁', h', fl, hs', up, hh⟩ := hp
    subst hv hs'
    exact cameBackHeld (s := { s₁' with heap := h' }) ‹fm.env.frame = some fm.env.locals› hh fun h'' hh' up' => ⟨_, rfl, F₃, s₀, g₂.any.trans g₃, X₃, ex, xs', rfl, hxa, F₄, t, base, s₁', h'', fl, rfl, up.trans up', hh'⟩⟩
/- a try whose body's loop an exception leaves, caught without a name -/
theorem Es.tryH {A : Around} {x : Str} {np hp pos : Pos} {body : List Stmt} {b₀ : Stmt} {suite : List Stmt} {X T : String} (S : Stk A fm.fs l) (hA : fm.A = A.deeper fm.env) (hfr : fm.env.frame = some fm.env.locals)
    (hb : Ex C fm ρ σ body (.rse (ComesH C fm ρ₁ τ σ₁ (fm.env.locals :: fm.fs) (fm.env :: l) (.type X) xa))) (hτ : ∀ p ∈ τ, ¬ fm.E p.1)
    (hx : fm.env.kindOf x = some .globalImplicit) (hg : C.gl x (.type T)) (hd : (x == ("__debug__" : Str)) = false)
    (hexc : isSubtype (.type T) (.type "BaseException") = pure true) (hnt : isSubtype (.type ((Manifest.find? T).elim "type" fun y => y.metatype)) (.type "tuple") = pure false) (hsub : isSubtype (.type X) (.type T) = pure true)
    (hs : ∀ v, Ex C (fm.mark v) ρ₁ σ₁ (b₀ :: suite) out) (hc : out.calm = true := by rfl) :
    Es C fm ρ σ (.Try body [.ExceptHandler (some (.Name x np)) none (b₀ :: suite) hp] [] [] pos) out := ⟨fun F s X₀ => by
  refine wpAny_Try_except (wpAny_mono (hb.h F s X₀) (fun f s' ⟨F', g', r⟩ => r.elim) fun v s' ⟨P, hP, F₂, s₂, g₂, hp⟩ => ?_)
  injection hP with hP
  subst hP
  obtain ⟨X₂, e, xs, hv, hxa, F₃, t, base, s₁, h, fl, hs', up, hh⟩ := hp
  subst hv hs'
  obtain ⟨S₂, fr₂⟩ := X₂.stack S hA hfr
  have fr₂' : ∀ M ∈ fm.env.locals :: fm.fs, ∃ o, s₂.heap.get? M = some o ∧ IsDc o := fun M hM => let ⟨_, _, o, ho, hd⟩ := fr₂ M hM; ⟨o, ho, hd⟩
  refine wpAny_noteFrame_againW (s := { s₁ with heap := h }) hfr hh.2.2.2 (wpAny_landsW (s := { s₁ with heap := h }) hh fun h₂ f₂ up₂ => ?_)
  have fl₃ := fl.up fr₂' f₂ (up.trans up₂)
  obtain ⟨X₃, g₃⟩ := X₂.leave fl₃.gr hτ
  refine wpAny_handleBy_builtin (T := T) (X := X) (b := true) hexc hnt hsub ?_
  refine X₃.glo hx hg hd ⟨rfl, fl₃.fly.there, ?_⟩
  show wpAny C.M (fm.A.mark (some (.ref e))) (setFlight (.ref e) none) _ _ _
  refine lands_againW fl₃.fly fun h₅ f₅ up₅ => ?_
  have fl₅ := fl₃.up fr₂' f₅ up₅
  obtain ⟨X₅, g₅⟩ := X₂.leave fl₅.gr hτ
  exact wpAny_mono ((hs (.ref e)).h F₃ _ X₅.mark) (fun f s₆ q => q.unmark.pre (g₂.trans g₅)) fun v s₆ q => (Out.calm.no hc q).elim⟩
end
noncomputable abbrev kIter : Str := Str.ofString "iterator"
noncomputable abbrev kVal : Str := Str.ofString "val"
noncomputable abbrev kBb : Str := Str.ofString "b"
noncomputable abbrev kTape : Str := Str.ofString "tape"
noncomputable abbrev kOctet : Str := Str.ofString "octet"
/- what a number's octets, behind the first, make of it -/
noncomputable def readGo (v : Nat) (ds : List Nat) : Nat := ds.foldl (fun v d => v * 64 + d % 64) v
/- octets that go on, the last of which does not -/
noncomputable def goesOn : Nat → List Nat → Prop
  | c, [] => c &&& 64 = 0
  | c, d :: r => c &&& 64 ≠ 0 ∧ goesOn d r
theorem and63 (c : Nat) : c &&& 63 = c % 64 := Nat.and_two_pow_sub_one_eq_mod c 6
theorem bAnd63 (c : Nat) : BinI .BitAnd (c : Int) 63 ((c % 64 : Nat) : Int) := BinI.and.eq (by rw [show (63 : Int) = ((63 : Nat) : Int) from rfl, bitAnd_pp (Int.natCast_nonneg _) (Int.natCast_nonneg _), Int.toNat_natCast, Int.toNat_natCast, and63])
theorem bAnd64 (c : Nat) : BinI .BitAnd (c : Int) 64 ((c &&& 64 : Nat) : Int) := BinI.and.eq (by rw [show (64 : Int) = ((64 : Nat) : Int) from rfl, bitAnd_pp (Int.natCast_nonneg _) (Int.natCast_nonneg _), Int.toNat_natCast, Int.toNat_natCast])
theorem orLow (v d : Nat) : InI .BitOr ((v * 64 : Nat) : Int) ((d % 64 : Nat) : Int) ((v * 64 + d % 64 : Nat) : Int) := ⟨fun prog w A s t u Q E h => InI.or.h prog w A s t u Q E (by
  have e : Builtin.bitOr ((v * 64 : Nat) : Int) ((d % 64 : Nat) : Int) = ((v * 64 + d % 64 : Nat) : Int) := by
    rw [bitOr_and, bitAnd_pp (Int.natCast_nonneg _) (Int.natCast_nonneg _), Int.toNat_natCast, Int.toNat_natCast]
    have : v * 64 &&& d % 64 = 0 := by
      have h1 : v * 64 = 2 ^ 6 * v := by omega
      rw [h1]
      have h2 : d % 64 < 2 ^ 6 := Nat.mod_lt _ (by decide)
      apply Nat.eq_of_testBit_eq
      intro i
      rw [Nat.testBit_and, Nat.zero_testBit, Nat.testBit_two_pow_mul]
      by_cases hi : 6 ≤ i
      · rw [Nat.testBit_lt_two_pow (Nat.lt_of_lt_of_le h2 (Nat.pow_le_pow_right (by decide) hi)), Bool.and_false]
      · simp [hi]
    rw [this]; omega
  rw [e]; exact h)⟩
noncomputable def viRho (it : Addr) (c v : Nat) : Rho := [(kVal, .int (v : Nat)), (kBb, .int (c : Nat)), (kIter, .val (.ref it))]
noncomputable def sViLoop : Stmt := nth (fnBody sVarint) 2
theorem Tv.nat {n : Nat} : Tv (.int (n : Nat)) (decide (n ≠ 0)) := by
  have h := Tv.int (i := (n : Int))
  have e : ((n : Int) != 0) = decide (n ≠ 0) := by
    by_cases h : n = 0
    · subst h; rfl
    · rw [decide_eq_true h]; simp; omega
  rw [e] at h; exact h
theorem octAt {b : Array UInt8} {i d : Nat} (h : (b[i]?).map UInt8.toNat = some d) : ∃ c, b[i]? = some c ∧ c.toNat = d := by
  cases q : b[i]? with
  | none => rw [q] at h; cases h
  | some c => rw [q] at h; exact ⟨c, rfl, Option.some.inj h⟩
theorem varint_loop {C : Cx} (P : PX C) {A L a q cd cl E W I fs} {it : Addr} {b : Array UInt8} : ∀ (ds : List Nat) (c v i : Nat), goesOn c ds → (∀ j d, ds[j]? = some d → (b[i + j]?).map UInt8.toNat = some d) → (v + 1) * 64 ^ ds.length ≤ 2 ^ 40 →
    Wh C (gfm A (fnScope sVarint) L a q cd cl E W I fs) (viRho it c v) [(it, BIt b i)] (whTest sViLoop) (whBody sViLoop) [] (.nxt [(kVal, .int (readGo v ds : Nat))] [(it, BIt b (i + ds.length))]) := by
  intro ds
  induction ds with
  | nil =>
    intro c v i h1 h2 h3
    exact Wh.stop (Tr.eq (Tr.val (Ev.bin (by walk_at "ev") Ev.int (bAnd64 c)) Tv.nat) (by rw [show c &&& 64 = 0 from h1]; rfl)) (Ex.fgt Ex.nil (Sub.cons (by rfl) Sub.nil))
  | cons d r ih =>
    intro c v i h1 h2 h3
    obtain ⟨g1, g2⟩ := h1
    obtain ⟨u, hu, hud⟩ := octAt (h2 0 d rfl)
    have hv : v < 2 ^ 40 := by
      have : 1 ≤ 64 ^ (d :: r).length := Nat.pow_pos (by decide)
      exact Nat.lt_of_lt_of_le (Nat.lt_succ_self v) (Nat.le_trans (Nat.le_mul_of_pos_right _ this) h3)
    have ih' := ih d (v * 64 + d % 64) (i + 1) g2 (fun j e hj => by
      have := h2 (j + 1) e hj
      rw [show i + (j + 1) = i + 1 + j by omega] at this; exact this) (by
      rw [List.length_cons, Nat.pow_succ] at h3
      refine Nat.le_trans (Nat.mul_le_mul_right _ (show v * 64 + d % 64 + 1 ≤ (v + 1) * 64 by omega)) ?_
      rw [Nat.mul_assoc, Nat.mul_comm 64]; exact h3)
    rw [show i + 1 + r.length = i + (d :: r).length by rw [List.length_cons]; omega] at ih'
    refine Wh.step (ρ' := viRho it d (v * 64 + d % 64)) (σ' := [(it, BIt b (i + 1))]) (Tr.eq (Tr.val (Ev.bin (by walk_at "ev") Ev.int (bAnd64 c)) Tv.nat) (decide_eq_true g1)) ?_ ih'
    refine Ex.cons (Es.aug (a := (v : Nat)) (c := ((v * 64 : Nat) : Int)) (by rfl) (by rfl) Ev.int ⟨fun prog w A s t u Q E h => (InI.shl (a := (v : Nat)) (b := 6) (by decide) (by decide) (by rw [Int.natAbs_natCast]; exact Nat.lt_trans hv (by decide))).h prog w A s t u Q E (by
      rw [show ((v : Nat) : Int) * 2 ^ (6 : Int).toNat = ((v * 64 : Nat) : Int) by rw [show (6 : Int).toNat = 6 from rfl]; omega]; exact h)⟩) ?_
    refine Ex.cons (Es.asgM (EvM.next (by walk_at "ev") (by walk_at "ev") .here hu) (.inl (by rfl))) ?_
    rw [hud]
    exact Ex.fgt (Ex.one (Es.aug (a := ((v * 64 : Nat) : Int)) (by rfl) (by rfl) (Ev.bin (by walk_at "ev") Ev.int (bAnd63 d)) (orLow v d))) (Sub.cons (by rfl) (Sub.cons (by rfl) (Sub.cons (by rfl) Sub.nil)))
/- the number that octets tell -/
noncomputable def readV : List Nat → Nat
  | [] => 0
  | c :: ds => readGo (c % 64) ds
theorem varintFn {C : Cx} (P : PX C) {F : Ghost} {it : Addr} {b : Array UInt8} {i c : Nat} {ds : List Nat} (h1 : goesOn c ds) (h2 : ∀ j d, (c :: ds)[j]? = some d → (b[i + j]?).map UInt8.toNat = some d) (h3 : ds.length ≤ 5) :
    FnW C 3 F (.ref 107) [.val (.ref it)] [] [(it, BIt b i)] (.int (readV (c :: ds) : Nat)) [(it, BIt b (i + (c :: ds).length))] := FnW.top fun F₁ s hF ok => by
  obtain ⟨fd, D⟩ := P.varint
  obtain ⟨pm, cd, doc, rfl⟩ := D.e
  refine FnW.body (d := 2) (I := fun _ => True) (ρ := [(kIter, .val (.ref it))]) (ρf := []) (D.d.g ok) trivial Mono.triv rfl rfl (HB.one (x := kIter) fun v s => BindsTo.of_eq rfl) (by simp only [List.map_cons, List.map_nil]; decide) (by show ∀ x ∈ [kIter], (fnScope sVarint).names.lookup x = some .local; decide +kernel) (fun x b e => nomatch e) (by show ∀ x ∈ (fnScope sVarint).names, x.2 ≠ NameKind.cell; decide +kernel) rfl rfl rfl (by simp) fun A L q E hq room => ⟨.ret _ _, rfl, ?_⟩
  obtain ⟨u, hu, hud⟩ := octAt (h2 0 c rfl)
  refine Ex.cons (Es.asgM (EvM.next (by walk_at "ev") (by walk_at "ev") .here hu) (.inl (by rfl))) ?_
  rw [hud]
  refine Ex.cons (Es.asg (Ev.bin (by walk_at "ev") Ev.int (bAnd63 c)) (.inl (by rfl))) ?_
  have hl := varint_loop P (A := A) (L := L) (a := 107) (q := q) (cd := cd) (cl := []) (E := E) (W := [it]) (I := fun _ => True) (fs := []) (it := it) (b := b) ds c (c % 64) (i + 1) h1 (fun j e hj => by
      have := h2 (j + 1) e hj
      rw [show i + (j + 1) = i + 1 + j by omega] at this; exact this) (by
      have e1 : 64 ^ ds.length ≤ 64 ^ 5 := Nat.pow_le_pow_right (by decide) h3
      have e2 : c % 64 + 1 ≤ 64 := Nat.mod_lt _ (by decide)
      exact Nat.le_trans (Nat.mul_le_mul e2 e1) (by decide))
  rw [show i + 1 + ds.length = i + (c :: ds).length by rw [List.length_cons]; omega] at hl
  refine Ex.cons (Es.while hl) (Ex.head (Es.ret (by walk_at "ev")))
theorem varintStop {C : Cx} (P : PX C) {F : Ghost} {it : Addr} {b : Array UInt8} {i : Nat} (h : b[i]? = none) : FnXW C 3 F (.ref 107) [.val (.ref it)] [] [(it, BIt b i)] (.type "StopIteration") (· = []) := ⟨fun F₁ s A l fs vals kvs hF ok => by
  obtain ⟨fd, D⟩ := P.varint
  obtain ⟨pm, cd, doc, rfl⟩ := D.e
  refine (FnXW.body (d := 2) (I := fun _ => True) (ρ := [(kIter, .val (.ref it))]) (ρf := []) (D.d.g ok) trivial Mono.triv rfl rfl (HB.one (x := kIter) fun v s => BindsTo.of_eq rfl) (by simp only [List.map_cons, List.map_nil]; decide) (by show ∀ x ∈ [kIter], (fnScope sVarint).names.lookup x = some .local; decide +kernel) (fun x b e => nomatch e) (by show ∀ x ∈ (fnScope sVarint).names, x.2 ≠ NameKind.cell; decide +kernel) rfl rfl rfl (by simp) fun A L q E fs l hq room S => ⟨[(kIter, .val (.ref it))], [(it, AnyO)], ?_⟩).h F₁ s A l fs vals kvs (GLe.refl _) ok
  exact Ex.head (Es.asgStop room.deeper.hd (by walk_at "ev") (by walk_at "ev") .here h)⟩
theorem notTuple_SI : isSubtype (.type ((Manifest.find? "StopIteration").elim "type" fun y => y.metatype)) (.type "tuple") = pure false := by
  rw [show ((Manifest.find? "StopIteration").elim "type" fun y => y.metatype) = "type" from by kernel_rfl, isSubtype_type]; kernel_rfl
/- octets of one number -/
noncomputable def isNum : List Nat → Prop
  | [] => False
  | c :: ds => goesOn c ds ∧ ds.length ≤ 5
theorem isNum.pos {cs : List Nat} (h : isNum cs) : 1 ≤ cs.length := by
  cases cs with
  | nil => exact h.elim
  | cons c ds => simp
theorem flat_len : ∀ {css : List (List Nat)}, (∀ cs ∈ css, isNum cs) → css.length ≤ css.flatten.length
  | [], _ => Nat.le_refl _
  | cs :: r, h => by
    have h1 := (h cs (.head _)).pos
    have h2 := flat_len fun x hx => h x (.tail _ hx)
    rw [List.length_cons, List.flatten_cons, List.length_append]; omega
theorem octs_at {ds : List Nat} {i d : Nat} (hr : ∀ n ∈ ds, n < 256) (h : ds[i]? = some d) : ((octs ds)[i]?).map UInt8.toNat = some d := by
  unfold octs zls
  rw [List.getElem?_toArray, List.getElem?_map, List.getElem?_map, h]
  have := hr d (List.mem_of_getElem? h)
  simp [Nat.mod_eq_of_lt this]
theorem octs_size (ds : List Nat) : (octs ds).size = ds.length := by simp [octs, zls]
theorem flat_at : ∀ {css : List (List Nat)} {i j d : Nat} {cs : List Nat}, css[i]? = some cs → cs[j]? = some d → css.flatten[((css.take i).flatten).length + j]? = some d
  | [], _, _, _, _, h, _ => by simp at h
  | c :: r, 0, j, d, cs, h, hj => by
    simp at h; subst h
    have hl := (List.getElem?_eq_some_iff.mp hj).1
    rw [List.take_zero, List.flatten_nil, List.length_nil, Nat.zero_add, List.flatten_cons, List.getElem?_append_left hl]; exact hj
  | c :: r, i + 1, j, d, cs, h, hj => by
    simp at h
    have := flat_at h hj
    have e1 : ((c :: r.take i).flatten).length = c.length + (r.take i).flatten.length := by rw [List.flatten_cons, List.length_append]
    rw [List.take_succ_cons, List.flatten_cons, e1, List.getElem?_append_right (by first | assumption | decide | omega), show c.length + (r.take i).flatten.length + j - c.length = (r.take i).flatten.length + j by omega]
    exact this
noncomputable def posAt (css : List (List Nat)) (i : Nat) : Nat := ((css.take i).flatten).length
theorem posAt_succ {css : List (List Nat)} {i : Nat} {cs : List Nat} (h : css[i]? = some cs) : posAt css (i + 1) = posAt css i + cs.length := by
  unfold posAt
  rw [List.take_add_one, h, List.flatten_append, List.length_append]; simp
noncomputable abbrev kTold2 : Str := Str.ofString "told"
noncomputable def readRho (it l : Addr) : Rho := [(kTold, .val (.ref l)), (kTape, .val (.ref it))]
noncomputable def tolds (css : List (List Nat)) (i : Nat) : List AV := nints ((css.take i).map readV)
noncomputable def tryBody : Stmt → List Stmt
  | .Try b .. => b
  | _ => []
noncomputable def forTgt : Stmt → Expr
  | .For t .. => t
  | _ => default
noncomputable def sReadFor : Stmt := nth (tryBody (nth (fnBody sRead) 2)) 0
theorem FoX.sub {C : Cx} {fm : Fm} {ρ ρ' : Rho} {σ : Sig} {P : Ghost → Shared → Value → Shared → Prop} {tgt it xs ys} (h : FoX C fm ρ' σ tgt it xs ys P) (hs : Sub ρ' ρ) : FoX C fm ρ σ tgt it xs ys P := ⟨fun F s X => h.h F s (X.sub hs)⟩
theorem readFn {C : Cx} (P : PX C) {F : Ghost} {css : List (List Nat)} (hc : ∀ cs ∈ css, isNum cs) (hr : ∀ n ∈ css.flatten, n < 256) (hz : css.flatten.length ≤ 1000) : FnS C 8 F (.ref 126) [lst css.flatten] [] (.list (nints (css.map readV))) := by
  obtain ⟨fd, D⟩ := P.read
  obtain ⟨pm, cd, doc, rfl⟩ := D.e
  refine FnS.body (d := 7) (I := fun _ => True) (ρ := [(kOctets, lst css.flatten)]) D.d trivial Mono.triv (HB.one (x := kOctets) fun v s => BindsTo.of_eq rfl) (by simp only [List.map_cons, List.map_nil]; decide) (by simp only [List.map_cons, List.map_nil]; decide +kernel) rfl rfl rfl fun A L q E fs l hq room S => ⟨.ret _ [], rfl, ?_⟩
  have rm : Room (A.deeper (fenv (fnScope sRead) L 126 q cd)) 7 := room.deeper
  refine Ex.newO (o := BIt (octs css.flatten) 0) (EvO.iter (by walk_at "ev") (Ev.call (d := 1) (rm.le (by decide)) (by walk_at "ev") (Evs.cons (by walk_at "ev") Evs.nil) Evk.nil fun _ _ _ => ⟨.inr (.inl ⟨_, rfl⟩), fnBytes hr (by first | assumption | decide | omega)⟩)) (.inl (by rfl)) fun it hit => ?_
  refine Ex.new (xs := []) (EvN.lst Evs.nil) (.inl (by rfl)) fun a ha => ?_
  have hcl := flat_len hc
  have hadd : ((zls css.flatten).map AV.int).length + [AV.int 0].length ≤ 1000000 := by rw [List.length_map, zls_len, List.length_singleton]; omega
  refine Ex.head (Es.tryH (A := A) (τ := [(it, BIt (octs css.flatten) css.flatten.length)]) (σ₁ := [(a, .lst (tolds css css.length))]) (ρ₁ := readRho it a) (xa := (· = [])) S rfl rfl (Ex.one (Es.forX (vs := (zls css.flatten).map .int ++ [.int 0]) rfl (Src.list rm.hd (Ev.addL (by walk_at "ev") (Ev.lst (Evs.cons Ev.int Evs.nil)) hadd)) fun ito τi I hE => ?_)) (fun p hp => by rw [List.mem_singleton] at hp; subst hp; exact hit) (by rfl) (PX.gl P _ _ (by rfl)) (by decide) owsi_raise.isExc notTuple_SI isSubtype_stop fun v => Ex.frz (Ex.head (Es.ret ((Ev.loc (by rfl) (by rfl)).eq (by unfold tolds; rw [List.take_length])))))
  have key : ∀ k i, i + k = css.length → FoX C (ffm A (fnScope sRead) L 126 q (fdP sRead pm cd doc).code E (fun _ => True) fs) (readRho it a) (τi i ++ [(a, .lst (tolds css i)), (it, BIt (octs css.flatten) (posAt css i))]) (forTgt sReadFor) ito (forBody sReadFor) [] (ComesH C (ffm A (fnScope sRead) L 126 q (fdP sRead pm cd doc).code E (fun _ => True) fs) (readRho it a) [(it, BIt (octs css.flatten) css.flatten.length)] [(a, .lst (tolds css css.length))] (L :: fs) (fenv (fnScope sRead) L 126 q (fdP sRead pm cd doc).code :: l) (.type "StopIteration") (· = [])) := by
    intro k
    induction k with
    | zero =>
      intro i hi
      have hi' : i = css.length := by omega
      subst hi'
      have hx : ∃ x, ((zls css.flatten).map AV.int ++ [.int 0])[css.length]? = some x := ⟨_, List.getElem?_eq_getElem (by rw [List.length_append, List.length_map, zls_len]; simp only [List.length_singleton]; omega)⟩
      obtain ⟨x, hx⟩ := hx
      have hp : posAt css css.length = css.flatten.length := by unfold posAt; rw [List.take_length]
      rw [hp]
      refine FoX.stop (A := A) (bd := [(kOctet, x)]) S rfl rfl I hx (As.name (.inl (by rfl))) (Ex.sub (ρ' := readRho it a) (Ex.sig (Ex.one (Es.appendX (by walk_at "ev") (EvXW.call (A := A) (d := 3) (rm.le (by decide)) S rfl rfl (by walk_at "ev") (Evs.cons (by walk_at "ev") Evs.nil) Evk.nil (List.Perm.swap _ _ _) (fun p hp => by rw [List.mem_singleton] at hp; subst hp; exact hit) fun F s X => ⟨Def.kp (P.varint.choose_spec.d) X.ok, varintStop P (by rw [Array.getElem?_eq_none_iff, octs_size]; omega)⟩) (.head _))) (List.sublist_append_right _ _)) (Sub.cons (by rfl) (Sub.cons (by rfl) Sub.nil)))
    | succ k ih =>
      intro i hi
      have hlt : i < css.length := by omega
      obtain ⟨cs, hcs⟩ : ∃ cs, css[i]? = some cs := ⟨_, List.getElem?_eq_getElem hlt⟩
      have hx : ∃ x, ((zls css.flatten).map AV.int ++ [.int 0])[i]? = some x := ⟨_, List.getElem?_eq_getElem (by rw [List.length_append, List.length_map, zls_len]; simp only [List.length_singleton]; omega)⟩
      obtain ⟨x, hx⟩ := hx
      have hn := hc cs (List.mem_of_getElem? hcs)
      have ht : tolds css (i + 1) = tolds css i ++ [.int (readV cs : Nat)] := by
        unfold tolds
        rw [List.take_add_one, hcs, List.map_append, nints, List.map_append]; rfl
      have hlen : (tolds css i).length ≤ 1000000 := by
        unfold tolds; rw [List.length_map, List.length_map, List.length_take]; omega
      have ih' := ih (i + 1) (by first | assumption | decide | omega)
      rw [ht, posAt_succ hcs] at ih'
      have fnv : ∀ F, FnW C 3 F (.ref 107) [.val (.ref it)] [] [(it, BIt (octs css.flatten) (posAt css i))] (.int (readV cs : Nat)) [(it, BIt (octs css.flatten) (posAt css i + cs.length))] := fun F => by
        cases cs with
        | nil => exact hn.elim
        | cons c ds => exact varintFn P hn.1 (fun j d hj => octs_at hr (flat_at hcs hj)) hn.2
      refine FoX.turn (bd := [(kOctet, x)]) I hx (As.name (.inl (by rfl))) (Ex.fgt (Ex.one (Es.expr (EvM.append (by walk_at "ev") (EvM.call (d := 3) (rm.le (by decide)) (by walk_at "ev") (Evs.cons (by walk_at "ev") Evs.nil) Evk.nil (Upd.app (.there .here)) fun F s X => ⟨Def.kp (P.varint.choose_spec.d) X.ok, fnv F⟩) (List.mem_append_right _ (.head _)) (Upd.app .here) hlen))) (Sub.cons (by rfl) (Sub.cons (by rfl) Sub.nil))) ih'
  exact FoX.sub (key css.length 0 (by first | assumption | decide | omega)) (Sub.cons (by rfl) (Sub.cons (by rfl) Sub.nil))
section
open PySem.W PyProof.Rows PySem.Calls
noncomputable def runK {α : Type} (lt : Nat → Nat → Bool) : KasT α → α
  | .ret a => a
  | .ask i j k => runK lt (k (lt i j))
noncomputable def fineK {α : Type} (n : Nat) (lt : Nat → Nat → Bool) : KasT α → Bool
  | .ret _ => true
  | .ask i j k => Nat.blt i n && (Nat.blt j n && fineK n lt (k (lt i j)))
theorem runK_same {α : Type} {n : Nat} {lt lt' : Nat → Nat → Bool} (e : ∀ i j, i < n → j < n → lt i j = lt' i j) : ∀ t : KasT α, fineK n lt t = true → fineK n lt' t = true ∧ runK lt t = runK lt' t
  | .ret a, _ => ⟨rfl, rfl⟩
  | .ask i j k, h => by
    have h1 := (Bool.and_eq_true _ _).mp h
    have h2 := (Bool.and_eq_true _ _).mp h1.2
    have hi : i < n := Nat.blt_eq.mp h1.1
    have hj : j < n := Nat.blt_eq.mp h2.1
    have g := runK_same e (k (lt i j)) h2.2
    rw [e i j hi hj] at g
    exact ⟨(Bool.and_eq_true _ _).mpr ⟨h1.1, (Bool.and_eq_true _ _).mpr ⟨h2.1, g.1⟩⟩, by show runK lt (k (lt i j)) = runK lt' (k (lt' i j)); rw [e i j hi hj]; exact g.2⟩
theorem wpK {α : Type} {n : Nat} {lt : Nat → Nat → Bool} {cmp : Nat → Nat → (Bool → Shared → Prop) → Shared → Prop} {Q : α → Shared → Prop} {s : Shared}
    (hc : ∀ i j, i < n → j < n → ∀ C : Bool → Shared → Prop, C (lt i j) s → cmp i j C s) : ∀ t : KasT α, fineK n lt t = true → Q (runK lt t) s → t.kasWp cmp Q s
  | .ret a, _, h => h
  | .ask i j k, hf, h => by
    have h1 := (Bool.and_eq_true _ _).mp hf
    have h2 := (Bool.and_eq_true _ _).mp h1.2
    exact hc i j (Nat.blt_eq.mp h1.1) (Nat.blt_eq.mp h2.1) _ (wpK hc (k (lt i j)) h2.2 h)
/- a relation on five, by its ten bits -/
noncomputable def ltB (b : List Bool) (i j : Nat) : Bool := if i < j then b.getD (i * (9 - i) / 2 + (j - i - 1)) false else if j < i then !(b.getD (j * (9 - j) / 2 + (i - j - 1)) false) else false
noncomputable def transB (b : List Bool) : Bool := (List.range 5).all fun i => (List.range 5).all fun j => !(ltB b i j) || (List.range 5).all fun k => !(ltB b j k) || ltB b i k
noncomputable def sortedB (lt : Nat → Nat → Bool) : List Nat → Bool
  | [] => true
  | i :: r => r.all (lt i) && sortedB lt r
noncomputable def okB (b : List Bool) : Bool := !(transB b) || (fineK 5 (ltB b) (kas_sort 5) && ((runK (ltB b) (kas_sort 5)).size == 5 && ((runK (ltB b) (kas_sort 5)).toList.isPerm [0, 1, 2, 3, 4] && sortedB (ltB b) (runK (ltB b) (kas_sort 5)).toList)))
noncomputable def allB : Nat → List Bool → Bool
  | 0, b => okB b
  | n + 1, b => allB n (true :: b) && allB n (false :: b)
theorem allB_ok : allB 10 [] = true := by decide +kernel
theorem allB_get : ∀ n b, allB n b = true → ∀ c : List Bool, c.length = n → okB (c.reverse ++ b) = true
  | 0, b, h, [], _ => h
  | n + 1, b, h, x :: c, e => by
    have h1 := (Bool.and_eq_true _ _).mp h
    rw [List.reverse_cons, List.append_assoc]
    cases x
    · exact allB_get n _ h1.2 c (by simpa using e)
    · exact allB_get n _ h1.1 c (by simpa using e)
end
section
open PySem.W PyProof.Rows PySem.Calls
variable {C : Cx} {F : Ghost} {s : Shared}
noncomputable def lexLt (p q : Int × Int) : Bool := decide (p.1 < q.1 ∨ p.1 = q.1 ∧ p.2 < q.2)
theorem lexLt_irr (p : Int × Int) : lexLt p p = false := decide_eq_false (by first | assumption | decide | omega)
theorem lexLt_trans {p q r : Int × Int} (h : lexLt p q = true) (h2 : lexLt q r = true) : lexLt p r = true := by
  have a := of_decide_eq_true h
  have b := of_decide_eq_true h2
  exact decide_eq_true (by first | assumption | decide | omega)
theorem lexLt_anti {p q : Int × Int} (h : p ≠ q) : lexLt q p = !lexLt p q := by
  obtain ⟨a, b⟩ := p
  obtain ⟨c, d⟩ := q
  have h' : ¬ (a = c ∧ b = d) := fun ⟨x, y⟩ => h (by rw [x, y])
  unfold lexLt
  rw [← decide_not]
  exact decide_eq_decide.mpr (by dsimp only; omega)
theorem keyLt_pairs {A : Around} {C' : Bool → Shared → Prop} {x y : Value} {p q : Int × Int} {E : Value → Shared → Prop} {h : Heap} (hx : ∃ a o t u n, x = .ref a ∧ h.get? a = some o ∧ o.data = .seq #[.int p.1 t, .int p.2 u] n) (hy : ∃ a o t u n, y = .ref a ∧ h.get? a = some o ∧ o.data = .seq #[.int q.1 t, .int q.2 u] n)
    (hs : s.heap = h) (hq : C' (lexLt p q) s) : wpAny C.M A (keyLt' (tuples' true) x y) C' E s := by
  subst hs
  obtain ⟨a, o, t, u, n, rfl, ho, hd⟩ := hx
  obtain ⟨a', o', t', u', n', rfl, ho', hd'⟩ := hy
  refine kat_lt ho hd ho' hd' ?_
  show KatLex _ _ _ _ _ _ [(Value.int p.1 t, Value.int q.1 t'), (Value.int p.2 u, Value.int q.2 u')] 0 _
  refine kat_cons (wpAny_eqBool_int ?_)
  refine kat_go (fun e1 => kat_yes (kat_cons (wpAny_eqBool_int (kat_go (fun e2 => kat_yes (kat_nil ?_)) fun e2 => kat_no (kat_one _ _ (PyProof.Rows.lt_int (show C' _ s from ?_))))))) fun e1 => kat_no (oneLt_int ?_)
  · have e1 := eq_of_beq e1; have e2 := eq_of_beq e2
    rw [show lexLt p q = false from decide_eq_false (by first | assumption | decide | omega)] at hq
    exact hq
  · have e1 := eq_of_beq e1
    rwa [show lexLt p q = decide (p.2 < q.2) from decide_eq_decide.mpr (by first | assumption | decide | omega)] at hq
  · have e1 : p.1 ≠ q.1 := fun e => by rw [e] at e1; simp at e1
    rwa [show lexLt p q = decide (p.1 < q.1) from decide_eq_decide.mpr (by first | assumption | decide | omega)] at hq
theorem getD_of_get {xs : List AV} {vs : List Value} {i : Nat} {x : AV} (hr : Reps F xs vs) (h : xs[i]? = some x) : Rep F x (vs.getD i Value.none) := by
  obtain ⟨v, e, r⟩ := hr.get h
  rw [List.getD, e]; exact r
theorem range5 (ps : List (Int × Int)) (h5 : ps.length = 5) : [0, 1, 2, 3, 4].map (fun i => ps.getD i (0, 0)) = ps := by
  match ps, h5 with
  | [a, b, c, d, e], _ => rfl
theorem sortedB_pw {lt : Nat → Nat → Bool} : ∀ l : List Nat, sortedB lt l = true → l.Pairwise fun i j => lt i j = true
  | [], _ => .nil
  | i :: r, h => by
    have h := (Bool.and_eq_true _ _).mp h
    exact .cons (fun j hj => List.all_eq_true.mp h.1 j hj) (sortedB_pw r h.2)
noncomputable def fivePairs : List (Nat × Nat) := [(0, 1), (0, 2), (0, 3), (0, 4), (1, 2), (1, 3), (1, 4), (2, 3), (2, 4), (3, 4)]
theorem fivePairs_at : ∀ j, j < 5 → ∀ i, i < j → fivePairs[i * (9 - i) / 2 + (j - i - 1)]? = some (i, j) := by decide +kernel
theorem run_five {ps qs : List (Int × Int)} (h5 : ps.length = 5) (hne : ps.Pairwise (· ≠ ·)) (hpm : qs.Perm ps) (hso : qs.Pairwise fun p q => lexLt p q = true) :
    fineK 5 (fun i j => lexLt (ps.getD i (0, 0)) (ps.getD j (0, 0))) (kas_sort 5) = true ∧ (runK (fun i j => lexLt (ps.getD i (0, 0)) (ps.getD j (0, 0))) (kas_sort 5)).toList.map (fun i => ps.getD i (0, 0)) = qs ∧ ∀ i ∈ (runK (fun i j => lexLt (ps.getD i (0, 0)) (ps.getD j (0, 0))) (kas_sort 5)).toList, i < 5 := by
  generalize hf : (fun i j => lexLt (ps.getD i (0, 0)) (ps.getD j (0, 0))) = lt
  have hlt : ∀ i j, lt i j = lexLt (ps.getD i (0, 0)) (ps.getD j (0, 0)) := fun i j => by rw [← hf]
  have irr : ∀ i, lt i i = false := fun i => by rw [hlt]; exact lexLt_irr _
  have tra : ∀ i j k, lt i j = true → lt j k = true → lt i k = true := fun i j k a b => by rw [hlt] at *; exact lexLt_trans a b
  have anti : ∀ i j, i < j → j < 5 → lt j i = !lt i j := fun i j h h2 => by
    rw [hlt, hlt]
    refine lexLt_anti ?_
    have hi : i < ps.length := by omega
    have hj : j < ps.length := by omega
    have := List.pairwise_iff_getElem.mp hne i j hi hj h
    rwa [List.getD, List.getD, List.getElem?_eq_getElem hi, List.getElem?_eq_getElem hj]
  generalize hb : fivePairs.map (fun p => lt p.1 p.2) = b
  have tab : ∀ i j, i < j → j < 5 → b.getD (i * (9 - i) / 2 + (j - i - 1)) false = lt i j := fun i j h h2 => by
    rw [← hb, List.getD_eq_getElem?_getD, List.getElem?_map, fivePairs_at j h2 i h]; rfl
  have same : ∀ i j, i < 5 → j < 5 → ltB b i j = lt i j := fun i j hi hj => by
    unfold ltB
    rcases Nat.lt_trichotomy i j with h | rfl | h
    · rw [if_pos h, tab i j h hj]
    · rw [if_neg (Nat.lt_irrefl _), if_neg (Nat.lt_irrefl _), irr]
    · rw [if_neg (by first | assumption | decide | omega), if_pos h, tab j i h hi, anti j i h hi]
  have htr : transB b = true := List.all_eq_true.mpr fun i hi => List.all_eq_true.mpr fun j hj => by
    have hi := List.mem_range.mp hi
    have hj := List.mem_range.mp hj
    rw [same i j hi hj]
    cases e : lt i j with
    | false => rfl
    | true =>
      refine List.all_eq_true.mpr fun k hk => ?_
      have hk := List.mem_range.mp hk
      rw [same j k hj hk, same i k hi hk]
      cases e2 : lt j k with
      | false => rfl
      | true => rw [tra i j k e e2]; rfl
  have hok : okB b = true := by
    have := allB_get 10 [] allB_ok b.reverse (by rw [← hb]; rfl)
    rwa [List.reverse_reverse, List.append_nil] at this
  unfold okB at hok
  rw [htr] at hok
  have h1 := (Bool.and_eq_true _ _).mp hok
  have h2 := (Bool.and_eq_true _ _).mp h1.2
  have h3 := (Bool.and_eq_true _ _).mp h2.2
  have g := runK_same same _ h1.1
  rw [g.2] at h2 h3
  have pm : (runK lt (kas_sort 5)).toList.Perm [0, 1, 2, 3, 4] := List.isPerm_iff.mp h3.1
  have lo : ∀ i ∈ (runK lt (kas_sort 5)).toList, i < 5 := fun i hi => by
    have := pm.mem_iff.mp hi
    simp at this
    omega
  refine ⟨g.1, ?_, lo⟩
  refine List.Perm.eq_of_pairwise (le := fun p q => lexLt p q = true) (fun x y _ _ a b => absurd (lexLt_trans a b) (by rw [lexLt_irr]; decide)) ?_ hso ?_
  · rw [List.pairwise_map]
    refine (sortedB_pw _ h3.2).imp_of_mem fun {i j} hi hj h => ?_
    rw [same i j (lo i hi) (lo j hj), hlt] at h
    exact h
  · have := pm.map fun i => ps.getD i (0, 0)
    rw [range5 ps h5] at this
    exact this.trans hpm.symm
theorem repsAt {ps : List (Int × Int)} {vs : List Value} (h5 : ps.length = 5) (hr : Reps F (rowA ps) vs) : ∀ l : List Nat, (∀ i ∈ l, i < 5) → Reps F (rowA (l.map fun i => ps.getD i (0, 0))) (l.map fun i => vs.getD i Value.none) := fun l => by
  induction l with
  | nil => exact fun _ => rNil
  | cons i l ih => exact fun hl => rCons (getD_of_get hr (x := .tup [.int (ps.getD i (0, 0)).1, .int (ps.getD i (0, 0)).2]) (by
      have hi' : i < ps.length := by rw [h5]; exact hl i (.head _)
      rw [List.getElem?_map, List.getD, List.getElem?_eq_getElem hi']; rfl)) (ih fun j hj => hl j (List.mem_cons_of_mem _ hj))
theorem collect_objs (h : Heap) (vs : Array Value) : ((h.push (seqObj "list" #[] 0)).update h.objs.size (Obj.mapSeq (· ++ vs))).objs.size = h.objs.size + 1 := by
  rw [Heap.size_update, size_push']
/- a list of five pairs, sorted -/
theorem fnSorted {d : Nat} {ps qs : List (Int × Int)} (h5 : ps.length = 5) (hne : ps.Pairwise (· ≠ ·)) (hpm : qs.Perm ps) (hso : qs.Pairwise fun p q => lexLt p q = true) : Fn C d F (.builtin "sorted") [.list (rowA ps)] [] (.list (rowA qs)) := Fn.bi fun F s A vals Q E ok room r h => by
  obtain ⟨v, r', rfl, rv, rn⟩ := r.ocons
  obtain rfl := rn.onil
  obtain ⟨l, vs, rfl, hq, hr⟩ := rv.olst
  have hlen : vs.length = 5 := by rw [← hr.length, List.length_map, h5]
  have hl : s.heap.IsList l vs.toArray := hq.lst ok
  refine Calls.call_function_entry kind_sorted plain_sorted entry_sorted (args_sorted1 _) ?_
  unfold Builtin.«sorted»
  refine wpAny_bind (m := checkCount "sorted" 1 1 _) (wpAny_pure ?_)
  refine wpAny_bind (collect_list hl ?_ (by rw [sizeLine_eq]; omega))
  refine wpAny_bind (wpAny_newList ?_ (by rw [sizeLine_eq]; omega))
  have hsz := collect_objs s.heap vs.toArray
  generalize hh2 : (s.heap.push (seqObj "list" #[] 0)).update s.heap.objs.size (Obj.mapSeq (· ++ vs.toArray)) = h2 at *
  have k2 : ∀ b o, s.heap.get? b = some o → h2.get? b = some o := fun b o q => by
    have hlt : b < s.heap.objs.size := Heap.lt_size q
    rw [← hh2, Heap.get?_update_ne _ _ _ _ (Nat.ne_of_lt hlt), Heap.get?_push_ne _ _ _ (Nat.ne_of_lt hlt)]
    exact q
  have hoL : (h2.push (seqObj "list" vs.toArray 0)).get? h2.objs.size = some (seqObj "list" vs.toArray 0) := Heap.get?_push_size _ rfl
  generalize hA : h2.objs.size = a at *
  show wpAny _ _ _ _ _ { s with heap := h2.push (seqObj "list" vs.toArray 0) }
  have k3 : ∀ b o, s.heap.get? b = some o → (h2.push (seqObj "list" vs.toArray 0)).get? b = some o := fun b o q => Heap.get?_push_of_some _ (k2 b o q)
  have sl : s.heap.get? a = none := Heap.get?_none_of_le (by first | assumption | decide | omega)
  refine wpAny_bind (wpAny_holding (wpAny_call_entry slot_list_sort ⟨_, hoL, rfl⟩ entry_list_sort ?_ (args_list_sort _)))
  rw [list_sort_plain]
  refine wpAny_bind (listItems_at hoL rfl ?_)
  refine wpAny_bind (listUpdate_at hoL rfl ?_ (by rw [List.size_toArray, sizeLine_eq]; omega) (Nat.zero_le _))
  generalize hh3 : (h2.push (seqObj "list" vs.toArray 0)) = h3 at *
  obtain ⟨e1, ho1⟩ : ∃ e1, (h3.update a (Obj.mapSeq fun _ => (#[] : Array Value))).get? a = some (seqObj "list" #[] e1) := ⟨_, get?_update_seq hoL fun _ => #[]⟩
  refine wpAny_bind (seqEpoch_at ho1 rfl ?_)
  refine wpAny_bind (wpAny_newTuple ?_ (by show vs.length ≤ _; rw [sizeLine_eq]; omega))
  refine wpAny_bind (wpAny_newList ?_ (Nat.zero_le _))
  refine wpAny_holding ?_
  have k4 : ∀ b o, s.heap.get? b = some o → (((h3.update a (Obj.mapSeq fun _ => (#[] : Array Value))).push (seqObj "tuple" vs.toArray 0)).push (seqObj "list" #[] 0)).get? b = some o := fun b o q => by
    refine Heap.get?_push_of_some _ (Heap.get?_push_of_some _ ?_)
    rw [Heap.get?_update_ne _ _ _ _ (fun e => by rw [e, sl] at q; cases q)]
    exact k3 b o q
  have ho4 : (((h3.update a (Obj.mapSeq fun _ => (#[] : Array Value))).push (seqObj "tuple" vs.toArray 0)).push (seqObj "list" #[] 0)).get? a = some (seqObj "list" #[] e1) := Heap.get?_push_of_some _ (Heap.get?_push_of_some _ ho1)
  show wpAny _ _ _ _ _ { s with heap := ((h3.update a (Obj.mapSeq fun _ => (#[] : Array Value))).push (seqObj "tuple" vs.toArray 0)).push (seqObj "list" #[] 0) }
  generalize ((h3.update a (Obj.mapSeq fun _ => (#[] : Array Value))).push (seqObj "tuple" vs.toArray 0)).push (seqObj "list" #[] 0) = h4 at *
  dsimp only
  have hn2 : ¬ vs.toArray.size < 2 := by rw [List.size_toArray]; omega
  rw [if_neg hn2, if_neg hn2]
  have g4 := Grow.heap ok (h' := h4) (n := s.toks) k4
  have at5 : ∀ i, i < 5 → ∃ b o t u n, vs.getD i Value.none = .ref b ∧ h4.get? b = some o ∧ o.cls = .type "tuple" ∧ o.data = .seq #[.int (ps.getD i (0, 0)).1 t, .int (ps.getD i (0, 0)).2 u] n := fun i hi => by
    have hi' : i < ps.length := by omega
    have r1 := getD_of_get hr (i := i) (x := .tup [.int (ps.getD i (0, 0)).1, .int (ps.getD i (0, 0)).2]) (by rw [List.getElem?_map, List.getD, List.getElem?_eq_getElem hi']; rfl)
    obtain ⟨b, ws, e, ⟨o, n, ho, hc, hd⟩, hw⟩ := r1.otup
    obtain ⟨x, ws, rfl, rx, hw⟩ := hw.ocons
    obtain ⟨y, ws, rfl, ry, hw⟩ := hw.ocons
    obtain rfl := hw.onil
    obtain ⟨t, rfl⟩ := rx.oint
    obtain ⟨u, rfl⟩ := ry.oint
    exact ⟨b, o, t, u, n, e, k4 _ _ (ok.sub _ _ ho), hc, hd⟩
  have kt : ∃ fs, KatTups h4 vs fs ∧ 0 < fs.length ∧ ∀ f ∈ fs, ∃ i t, f = Value.int i t := by
    have go : ∀ l : List Value, (∀ v ∈ l, ∃ i, i < 5 ∧ vs.getD i Value.none = v) → ∃ fs, KatTups h4 l fs ∧ fs.length = l.length ∧ ∀ f ∈ fs, ∃ i t, f = Value.int i t := fun l => by
      induction l with
      | nil => exact fun _ => ⟨[], .nil, rfl, fun _ h => nomatch h⟩
      | cons v l ih =>
        intro hl
        obtain ⟨fs, a, b, c⟩ := ih fun v hv => hl v (List.mem_cons_of_mem _ hv)
        obtain ⟨i, hi, e⟩ := hl v (.head _)
        obtain ⟨x, o, t, u, n, e2, ho, hc, hd⟩ := at5 i hi
        rw [e] at e2
        subst e2
        exact ⟨_, .cons ho hc hd rfl a, congrArg (· + 1) b, fun f hf => (List.mem_cons.mp hf).elim (fun e => ⟨_, _, e⟩) (c f)⟩
    obtain ⟨fs, a, b, c⟩ := go vs fun v hv => by
      obtain ⟨i, hi, e⟩ := List.mem_iff_getElem.mp hv
      exact ⟨i, by omega, by rw [List.getD, List.getElem?_eq_getElem hi, e]; rfl⟩
    exact ⟨fs, a, by omega, c⟩
  obtain ⟨fs, kt, kn, ki⟩ := kt
  obtain ⟨f1, f2, f3⟩ := run_five h5 hne hpm hso
  refine wpAny_bind (kat_kind (s := { s with heap := h4 }) (T := .type "int") kt kn (fun v hv => by obtain ⟨i, t, rfl⟩ := ki v hv; exact Looks.now) rfl ?_)
  generalize hf : (fun i j => lexLt (ps.getD i (0, 0)) (ps.getD j (0, 0))) = lt at *
  have hlt : ∀ i j, lt i j = lexLt (ps.getD i (0, 0)) (ps.getD j (0, 0)) := fun i j => by rw [← hf]
  have run := wpK (n := 5) (lt := lt) (cmp := kas_ask C.prog C.w A.in1.in1 (tuples' true) vs) (s := { s with heap := h4 }) (Q := fun p s' => p = runK lt (kas_sort 5) ∧ s' = { s with heap := h4 }) (fun i j hi hj C' q => by
    obtain ⟨b, o, t, u, n, e, ho, hc, hd⟩ := at5 i hi
    obtain ⟨b', o', t', u', n', e', ho', hc', hd'⟩ := at5 j hj
    exact keyLt_pairs (h := h4) ⟨b, o, t, u, n, e, ho, hd⟩ ⟨b', o', t', u', n', e', ho', hd'⟩ rfl (by rw [← hlt]; exact q)) (kas_sort 5) f1 ⟨rfl, rfl⟩
  refine wpAny_bind (wpAny_mono (kat_run (Q := fun st' s' => ∃ p : Array Nat, p.size = vs.length ∧ arrOf st' = p.map (kas_item (vs.toArray.zip vs.toArray)) ∧ failedOf st' = none ∧ p = runK lt (kas_sort 5) ∧ s' = { s with heap := h4 })
    rfl (by first | assumption | decide | omega) (by first | assumption | decide | omega) (fun p' st' s' a1 a2 a3 a4 => ⟨p', a1, a2, a3, a4⟩) (by rw [hlen]; exact run)) ?_ fun _ _ e => e)
  rintro ⟨⟨⟩, st'⟩ s' ⟨p, hp, har, hff, rfl, rfl⟩
  dsimp only
  rw [kat_snds rfl har, hff]
  have hos : (List.toArray ((runK lt (kas_sort 5)).toList.map fun i => vs.getD i Value.none)).size ≤ sizeLine := by rw [List.size_toArray, List.length_map, Array.length_toList, hp, sizeLine_eq]; omega
  have hor : Reps F (rowA qs) (List.toArray ((runK lt (kas_sort 5)).toList.map fun i => vs.getD i Value.none)).toList := by
    rw [← f2]
    exact repsAt h5 hr _ f3
  generalize List.toArray ((runK lt (kas_sort 5)).toList.map fun i => vs.getD i Value.none) = out at hos hor ⊢
  refine wpAny_bind (seqEpoch_at ho4 rfl ?_)
  refine wpAny_bind (listUpdate_at ho4 rfl ?_ (Nat.zero_le _) (Nat.le_succ_of_le hos))
  simp only [bne_self_eq_false, Bool.false_eq_true, if_false]
  have k5 : ∀ b o, s.heap.get? b = some o → (h4.update a (Obj.mapSeq fun _ => out)).get? b = some o := fun b o q => by
    rw [Heap.get?_update_ne _ _ _ _ (fun e => by rw [e, sl] at q; cases q)]
    exact k4 b o q
  obtain ⟨c2, hc2⟩ : ∃ c2, (h4.update a (Obj.mapSeq fun _ => out)).get? a = some (seqObj "list" (out) c2) := ⟨_, get?_update_seq ho4 fun _ => out⟩
  refine wpAny_pure ⟨.none, rfl, wpAny_pure ?_⟩
  have g5 := Grow.heap ok (n := s.toks) k5
  have hn := ok.none_of_dead sl
  refine ⟨_, rfl, h _ _ _ (Gr.frz ok g5 sl hc2 hn) (rLst ⟨_, _, Ghost.add_self _ _ _, rfl, rfl⟩ (Reps.mono (Ghost.le_add hn) _ _ ?_))⟩
  exact hor
end
section
variable {C : Cx} {fm : Fm} {ρ ρ' ρc : Rho} {σ σ' : Sig} {F F' F'' : Ghost} {s s' s'' : Shared} {out : Out}
/- two clauses: the turns -/
theorem compTurn_in (elt : Expr) (g : Comprehension) (tgt iter : Expr) (scope : Scope) (pos : Pos) (it acc : Value) (env : Env) :
    compTurn (.ListComp elt [g, ⟨tgt, iter, [], 0⟩] scope pos) 1 it acc env = (do
      standAt iter.pos
      match ← pyNext it with
      | none => pure (.done .next)
      | some v =>
        letOwnedTupleGo tgt it v
        assign tgt env v
        (do let _ ← call (.builtin "list.append") [acc, ← eval elt env])
        again (.compLoop (.ListComp elt [g, ⟨tgt, iter, [], 0⟩] scope pos) 1 it acc env)) := by rfl
theorem compTurn_out (elt tgt iter tgt2 iter2 : Expr) (scope : Scope) (pos : Pos) (it acc : Value) (env : Env) :
    compTurn (.ListComp elt [⟨tgt, iter, [], 0⟩, ⟨tgt2, iter2, [], 0⟩] scope pos) 0 it acc env = (do
      standAt iter.pos
      match ← pyNext it with
      | none => pure (.done .next)
      | some v =>
        letOwnedTupleGo tgt it v
        assign tgt env v
        let x ← eval iter2 env
        standAt iter2.pos
        let x ← foldedSetIterable iter2 env x
        let _ ← runOwn (.compStart (.ListComp elt [⟨tgt, iter, [], 0⟩, ⟨tgt2, iter2, [], 0⟩] scope pos) 1 (← holding [x] (pyIter x)) acc env) env
        again (.compLoop (.ListComp elt [⟨tgt, iter, [], 0⟩, ⟨tgt2, iter2, [], 0⟩] scope pos) 0 it acc env)) := by rfl
theorem Co.fin {elt : Expr} {gs : List Comprehension} {scope : Scope} {p : Pos} {pos : Pos} {d : Nat} {it acc : Value} {tgt : Expr} {vs : List AV} {τ : Nat → Sig} {k : Value → Sem Fin} (I : Itr C fm.A it tgt vs τ) (hE : ∀ p ∈ τ vs.length, ¬ fm.E p.1)
    (he : compTurn (.ListComp elt gs scope p) d it acc fm.env = (do standAt pos; match ← pyNext it with | none => pure (.done .next) | some v => k v)) : Co C fm ρ (τ vs.length ++ σ) (.ListComp elt gs scope p) d it acc σ := ⟨fun F s X => by
  refine codeAny_of_tree ?_
  show wpAny _ fm.A ((compTurn (.ListComp elt gs scope p) d it acc fm.env).onRaise (fun x => do noteFrame x fm.env; theTreesLotGoes x)) _ _ s
  refine wpAny_noted ?_
  rw [he]
  have hT : ∀ a ∈ (τ 0).map (·.1), a ∉ C.T := fun a ha => by
    rw [← I.adr vs.length] at ha
    obtain ⟨p, hp, rfl⟩ := List.mem_map.mp ha
    exact (X.mu p (List.mem_append_left _ hp)).2.2.1
  refine wpAny_bind (wpAny_standAt (wpAny_bind (wpAny_mono (I.done F s X.ok X.sigOk hT) (fun r s₁ ⟨e, F₁, g₁⟩ => ?_) fun _ _ q => q.elim)))
  subst e
  obtain ⟨X₁, g₁'⟩ := X.leave (F' := F₁) (s' := s₁) (by rw [I.adr]; exact g₁) hE
  exact wpAny_pure ⟨rfl, F₁, g₁', X₁.sub Sub.nil⟩⟩
theorem Co.step {elt : Expr} {gs : List Comprehension} {scope : Scope} {p : Pos} {pos : Pos} {d : Nat} {it acc : Value} {tgt : Expr} {vs : List AV} {τ : Nat → Sig} {i : Nat} {x : AV} {bd : Rho} {σ₁ : Sig} {k : Sem Fin} (I : Itr C fm.A it tgt vs τ) (hx : vs[i]? = some x) (ha : As C fm tgt x bd)
    (he : compTurn (.ListComp elt gs scope p) d it acc fm.env = (do standAt pos; match ← pyNext it with | none => pure (.done .next) | some v => (do letOwnedTupleGo tgt it v; assign tgt fm.env v; k)))
    (hm : ∀ F s, St C fm (bd ++ ρ) (τ (i + 1) ++ σ) F s → ∀ Q E, (∀ F' s', Gr C (Kf fm) F s F' s' → St C fm [] σ₁ F' s' → wpAny C.M fm.A (again (.compLoop (.ListComp elt gs scope p) d it acc fm.env)) Q E s') → wpAny C.M fm.A k Q E s)
    (hr : Co C fm [] σ₁ (.ListComp elt gs scope p) d it acc σ') :
    Co C fm ρ (τ i ++ σ) (.ListComp elt gs scope p) d it acc σ' := ⟨fun F s X => by
  refine codeAny_of_tree ?_
  show wpAny _ fm.A ((compTurn (.ListComp elt gs scope p) d it acc fm.env).onRaise (fun x => do noteFrame x fm.env; theTreesLotGoes x)) _ _ s
  refine wpAny_noted ?_
  rw [he]
  have hT : ∀ a ∈ (τ 0).map (·.1), a ∉ C.T := fun a ha => by
    rw [← I.adr i] at ha
    obtain ⟨p, hp, rfl⟩ := List.mem_map.mp ha
    exact (X.mu p (List.mem_append_left _ hp)).2.2.1
  refine wpAny_bind (wpAny_standAt (wpAny_bind (wpAny_mono (I.item i x F s hx X.ok X.sigOk hT) (fun r s₁ ⟨v, e, hw⟩ => ?_) fun _ _ q => q.elim)))
  subst e
  dsimp only
  refine wpAny_bind (wpAny_mono hw (fun _ s₂ ⟨F₂, g₂, hs₂, r₂⟩ => ?_) fun _ _ q => q.elim)
  obtain ⟨X₂, g₂'⟩ := X.step (τ' := τ (i + 1)) (F' := F₂) (s' := s₂) (by rw [I.adr i]; exact g₂) (by rw [I.adr, I.adr i]) hs₂
  refine wpAny_bind (wpAny_mono (ha.h ρ _ F₂ s₂ v X₂ r₂) (fun _ s₃ ⟨F₃, g₃, X₃⟩ => ?_) fun _ _ q => q.elim)
  refine hm F₃ s₃ X₃ _ _ fun F₄ s₄ g₄ X₄ => ?_
  exact wpAny_pure ⟨rfl, codeAny_mono (hr.h F₄ s₄ X₄) fun r s' ⟨e, F', g', X'⟩ => ⟨e, F', ((g₂'.trans g₃).trans g₄).trans g', X'⟩⟩⟩
theorem codeAny_compStart1 {elt : Expr} {g : Comprehension} {target iter : Expr} {scope : Scope} {pos : Pos} {it acc : Value} {env : Env} {A : Around} {R : Result → Shared → Prop}
    (h0 : codeAny C.M A (.compLoop (.ListComp elt [g, ⟨target, iter, [], 0⟩] scope pos) 1 it acc env) R s)
    (h : wpAny C.M A (pyIter it) (fun it' s' => codeAny C.M A (.compLoop (.ListComp elt [g, ⟨target, iter, [], 0⟩] scope pos) 1 it' acc env) R s')
      (notedBy C.M A env fun x s' => R (.error x) s') s) :
    codeAny C.M A (.compStart (.ListComp elt [g, ⟨target, iter, [], 0⟩] scope pos) 1 it acc env) R s := by
  refine codeAny_of_tree ?_
  show wpAny _ _ ((compStart (.ListComp elt [g, ⟨target, iter, [], 0⟩] scope pos) 1 it acc env).onRaise (fun x => do noteFrame x env; standAt theWindowsPlace)) _ _ s
  refine wpAny_notedAt ?_
  unfold compStart
  show wpAny _ _ (ask >>= _) _ _ s
  refine wpAny_bind (wpAny_askSetting (wpAny_ite ?_))
  split
  · first
      | exact wpAny_bind (wpAny_pure (wpAny_pure (And.intro rfl h0)))
      | exact wpAny_pure (And.intro rfl h0)
  · first
      | exact wpAny_bind (wpAny_rule (wpAny_bind (wpAny_standAt (wpAny_bind (wpAny_mono h (fun it' s' h' => wpAny_pure (And.intro rfl h')) fun _ _ x => x)))))
      | (refine wpAny_bind (wpAny_rule ?_); show wpAny _ _ (standAt iter.pos >>= _) _ _ s; exact wpAny_bind (wpAny_standAt (wpAny_bind (wpAny_mono h (fun it' s' h' => wpAny_pure (And.intro rfl h')) fun _ _ x => x))))
/- two clauses, the inner over a list -/
theorem Co.two {α : Type} {elt tgt iter tgt2 iter2 : Expr} {scope : Scope} {pos : Pos} {L : Addr} {cl : List (Str × Addr)} {E : Addr → Prop} {it : Value} {acc : Addr} {τ : Nat → Sig} {xs : List α} {g : α → AV} {ys : α → List AV} {bd : α → Rho} {bd2 : AV → Rho} (hh : fm.A.handled = none)
    (I : Itr C fm.A it tgt (xs.map g) τ) (hE : ∀ i, ∀ p ∈ τ i, ¬ E p.1)
    (h : (∀ x ∈ xs, As C (cfm fm scope cl L E) tgt (g x) (bd x)) ∧ (∀ x ∈ xs, ∀ σ, Ev C (cfm fm scope cl L E) (bd x) σ iter2 (.list (ys x))) ∧ (∀ y, As C (cfm fm scope cl L E) tgt2 y (bd2 y)) ∧ (∀ y σ, Ev C (cfm fm scope cl L E) (bd2 y) σ elt y) ∧ (∀ x, foldedSetIterable iter2 (cenv fm.env scope cl L) x = pure x))
    (hz : (xs.flatMap ys).length ≤ 1000000) : Co C (cfm fm scope cl L E) [] (τ 0 ++ [(acc, .lst [])]) (.ListComp elt [⟨tgt, iter, [], 0⟩, ⟨tgt2, iter2, [], 0⟩] scope pos) 0 it (.ref acc) [(acc, .lst (xs.flatMap ys))] := by
  obtain ⟨h1, h2, h3, h4, h5⟩ := h
  have key : ∀ n i, i + n = xs.length → Co C (cfm fm scope cl L E) [] (τ i ++ [(acc, .lst ((xs.take i).flatMap ys))]) (.ListComp elt [⟨tgt, iter, [], 0⟩, ⟨tgt2, iter2, [], 0⟩] scope pos) 0 it (.ref acc) [(acc, .lst (xs.flatMap ys))] := by
      intro n
      induction n with
      | zero =>
        intro i hi
        have e : i = (xs.map g).length := by simp; omega
        have e2 : xs.take i = xs := List.take_of_length_le (by first | assumption | decide | omega)
        rw [e2, e]
        exact Co.fin I (hE _) (compTurn_out _ _ _ _ _ _ _ _ _ _)
      | succ n ih =>
        intro i hi
        have hlt : i < xs.length := by omega
        have hx : xs[i]? = some xs[i] := List.getElem?_eq_getElem hlt
        have hm : xs[i] ∈ xs := List.getElem_mem _
        have hgx : (xs.map g)[i]? = some (g xs[i]) := by rw [List.getElem?_map, hx]; rfl
        have ht : (xs.take (i + 1)).flatMap ys = (xs.take i).flatMap ys ++ ys xs[i] := by rw [List.take_add_one, hx, List.flatMap_append]; simp
        have hle : ((xs.take i).flatMap ys).length + (ys xs[i]).length ≤ 1000000 := by
          rw [← List.length_append, ← ht]
          refine Nat.le_trans ?_ hz
          conv => rhs; rw [← List.take_append_drop (i + 1) xs, List.flatMap_append, List.length_append]
          exact Nat.le_add_right _ _
        have hr := ih (i + 1) (by first | assumption | decide | omega)
        rw [ht] at hr
        refine Co.step I hgx (h1 _ hm) (compTurn_out _ _ _ _ _ _ _ _ _ _) (fun F s X Q E' hQ => ?_) hr
        have X := X.sub (ρ' := bd xs[i]) (by rw [List.append_nil]; exact Sub.refl)
        have hs2 := (Src.list (fm := cfm fm scope cl L E) (tgt := tgt2) hh (h2 _ hm (τ (i + 1) ++ [(acc, .lst ((xs.take i).flatMap ys))]))).h F s X
        refine wpAny_bind (wpAny_mono hs2 (fun v s₁ q => wpAny_bind (wpAny_standAt (wpAny_bind (wpAny_of_eq (h5 v) (wpAny_bind (wpAny_holding (wpAny_mono q (fun it2 s₂ ⟨F₂, τ2, g₂, I2, hτ, hτf, hτn⟩ => ?_) fun _ _ q => q.elim))))))) fun _ _ q => q.elim)
        have X₂ := X.join g₂ hτ hτf hτn
        have hE2 : ∀ i, ∀ p ∈ τ2 i, ¬ E p.1 := fun j p hp hE => by
          have : p.1 ∈ (τ2 0).map (·.1) := by rw [← I2.adr j]; exact List.mem_map_of_mem (f := (·.1)) hp
          obtain ⟨r, hr, e⟩ := List.mem_map.mp this
          obtain ⟨o, eo⟩ := X.base _ hE
          rw [← e, hτf r hr] at eo; cases eo
        have inner : ∀ n j, j + n = (ys xs[i]).length → Co C (cfm fm scope cl L E) [] (τ2 j ++ (τ (i + 1) ++ [(acc, .lst ((xs.take i).flatMap ys ++ (ys xs[i]).take j))])) (.ListComp elt [⟨tgt, iter, [], 0⟩, ⟨tgt2, iter2, [], 0⟩] scope pos) 1 it2 (.ref acc) (τ (i + 1) ++ [(acc, .lst ((xs.take i).flatMap ys ++ ys xs[i]))]) := by
          intro n
          induction n with
          | zero =>
            intro j hj
            have e2 : (ys xs[i]).take j = ys xs[i] := List.take_of_length_le (by first | assumption | decide | omega)
            rw [e2, show j = (ys xs[i]).length by omega]
            exact Co.fin I2 (hE2 _) (compTurn_in _ _ _ _ _ _ _ _ _)
          | succ n ih2 =>
            intro j hj
            have hlt2 : j < (ys xs[i]).length := by omega
            have hy : (ys xs[i])[j]? = some (ys xs[i])[j] := List.getElem?_eq_getElem hlt2
            have hr2 := ih2 (j + 1) (by first | assumption | decide | omega)
            rw [show (xs.take i).flatMap ys ++ (ys xs[i]).take (j + 1) = ((xs.take i).flatMap ys ++ (ys xs[i]).take j) ++ [(ys xs[i])[j]] by rw [List.take_add_one, hy, List.append_assoc]; rfl] at hr2
            refine Co.step I2 hy (h3 _) (compTurn_in _ _ _ _ _ _ _ _ _) (fun F s X Q E' hQ => ?_) hr2
            have X := X.sub (ρ' := bd2 (ys xs[i])[j]) (by rw [List.append_nil]; exact Sub.refl)
            have hl2 : ((xs.take i).flatMap ys ++ (ys xs[i]).take j).length ≤ 1000000 := by rw [List.length_append, List.length_take]; omega
            exact wpAny_bind (wpAny_mono ((Cb.emit (h4 _ _) (Upd.app (Upd.app .here)) hl2).h F s X) (fun _ s' ⟨F', g', X'⟩ => hQ F' s' g' (X'.sub Sub.nil)) fun _ _ q => q.elim)
        have start := inner (ys xs[i]).length 0 (by first | assumption | decide | omega)
        rw [List.take_zero, List.append_nil] at start
        refine wpAny_bind (wpAny_runOwn (codeAny_compStart1 ?_ ?_))
        · refine codeAny_mono (start.h F₂ s₂ (X₂.sub Sub.nil)) fun r s' ⟨e, F', g', X'⟩ => ?_
          subst e
          exact hQ F' s' (g₂.any.trans g') X'
        · refine I2.self 0 F₂ s₂ _ _ X₂.ok hτ (codeAny_mono (start.h F₂ s₂ (X₂.sub Sub.nil)) fun r s' ⟨e, F', g', X'⟩ => ?_)
          subst e
          exact hQ F' s' (g₂.any.trans g') X'
  have := key xs.length 0 (by first | assumption | decide | omega)
  simpa using this
theorem Es.asgMap2 {α : Type} {x : Str} {px p2 : Pos} {elt tgt iter tgt2 iter2 : Expr} {scope : Scope} {pos : Pos} (xs : List α) (g : α → AV) (ys : α → List AV) (bd : α → Rho) (bd2 : AV → Rho) (hs : Src C fm ρ σ iter tgt (xs.map g)) (S : CScope fm scope [] ρ) (hh : fm.A.handled = none)
    (h : ∀ L cl E, (∀ x ∈ xs, As C (cfm fm scope cl L E) tgt (g x) (bd x)) ∧ (∀ x ∈ xs, ∀ σ, Ev C (cfm fm scope cl L E) (bd x) σ iter2 (.list (ys x))) ∧ (∀ y, As C (cfm fm scope cl L E) tgt2 y (bd2 y)) ∧ (∀ y σ, Ev C (cfm fm scope cl L E) (bd2 y) σ elt y) ∧ (∀ x, foldedSetIterable iter2 (cenv fm.env scope cl L) x = pure x))
    (hz : (xs.flatMap ys).length ≤ 1000000) (hk : Sto fm x) (hsw : swapsWith (.ListComp elt [⟨tgt, iter, [], 0⟩, ⟨tgt2, iter2, [], 0⟩] scope p2) (some (.Name x px)) pos.line fm.env = pure true := by rfl) (hf : ∀ x, foldedSetIterable iter fm.env x = pure x := by intro _; rfl) :
    Es C fm ρ σ (.Assign [.Name x px] (.ListComp elt [⟨tgt, iter, [], 0⟩, ⟨tgt2, iter2, [], 0⟩] scope p2) pos) (.nxt ((x, .list (xs.flatMap ys)) :: ρ) σ) :=
  Es.asgComp hs S (fun L cl E it acc τ I hE => Co.two hh I hE (h L cl E) hz) hk hsw hf
end
section
variable {C : Cx} {fm : Fm} {ρ ρ' ρc : Rho} {σ σ' : Sig} {F F' F'' : Ghost} {s s' s'' : Shared} {out : Out}
/- zip over two lists -/
noncomputable def ZObj (TI TO : Addr) : MO := .obj (fun F o => o = { cls := .type "zip", dict := none, data := .fields #[.none, .bool false, .bool false, .ref TI, .ref TO], slots := #[] }) fun F F' o h q => q
noncomputable def PObj (a b : Value) : MO := .obj (fun F o => o = { cls := .type "tuple", data := .seq #[a, b] }) fun F F' o h q => q
noncomputable def QObj : MO := .obj (fun F o => ∃ a b, o = { cls := .type "tuple", data := .seq #[a, b] }) fun F F' o h q => q
noncomputable def zipOf (xs ys : List AV) : List AV := (xs.zip ys).map fun p => .tup [p.1, p.2]
noncomputable abbrev zipSig (z TI TO i1 i2 l1 l2 : Addr) (xs ys : List AV) (i : Nat) : Sig := [(z, ZObj TI TO), (TI, PObj (.ref i1) (.ref i2)), (TO, QObj), (i1, LIt l1 xs i), (i2, LIt l2 ys i)]
theorem sig5 {a b c d e : Addr} {o o1 o2 o3 o4 : MO} (h : MOk F s.heap a o ∧ F a = none) (h1 : MOk F s.heap b o1 ∧ F b = none) (h2 : MOk F s.heap c o2 ∧ F c = none) (h3 : MOk F s.heap d o3 ∧ F d = none) (h4 : MOk F s.heap e o4 ∧ F e = none) :
    SigOk F s [(a, o), (b, o1), (c, o2), (d, o3), (e, o4)] := fun p hp => by
  simp only [List.mem_cons, List.mem_nil_iff, or_false] at hp
  rcases hp with rfl | rfl | rfl | rfl | rfl
  · exact h
  · exact h1
  · exact h2
  · exact h3
  · exact h4
theorem pick {τ : Sig} {a : Addr} {o : MO} (hs : SigOk F s τ) (h : (a, o) ∈ τ) : MOk F s.heap a o ∧ F a = none := hs _ h
theorem zipInv {z TI TO i1 i2 l1 l2 : Addr} {xs ys : List AV} {i : Nat} (hs : SigOk F s (zipSig z TI TO i1 i2 l1 l2 xs ys i)) :
    ∃ a b, IsZip s.heap z TI TO .none ∧ IsPair s.heap TI (.ref i1) (.ref i2) ∧ IsPair s.heap TO a b ∧ MOk F s.heap i1 (LIt l1 xs i) ∧ MOk F s.heap i2 (LIt l2 ys i) ∧ F z = none ∧ F TI = none ∧ F TO = none ∧ F i1 = none ∧ F i2 = none := by
  obtain ⟨⟨o, hz, _, e0⟩, n0⟩ := pick hs (.head _)
  obtain ⟨⟨o1, hTI, _, e1⟩, n1⟩ := pick hs (.tail _ (.head _))
  obtain ⟨⟨o2, hTO, _, a, b, e2⟩, n2⟩ := pick hs (.tail _ (.tail _ (.head _)))
  obtain ⟨m3, n3⟩ := pick hs (.tail _ (.tail _ (.tail _ (.head _))))
  obtain ⟨m4, n4⟩ := pick hs (.tail _ (.tail _ (.tail _ (.tail _ (.head _)))))
  subst e0 e1 e2
  exact ⟨a, b, hz, hTI, hTO, m3, m4, n0, n1, n2, n3, n4⟩
theorem Itr.zip {A : Around} {es : List Expr} {k : Nat} {p : Pos} {z TI TO i1 i2 l1 l2 : Addr} {xs ys : List AV} (hh : A.handled = none) (D : ZipApart z TI TO i1 i2 l1 l2) : Itr C A (.ref z) (.Tuple es k p) (zipOf xs ys) (zipSig z TI TO i1 i2 l1 l2 xs ys) where
  adr := fun _ => rfl
  item := fun i x F s hx ok hs hT => by
    obtain ⟨a, b, hz, hTI, hTO, m3, m4, n0, n1, n2, n3, n4⟩ := zipInv (s := s) hs
    obtain ⟨h1, vs, q1, r1, L1⟩ := LIt.open ok m3
    obtain ⟨h2, ws, q2, r2, L2⟩ := LIt.open ok m4
    obtain ⟨x1, y1, e1, e2, rfl⟩ : ∃ x1 y1, xs[i]? = some x1 ∧ ys[i]? = some y1 ∧ x = .tup [x1, y1] := by
      unfold zipOf at hx
      rw [List.getElem?_map] at hx
      cases e : (xs.zip ys)[i]? with
      | none => rw [e] at hx; cases hx
      | some pr =>
        rw [e] at hx
        obtain ⟨u, v⟩ := pr
        have := List.getElem?_zip_eq_some.mp e
        cases hx
        exact ⟨u, v, this.1, this.2, rfl⟩
    obtain ⟨v, ev, rv⟩ := r1.get e1
    obtain ⟨w, ew, rw'⟩ := r2.get e2
    refine wpAny_pyNext_zip_item D hz hTI hTO h1 h2 L1 L2 (by simpa using ev) (by simpa using ew) fun h' a1 a2 a3 a4 a5 a6 a7 => ⟨_, rfl, ?_⟩
    refine wpAny_letOwnedTupleGo_zip a1 fun h'' he'' hs'' => ?_
    have lt : ∀ {c o}, s.heap.get? c = some o → c ≠ s.heap.objs.size := fun e => Nat.ne_of_lt (Heap.lt_size e)
    have zS := lt hz
    have TIS := lt hTI
    have TOS := lt hTO
    have i1S : i1 ≠ s.heap.objs.size := by obtain ⟨o, ho, _⟩ := h1; exact lt ho
    have i2S : i2 ≠ s.heap.objs.size := by obtain ⟨o, ho, _⟩ := h2; exact lt ho
    have g : Gr C (fun a => a ∉ [z, TI, TO, i1, i2]) F s F { s with heap := h'', toks := s.toks } := Gr.heapX ok (fun l hl => by
        simp only [List.mem_cons, List.mem_nil_iff, or_false] at hl; rcases hl with rfl | rfl | rfl | rfl | rfl <;> assumption) (fun l hl => hT l (by simpa using hl)) fun b o hb e => by
        simp only [List.mem_cons, List.mem_nil_iff, or_false, not_or] at hb
        exact hs''.extBut b o hb.1 (a7 b o hb.1 hb.2.2.1 hb.2.2.2.1 hb.2.2.2.2 e)
    have hTup : h''.get? s.heap.objs.size = some { cls := .type "tuple", data := .seq #[v, w] } := hs''.extBut _ _ (Ne.symm zS) a5
    have hSn : F s.heap.objs.size = none := ok.none_of_dead (dead_top _)
    have g' : Gr C (fun a => a ∉ [z, TI, TO, i1, i2]) F s (F.add s.heap.objs.size { cls := .type "tuple", data := .seq #[v, w] }) { s with heap := h'', toks := s.toks } := by
      have le := Ghost.le_add (o := { cls := .type "tuple", data := .seq #[v, w] }) hSn
      refine ⟨g.ok.add hTup hSn (ok.notT (dead_top _)), le, fun a o e => ?_, g.keep, g.os⟩
      by_cases ha : a = s.heap.objs.size
      · exact .inr (.inl (ha ▸ dead_top _))
      · rw [Ghost.add_ne ha] at e; exact .inl e
    refine ⟨_, g', sig5 ⟨⟨_, he'', IsDc.fields rfl, rfl⟩, by rw [Ghost.add_ne zS]; exact n0⟩ ⟨⟨_, hs''.extBut _ _ D.TIz (a7 _ _ D.TIz D.TITO D.TIi1 D.TIi2 hTI), IsDc.seq rfl, rfl⟩, by rw [Ghost.add_ne TIS]; exact n1⟩
      ⟨⟨_, hs''.extBut _ _ D.TOz a2, IsDc.seq rfl, _, _, rfl⟩, by rw [Ghost.add_ne TOS]; exact n2⟩
      ⟨LIt.mk (a3.extBut hs''.extBut D.i1z) (q1.mono g'.le) (Reps.mono g'.le _ _ r1), by rw [Ghost.add_ne i1S]; exact n3⟩ ⟨LIt.mk (a4.extBut hs''.extBut D.i2z) (q2.mono g'.le) (Reps.mono g'.le _ _ r2), by rw [Ghost.add_ne i2S]; exact n4⟩, ?_⟩
    exact rTup (vs := [v, w]) ⟨_, _, Ghost.add_self _ _ _, rfl, rfl⟩ (rCons (Rep.mono g'.le _ _ rv) (rCons (Rep.mono g'.le _ _ rw') rNil))
  done := fun F s ok hs hT => by
    obtain ⟨a, b, hz, hTI, hTO, m3, m4, n0, n1, n2, n3, n4⟩ := zipInv (s := s) hs
    obtain ⟨h1, vs, q1, r1, L1⟩ := LIt.open ok m3
    obtain ⟨h2, ws, q2, r2, L2⟩ := LIt.open ok m4
    have hl : (zipOf xs ys).length = min xs.length ys.length := by unfold zipOf; rw [List.length_map, List.length_zip]
    refine wpAny_pyNext_zip_end hh D hz hTI hTO h1 h2 L1 L2 (by
      rw [hl, r1.length, r2.length]
      rcases Nat.le_total vs.length ws.length with h | h
      · exact .inl (by rw [Nat.min_eq_left h]; simp)
      · exact .inr (by rw [Nat.min_eq_right h]; simp)) fun h' he => ⟨rfl, F, Gr.heapX ok (fun l hl => by
        simp only [List.map_cons, List.map_nil, List.mem_cons, List.mem_nil_iff, or_false] at hl; rcases hl with rfl | rfl | rfl | rfl | rfl <;> assumption) (fun l hl => hT l (by simpa using hl)) fun b o hb e => ?_⟩
    simp only [List.map_cons, List.map_nil, List.mem_cons, List.mem_nil_iff, or_false, not_or] at hb
    exact he b o hb.1 hb.2.2.1 hb.2.2.2.1 hb.2.2.2.2 e
  self := fun i F s Q E ok hs h => by
    obtain ⟨⟨o, hz, _, rfl⟩, n0⟩ := hs _ (.head _)
    exact wpAny_pyIter_zip hz h
theorem apart5 {n l1 l2 : Nat} (b1 : l1 < n) (b2 : l2 < n) : ZipApart (n + 4) (n + 2) (n + 3) n (n + 1) l1 l2 :=
  have p : ∀ k, n + k ≠ l1 ∧ n + k ≠ l2 := fun k => ⟨by omega, by omega⟩
  have q : ∀ {j k : Nat}, j ≠ k → n + j ≠ n + k := fun h => by omega
  ⟨q (by decide), q (by decide), q (j := 0) (by decide), q (by decide), q (by decide), q (k := 0) (by decide), q (by decide), q (k := 0) (by decide), q (by decide), q (j := 0) (by decide), (p 4).1.symm, (p 3).1.symm, (p 0).1.symm, (p 1).1.symm, (p 4).2.symm, (p 3).2.symm, (p 0).2.symm, (p 1).2.symm⟩
theorem Src.zip {x : Str} {px pos : Pos} {e e' : Expr} {es : List Expr} {k : Nat} {p : Pos} {xs ys : List AV} (hh : fm.A.handled = none) (hf : Ev C fm ρ σ (.Name x px) (.val (.type "zip"))) (has : Evs C fm ρ σ [e, e'] [.list xs, .list ys]) (hpl : Plain [e, e'] fm.env := by rfl) :
    Src C fm ρ σ (.Call (.Name x px) [e, e'] [] pos) (.Tuple es k p) (zipOf xs ys) := ⟨fun F s X => by
  refine evCall X hf has (.inr (.inl ⟨_, rfl⟩)) (fun F₁ s₁ vs g₁ r₁ => ?_) hpl
  obtain ⟨v, r, rfl, rv, rr⟩ := r₁.ocons
  obtain ⟨v', r, rfl, rv', rr⟩ := rr.ocons
  obtain rfl := rr.onil
  obtain ⟨l1, vs, rfl, hq1, hr1⟩ := rv.olst
  obtain ⟨l2, ws, rfl, hq2, hr2⟩ := rv'.olst
  have L1 := hq1.lst g₁.ok
  have L2 := hq2.lst g₁.ok
  have b1 : l1 < s₁.heap.objs.size := by obtain ⟨o, ho, _⟩ := L1; exact Heap.lt_size ho
  have b2 : l2 < s₁.heap.objs.size := by obtain ⟨o, ho, _⟩ := L2; exact Heap.lt_size ho
  refine call_zip_2 L1 L2 fun h' z1 z2 z3 z4 z5 hsz hk => ?_
  have g2 : Grow C F₁ s₁ F₁ { s₁ with heap := h' } := Grow.heap g₁.ok hk
  have dd : ∀ k, s₁.heap.get? (s₁.heap.objs.size + k) = none := fun k => Heap.get?_none_of_le (by first | assumption | decide | omega)
  have nn : ∀ k, F₁ (s₁.heap.objs.size + k) = none := fun k => g₁.ok.none_of_dead (dd k)
  have D : ZipApart (s₁.heap.objs.size + 4) (s₁.heap.objs.size + 2) (s₁.heap.objs.size + 3) s₁.heap.objs.size (s₁.heap.objs.size + 1) l1 l2 := apart5 b1 b2
  refine wpAny_pyIter_zip (s := { s₁ with heap := h' }) z1 ⟨F₁, zipSig (s₁.heap.objs.size + 4) (s₁.heap.objs.size + 2) (s₁.heap.objs.size + 3) s₁.heap.objs.size (s₁.heap.objs.size + 1) l1 l2 xs ys, g₁.trans g2, Itr.zip hh D,
    sig5 ⟨⟨_, z1, IsDc.fields rfl, rfl⟩, nn 4⟩ ⟨⟨_, z2, IsDc.seq rfl, rfl⟩, nn 2⟩ ⟨⟨_, z3, IsDc.seq rfl, _, _, rfl⟩, nn 3⟩ ⟨LIt.mk z4 hq1 hr1, nn 0⟩ ⟨LIt.mk z5 hq2 hr2, nn 1⟩, fun p hp => ?_, by simp⟩
  simp only [List.mem_cons, List.mem_nil_iff, or_false] at hp
  rcases hp with rfl | rfl | rfl | rfl | rfl
  · exact g₁.dead (dd 4)
  · exact g₁.dead (dd 2)
  · exact g₁.dead (dd 3)
  · exact g₁.dead (dd 0)
  · exact g₁.dead (dd 1)⟩
end
section
variable {C : Cx} {fm : Fm} {ρ ρ' ρc : Rho} {σ σ' : Sig}
/- one str or another -/
theorem Ev.orS {x y : Expr} {pos : Pos} {a b : Str} (hx : Ev C fm ρ σ x (.str a)) (hy : Ev C fm ρ σ y (.str b)) (hz : a.length ≤ 1000000) : Ev C fm ρ σ (.BoolOp .Or [x, y] pos) (.str (if a.length = 0 then b else a)) := ⟨fun F s X =>
  wpAny_Or2 (wpAny_mono (hx.h F s X) (fun v s₁ ⟨F₁, g₁, r₁⟩ => by
    obtain ⟨t, rfl⟩ := r₁.ostr
    have g2 := Grow.toks g₁.ok (s₁.toks + 1 + 1)
    refine P.truthy_str (by first | assumption | decide | omega) ?_
    by_cases h0 : a.length = 0
    · rw [if_pos h0, if_neg (by rw [h0]; decide)]
      refine wpAny_mono (hy.h F₁ _ (X.grow (g₁.trans g2))) (fun v s₃ ⟨F₃, g₃, r₃⟩ => ⟨F₃, (g₁.trans g2).trans g₃, r₃⟩) fun _ _ q => q
    · rw [if_neg h0, if_pos (by simp [bne]; omega)]
      exact ⟨F₁, g₁.trans g2, rStr⟩) fun _ _ q => q)⟩
end
noncomputable abbrev kDrawn : Str := Str.ofString "drawn"
noncomputable abbrev kCell : Str := Str.ofString "cell"
noncomputable abbrev kTops : Str := Str.ofString "tops"
noncomputable abbrev kOthers : Str := Str.ofString "others"
noncomputable abbrev kDue : Str := Str.ofString "due"
noncomputable abbrev kOther : Str := Str.ofString "other"
noncomputable abbrev kTag : Str := Str.ofString "tag"
/- the numbers drawn, asked for; the octets; the tagged pairs; the keys, their tops, the places, the mask -/
noncomputable def drawnOf (c : List Nat) : List Nat := (c.take 5).map (· % 8192)
noncomputable def askedOf (c : List Nat) : List Nat := (c.drop 5).map (· % 10000)
noncomputable def cssOf (d : List Nat) : List (List Nat) := d.zipIdx.map fun p => octsOf (figs p.1 p.2)
noncomputable def taggedOf (d : List Nat) : List (Int × Int) := d.zipIdx.map fun p => ((p.1 : Int), if p.2 % 2 = 0 then -(p.2 : Int) else (p.2 : Int))
noncomputable def topsOf (ks : List Nat) : List Int := (ks.zip (ks.drop 1)).map fun p => (bits (p.1 ^^^ p.2) : Int) - 1
noncomputable def placesOf (ks : List Nat) : List Nat := (List.range 13).filter fun k => (topsOf ks).any (· == (k : Int))
noncomputable def maskOf (ps : List Nat) : Nat := (ps.map (2 ^ ·)).sum
noncomputable def othersOf (ps : List Nat) : List Nat := (List.range 32).filter fun k => !(zls ps).any (· == (k : Int))
noncomputable def sketchesOf (ks : List Nat) (m : Nat) (ws : List Str) : List Nat := ks.map fun k => sketch (k &&& m) ws
structure LawOk (c d q keys ps sk : List Nat) (m : Nat) (ws : List Str) : Prop where
  hc : c.length = 8
  hd : d = drawnOf c
  hq : q = askedOf c
  r1 : ∀ cs ∈ cssOf d, isNum cs
  r2 : ∀ n ∈ (cssOf d).flatten, n < 256
  r3 : (cssOf d).flatten.length ≤ 1000
  r4 : (cssOf d).map readV = d
  s1 : (rowAt d d.length).Perm (taggedOf d)
  s2 : (rowAt d d.length).Pairwise fun p q => lexLt p q = true
  s3 : (taggedOf d).Pairwise (· ≠ ·)
  hk : zls keys = (rowAt d d.length).map (·.1)
  hkb : ∀ k ∈ keys, k < 8192
  hps : ps = placesOf keys
  hm : m = maskOf ps
  hws : ws = ps.map nm
  f1 : Txt.join kSep (told (m : Nat)) = if (Txt.join kSep ws).length = 0 then Str.ofString "0x0" else Txt.join kSep ws
  f2 : told (Builtin.bitNot (m : Int)) = (othersOf ps).map nm ++ [Str.ofString "-0x100000000"]
  hsk : sk = sketchesOf keys m ws
  due : ∀ n ∈ q, (keys.filter fun k => decide (k < n)).length = SL keys (n : Nat) 0 5 ∧ (keys.filter fun k => decide (k ≤ n)).length = SR keys (n : Nat) 0 5
  found : ∀ n ∈ q, ∃ e p near, FoundOk n m keys sk ws e p near (SL keys (n : Nat) 0 5) (SR keys (n : Nat) 0 5)
theorem fnScopeLaw (caps : List Str) (scope : Scope) (h : csOk (fnScope sLaw) scope caps = true) : csOk (fnScope sLaw) scope caps = true := h
theorem lawFn {C : Cx} (P : PX C) (DL : ∃ fd, DefP C 160 sLaw fd) {F : Ghost} {ns : List Int} {c d q keys ps sk : List Nat} {m : Nat} {ws : List Str} (hz : ns.length ≤ 1000000) (hcells : c = cellsAt (slc ns none (some 60)) (slc ns none (some 60)).length) (H : LawOk c d q keys ps sk m ws) :
    FnS C 140 F (.ref 160) [.list (ns.map .int)] [] (.bool true) := by
  obtain ⟨fd, D⟩ := DL
  obtain ⟨pm, cd, doc, rfl⟩ := D.e
  refine FnS.body (d := 139) (I := fun _ => True) (ρ := [(kScript, .list (ns.map .int))]) D.d trivial Mono.triv (HB.one (x := kScript) fun v s => BindsTo.of_eq rfl) (by simp only [List.map_cons, List.map_nil]; decide) (by simp only [List.map_cons, List.map_nil]; decide +kernel) rfl rfl rfl fun A L qn E fs l hqn room S => ⟨.ret _ [], rfl, ?_⟩
  have rm : Room (A.deeper (fenv (fnScope sLaw) L 160 qn cd)) 139 := room.deeper
  have hu : A.units + 3 + 64 < cLine := rm.u64
  have hcl := H.hc
  have hdl : d.length = 5 := by rw [H.hd, drawnOf, List.length_map, List.length_take, hcl]; rfl
  have hql : q.length = 3 := by rw [H.hq, askedOf, List.length_map, List.length_drop, hcl]
  -- cells
  refine Ex.cons (Es.asg (a := .list (nints c)) (Ev.call (d := 4) (rm.le (by decide)) (by walk_at "ev") (Evs.cons (by walk_at "ev") Evs.nil) Evk.nil fun F s X => ⟨Def.kp (P.cells.choose_spec.d) X.ok, hcells ▸ cellsFn P hz⟩) (.inl (by rfl))) ?_
  -- drawn
  refine Ex.cons (Es.asgMaps (ρc := []) (c.take 5) (fun x : Nat => .int (x : Nat)) (fun x => .int ((x % 8192 : Nat) : Int)) (fun x => [(kCell, .int (x : Nat))]) ((Src.list rm.hd (Ev.slice (b := some ((5 : Nat) : Int)) (by walk_at "ev") Evp.none (Evp.some Ev.int) (by rw [List.length_map, hcl]; decide))).eq (by rw [slc_map]; congr 1; unfold slc; simp only [Option.elim, clipAt_nat, hcl]; rfl)) (CScope.of [] (by show csOk (fnScope sLaw) _ _ = true; decide +kernel) rfl Sub.nil) (fun L cl E => ⟨fun x _ => As.name (.inl (by rfl)), fun x hx σ => Ev.bin (by walk_at "ev") (Ev.int (i := ((8192 : Nat) : Int))) ((BinI.mod (by decide)).eq (modN (by decide)))⟩) (fun _ _ => Sub.nil) (by rw [List.length_take, hcl]; decide) (.inl (by rfl))) ?_
  have ed : ((c.take 5).map fun x => AV.int ((x % 8192 : Nat) : Int)) = nints d := by rw [H.hd, drawnOf, nints, List.map_map]; rfl
  rw [ed]
  -- octets
  have een : enumOf (nints d) = d.zipIdx.map fun p => .tup [.int (p.2 : Nat), .int (p.1 : Nat)] := by
    unfold enumOf nints
    rw [List.zipIdx_map, List.map_map]; rfl
  have hci : (d.zipIdx.flatMap fun p => nints (octsOf (figs p.1 p.2))) = nints (cssOf d).flatten := by
    unfold cssOf nints
    rw [List.map_flatten, List.map_map, List.flatMap_def]; rfl
  have hzi : d.zipIdx.length = 5 := by rw [List.length_zipIdx, hdl]
  refine Ex.cons (Es.asgMap2 (fm := ffm A (fnScope sLaw) L 160 qn (fdP sLaw pm cd doc).code E (fun _ => True) fs) d.zipIdx (fun p => .tup [.int (p.2 : Nat), .int (p.1 : Nat)]) (fun p => nints (octsOf (figs p.1 p.2))) (fun p => [(kNumber, .int (p.1 : Nat)), (kTurn, .int (p.2 : Nat))]) (fun y => [(kOctet, y)]) ((Src.enum (xs := nints d) rm.hd (by walk_at "ev") (by walk_at "ev")).eq een) (CScope.of [] (by show csOk (fnScope sLaw) _ _ = true; decide +kernel) rfl Sub.nil) rm.hd (fun L cl E => ⟨fun x _ => As.tup rm.hd (Ass.cons (As.name (.inl (by rfl))) (Ass.cons (As.name (.inl (by rfl))) Ass.nil)), fun x _ σ => Ev.call (d := 4) (rm.le (by decide)) (by walk_at "ev") (Evs.cons (by walk_at "ev") (Evs.cons (by walk_at "ev") Evs.nil)) Evk.nil fun F s X => ⟨Def.kp (P.octets.choose_spec.d) X.ok, octetsFn P⟩, fun y => As.name (.inl (by rfl)), fun y σ => by walk_at "ev", fun _ => rfl⟩) (by rw [hci, List.length_map]; exact Nat.le_trans H.r3 (by decide)) (.inl (by rfl))) ?_
  rw [hci]
  -- row
  refine Ex.cons (Es.asg (a := .list (rowA (rowAt d d.length))) (Ev.call (d := 8) (rm.le (by decide)) (by walk_at "ev") (Evs.cons (by walk_at "ev") Evs.nil) Evk.nil fun F s X => ⟨Def.kp (P.ordered.choose_spec.d) X.ok, orderedFn P (by rw [hdl]; decide)⟩) (.inl (by rfl))) ?_
  -- read, sorted
  have htg : (d.zipIdx.map fun p => AV.tup [.int (p.1 : Nat), .int (if p.2 % 2 = 0 then -(p.2 : Int) else (p.2 : Int))]) = rowA (taggedOf d) := by unfold taggedOf rowA; rw [List.map_map]; rfl
  refine Ex.cons (Es.pass0 (Tr.bop (b := false || (false || false)) (Trs.or_cons (Tr.neD' (a := .list (nints d)) hu (by have := flatInts (zls d); unfold zls at this; rw [List.map_map] at this; exact this) ((Ev.callS (A := A) (d := 8) (rm.le (by decide)) S rfl rfl (by walk_at "ev") (Evs.cons (by walk_at "ev") Evs.nil) Evk.nil fun F s X => ⟨Def.kp (P.read.choose_spec.d) X.ok, ?_⟩)) (by walk_at "ev")) fun _ => Trs.or_cons (Tr.neD' (a := .list (rowA (rowAt d d.length))) hu (flatPairs _) (by walk_at "ev") (Ev.call (d := 1) (rm.le (by decide)) (by walk_at "ev") (Evs.cons ((Ev.maps (ρc := []) d.zipIdx (fun p => .tup [.int (p.2 : Nat), .int (p.1 : Nat)]) (fun p => .tup [.int (p.1 : Nat), .int (if p.2 % 2 = 0 then -(p.2 : Int) else (p.2 : Int))]) (fun p => [(kNumber, .int (p.1 : Nat)), (kTurn, .int (p.2 : Nat))]) ((Src.enum (xs := nints d) rm.hd (by walk_at "ev") (by walk_at "ev")).eq een) (CScope.of [] (by show csOk (fnScope sLaw) _ _ = true; decide +kernel) rfl Sub.nil) (fun L cl E => ⟨fun x _ => As.tup rm.hd (Ass.cons (As.name (.inl (by rfl))) (Ass.cons (As.name (.inl (by rfl))) Ass.nil)), fun x hx σ => Ev.tup (Evs.cons (by walk_at "ev") (Evs.cons ?_ Evs.nil))⟩) (fun _ _ => Sub.nil) (by rw [hzi]; decide)).eq (by rw [htg])) Evs.nil) Evk.nil fun _ _ _ => ⟨kpB, fnSorted (by rw [taggedOf, List.length_map, hzi]) H.s3 H.s1 H.s2⟩)) fun _ => Trs.or_nil))) ?_
  · have := readFn P (F := F) (css := cssOf d) H.r1 H.r2 H.r3
    rw [H.r4, show lst (cssOf d).flatten = .list (nints (cssOf d).flatten) by unfold lst zls nints; rw [List.map_map]; rfl] at this
    exact this
  · have m2 : BinI .Mod (x.2 : Int) 2 ((x.2 % 2 : Nat) : Int) := (BinI.mod (by decide)).eq (show (x.2 : Int).fmod 2 = _ from modN (y := 2) (by decide))
    refine Ev.ife (b := decide (x.2 % 2 ≠ 0)) (Tr.val (Ev.bin (by walk_at "ev") Ev.int m2) Tv.nat) (fun e => ?_) fun e => ?_
    · rw [if_neg (of_decide_eq_true e)]; walk_at "ev"
    · rw [if_pos (Decidable.not_not.mp (of_decide_eq_false e))]; exact Ev.neg (by walk_at "ev")
  -- keys
  have hkl : keys.length = 5 := by rw [← zls_len, H.hk, List.length_map, rowAt_len, hdl]
  refine Ex.cons (Es.asgMaps (ρc := []) (rowAt d d.length) (fun p => .tup [.int p.1, .int p.2]) (fun p => .int p.1) (fun p => [(kTag, .int p.2), (kNumber, .int p.1)]) (Src.list rm.hd (by walk_at "ev")) (CScope.of [] (by show csOk (fnScope sLaw) _ _ = true; decide +kernel) rfl Sub.nil) (fun L cl E => ⟨fun x _ => As.tup rm.hd (Ass.cons (As.name (.inl (by rfl))) (Ass.cons (As.name (.inl (by rfl))) Ass.nil)), fun x hx σ => by walk_at "ev"⟩) (fun _ _ => Sub.nil) (by rw [rowAt_len, hdl]; decide) (.inl (by rfl))) ?_
  have ek : AV.list ((rowAt d d.length).map fun p => AV.int p.1) = lst keys := by unfold lst; rw [H.hk, List.map_map]; rfl
  rw [ek]
  -- tops
  have ezip : zipOf ((zls keys).map .int) ((zls (keys.drop 1)).map .int) = (keys.zip (keys.drop 1)).map fun p : Nat × Nat => .tup [.int (p.1 : Nat), .int (p.2 : Nat)] := by
    unfold zipOf zls
    rw [List.map_map, List.map_map, List.zip_map, List.map_map]; rfl
  have hzz : (keys.zip (keys.drop 1)).length ≤ 1000000 := by rw [List.length_zip, List.length_drop, hkl]; decide
  refine Ex.cons (Es.asg (a := .list ((topsOf keys).map .int)) ((Ev.maps (ρc := []) (keys.zip (keys.drop 1)) (fun p : Nat × Nat => .tup [.int (p.1 : Nat), .int (p.2 : Nat)]) (fun p => .int ((bits (p.1 ^^^ p.2) : Int) - 1)) (fun p => [(kOther, .int (p.2 : Nat)), (kOne, .int (p.1 : Nat))]) ((Src.zip (xs := (zls keys).map .int) (ys := (zls (keys.drop 1)).map .int) rm.hd (by walk_at "ev") (Evs.cons (by walk_at "ev") (Evs.cons ((Ev.slice (a := some ((1 : Nat) : Int)) (by walk_at "ev") (Evp.some Ev.int) Evp.none (by rw [List.length_map, zls_len, hkl]; decide)).eq (by unfold zls; rw [slc_map, slc_map]; unfold slc; simp only [Option.elim, clipAt_nat, hkl]; rw [List.take_of_length_le (by simp [hkl])]; rfl)) Evs.nil))).eq ezip) (CScope.of [] (by show csOk (fnScope sLaw) _ _ = true; decide +kernel) rfl Sub.nil) (fun L cl E => ⟨fun x _ => As.tup rm.hd (Ass.cons (As.name (.inl (by rfl))) (Ass.cons (As.name (.inl (by rfl))) Ass.nil)), fun x hx σ => Ev.bin ((Ev.bits (Ev.bin (by walk_at "ev") (by walk_at "ev") (BinI.xor.eq (bitXor_nn x.1 x.2)))).eq (b := .int ((bits (x.1 ^^^ x.2) : Nat) : Int)) (by rw [intBits_nat])) Ev.int BinI.sub⟩) (fun _ _ => Sub.nil) hzz).eq (by unfold topsOf; rw [List.map_map]; rfl)) (.inr ⟨rfl, by rfl⟩)) ?_
  -- places
  refine Ex.cons (Es.asg (a := .list (nints ps)) ((Ev.map (ρc := [(kTops, .list ((topsOf keys).map .int))]) (List.range 13) (fun k : Nat => .int (k : Nat)) (fun k => .int (k : Nat)) (fun k => (topsOf keys).any (· == (k : Int))) (fun k => [(kPlace, .int (k : Nat))]) (Src.range rm.hd (by walk_at "ev") (Ev.int (i := ((13 : Nat) : Int))) (by decide)) (CScope.of [kTops] (by show csOk (fnScope sLaw) _ _ = true; decide +kernel) rfl (Sub.cons (by rfl) Sub.nil)) (fun L cl E => ⟨fun x _ => As.name (.inl (by rfl)), fun x _ σ => Ts.one (Tr.inI (by walk_at "ev") (by walk_at "ev")), fun x _ _ σ => by walk_at "ev"⟩) (fun _ _ => Sub.cons (by rfl) Sub.nil) (by simp)).eq (by rw [H.hps]; rfl)) (.inr ⟨rfl, by rfl⟩)) ?_
  -- mask
  have hp13 : ∀ k ∈ ps, k < 13 := fun k hk => by rw [H.hps] at hk; exact List.mem_range.mp (List.mem_filter.mp hk).1
  have hpl : ps.length ≤ 13 := by rw [H.hps]; exact Nat.le_trans (List.length_filter_le _ _) (by simp)
  have hsum : ∀ l : List Nat, (∀ k ∈ l, k < 13) → (zls (l.map (2 ^ ·))).sum = ((l.map (2 ^ ·)).sum : Nat) ∧ (l.map (2 ^ ·)).sum ≤ l.length * 8192 := fun l => by
    induction l with
    | nil => exact fun _ => ⟨rfl, Nat.zero_le _⟩
    | cons k l ih =>
      intro hl
      obtain ⟨h1, h2⟩ := ih fun j hj => hl j (.tail _ hj)
      have hk : 2 ^ k ≤ 2 ^ 13 := Nat.pow_le_pow_right (by decide) (by have := hl k (.head _); omega)
      refine ⟨?_, ?_⟩
      · show ((2 ^ k : Nat) : Int) + (zls (l.map (2 ^ ·))).sum = ((2 ^ k + (l.map (2 ^ ·)).sum : Nat) : Int)
        rw [h1]; omega
      · show 2 ^ k + (l.map (2 ^ ·)).sum ≤ (l.length + 1) * 8192
        omega
  refine Ex.cons (Es.asg (a := .int (m : Nat)) ((Ev.call (d := 1) (rm.le (by decide)) (by walk_at "ev") (Evs.cons ((Ev.maps (ρc := []) ps (fun k : Nat => .int (k : Nat)) (fun k => .int ((2 ^ k : Nat) : Int)) (fun k => [(kPlace, .int (k : Nat))]) (Src.list rm.hd (by walk_at "ev")) (CScope.of [] (by show csOk (fnScope sLaw) _ _ = true; decide +kernel) rfl Sub.nil) (fun L cl E => ⟨fun x _ => As.name (.inl (by rfl)), fun k hk σ => Ev.bin (Ev.int (i := ((1 : Nat) : Int))) (by walk_at "ev") ((BinI.shlN (by have := hp13 k hk; omega) (by decide)).eq (by rw [Nat.one_mul]))⟩) (fun _ _ => Sub.nil) (by first | assumption | decide | omega)).eq (b := .list ((zls (ps.map (2 ^ ·))).map .int)) (by unfold zls; rw [List.map_map, List.map_map]; rfl)) Evs.nil) Evk.nil fun _ _ _ => ⟨kpB, fnSum fun j hj => ?_⟩).eq (by rw [(hsum ps hp13).1, H.hm]; rfl)) (.inr ⟨rfl, by rfl⟩)) ?_
  · rw [zls_len, List.length_map] at hj
    have e1 : (zls (ps.map (2 ^ ·))).getD j 0 = ((2 ^ ps[j] : Nat) : Int) := by
      unfold zls
      rw [List.getD_eq_getElem?_getD, List.getElem?_map, List.getElem?_map, List.getElem?_eq_getElem hj]; rfl
    have e2 : (zls (ps.map (2 ^ ·))).take (j + 1) = zls ((ps.take (j + 1)).map (2 ^ ·)) := by unfold zls; rw [← List.map_take, ← List.map_take]
    obtain ⟨h1, h2⟩ := hsum (ps.take (j + 1)) fun k hk => hp13 k (List.mem_of_mem_take hk)
    have hk : 2 ^ ps[j] ≤ 2 ^ 13 := Nat.pow_le_pow_right (by decide) (by have := hp13 _ (List.getElem_mem hj); omega)
    rw [e1, e2, h1]
    generalize 2 ^ ps[j] = y at *
    have h3 : (ps.take (j + 1)).length ≤ 13 := by rw [List.length_take]; omega
    have e13 : (2 : Nat) ^ 13 = 8192 := by decide
    have e63 : (2 : Int) ^ 63 = 9223372036854775808 := by decide
    unfold InLong
    omega
  have hml : m ≤ 13 * 8192 := by
    have := (hsum ps hp13).2
    rw [← maskOf, ← H.hm] at this
    omega
  -- words, others
  refine Ex.cons (Es.asg (a := .list (texts ws)) (Ev.call (d := 4) (rm.le (by decide)) (by walk_at "ev") (Evs.cons (by walk_at "ev") Evs.nil) Evk.nil fun F s X => ⟨Def.kp (P.words.choose_spec.d) X.ok, by rw [H.hws]; exact wordsFn P (fun p hp => by have := hp13 p hp; omega) (by first | assumption | decide | omega)⟩) (.inr ⟨rfl, by rfl⟩)) ?_
  have hol : (othersOf ps).length ≤ 32 := Nat.le_trans (List.length_filter_le _ _) (by simp)
  refine Ex.cons (Es.asg (a := .list (texts ((othersOf ps).map nm))) (Ev.call (d := 4) (rm.le (by decide)) (by walk_at "ev") (Evs.cons ((Ev.map (ρc := [(kPlaces, .list (nints ps))]) (List.range 32) (fun k : Nat => .int (k : Nat)) (fun k => .int (k : Nat)) (fun k => !(zls ps).any (· == (k : Int))) (fun k => [(kPlace, .int (k : Nat))]) (Src.range rm.hd (by walk_at "ev") (Ev.int (i := ((32 : Nat) : Int))) (by decide)) (CScope.of [kPlaces] (by show csOk (fnScope sLaw) _ _ = true; decide +kernel) rfl (Sub.cons (by rfl) Sub.nil)) (fun L cl E => ⟨fun x _ => As.name (.inl (by rfl)), fun x _ σ => Ts.one (Tr.notInI (ns := zls ps) (by walk_at "ev") (Ev.eq (a := .list (nints ps)) (by walk_at "ev") (by unfold zls nints; rw [List.map_map]; rfl))), fun x _ _ σ => by walk_at "ev"⟩) (fun _ _ => Sub.cons (by rfl) Sub.nil) (by simp)).eq (b := .list (nints (othersOf ps))) (by rfl)) Evs.nil) Evk.nil fun F s X => ⟨Def.kp (P.words.choose_spec.d) X.ok, wordsFn P (fun p hp => List.mem_range.mp (List.mem_filter.mp hp).1) (by first | assumption | decide | omega)⟩) (.inl (by rfl))) ?_
  -- what the flags are called
  have hwl : ws.length ≤ 13 := by rw [H.hws, List.length_map]; exact hpl
  have hwz : ∀ l : List Nat, (∀ k ∈ l, k < 32) → ((l.map nm).map (·.length)).sum ≤ l.length * 20 := fun l => by
    induction l with
    | nil => exact fun _ => Nat.zero_le _
    | cons k l ih =>
      intro hl
      have h1 := ih fun j hj => hl j (.tail _ hj)
      have h2 := nmOk k (hl k (.head _))
      show (nm k).length + ((l.map nm).map (·.length)).sum ≤ (l.length + 1) * 20
      omega
  have hsep : kSep.length = 2 := sepLen
  have hjw : (ws.map (·.length)).sum + ws.length * kSep.length ≤ 1000 := by
    have := hwz ps fun k hk => by have := hp13 k hk; omega
    rw [← H.hws] at this
    rw [hsep]; omega
  have hol2 : (((othersOf ps).map nm ++ [Str.ofString "-0x100000000"]).map (·.length)).sum + ((othersOf ps).map nm ++ [Str.ofString "-0x100000000"]).length * kSep.length ≤ 1000 := by
    have := hwz (othersOf ps) fun p hp => List.mem_range.mp (List.mem_filter.mp hp).1
    rw [List.map_append, List.sum_append, List.length_append, List.length_map, hsep]
    have e : (List.map (fun x : Str => x.length) [Str.ofString "-0x100000000"]).sum = 12 := by decide +kernel
    have e2 : [Str.ofString "-0x100000000"].length = 1 := rfl
    omega
  have hjl : (Txt.join kSep ws).length ≤ 1000000 := by
    have h1 := StrLaws.join_length_le kSep ws
    have h2 : Txt.join kSep ws = Str.join kSep ws := StrLaws.glued_eq_join _ _
    rw [h2]; omega
  have hnot : (hexT ((2 ^ 32 : Nat) * ((Builtin.bitNot (m : Int)) / (2 ^ 32 : Nat)))).length ≤ 20 := by
    have e : (Builtin.bitNot (m : Int)) / ((2 ^ 32 : Nat) : Int) = -1 := by unfold Builtin.bitNot; omega
    rw [e]; decide +kernel
  refine Ex.cons (Es.pass0 (Tr.bop (b := false || (false || false)) (Trs.or_cons (Tr.neS (Ev.call (d := 6) (rm.le (by decide)) (by walk_at "ev") (Evs.cons (by walk_at "ev") Evs.nil) Evk.nil fun F s X => ⟨Def.kp (P.flags.choose_spec.d) X.ok, flagsFn' P (small_hz (by first | assumption | decide | omega))⟩) ((Ev.orS (Ev.join Ev.str (by walk_at "ev") (by show _ + _ * kSep.length ≤ _; omega)) Ev.str hjl).eq (by rw [H.f1]))) fun _ => Trs.or_cons (Tr.neS (Ev.call (d := 6) (rm.le (by decide)) (by walk_at "ev") (Evs.cons (Ev.inv (by walk_at "ev")) Evs.nil) Evk.nil fun F s X => ⟨Def.kp (P.flags.choose_spec.d) X.ok, flagsFn' P hnot⟩) ((Ev.join Ev.str ((Ev.addL (by walk_at "ev") (Ev.lst (Evs.cons Ev.str Evs.nil)) (by rw [List.length_map, List.length_map]; show _ + 1 ≤ _; omega)).eq (b := .list (texts ((othersOf ps).map nm ++ [Str.ofString "-0x100000000"]))) (by simp only [texts, List.map_append]; rfl)) (by show _ + _ * kSep.length ≤ _; omega)).eq (by rw [H.f2]))) fun _ => Trs.or_nil))) ?_
  -- sketches
  have hks : AV.list ((zls keys).map .int) = .list (keys.map fun k : Nat => .int (k : Nat)) := by unfold zls; rw [List.map_map]; rfl
  refine Ex.cons (Es.asgMaps (ρc := [(kMask, .int (m : Nat)), (kWords, .list (texts ws))]) keys (fun k : Nat => .int (k : Nat)) (fun k => .int (sketch (k &&& m) ws : Nat)) (fun k => [(kKy, .int (k : Nat))]) (Src.list rm.hd (Ev.eq (by walk_at "ev") hks)) (CScope.of [kMask, kWords] (by show csOk (fnScope sLaw) _ _ = true; decide +kernel) rfl (Sub.cons (by rfl) (Sub.cons (by rfl) Sub.nil))) (fun L cl E => ⟨fun x _ => As.name (.inl (by rfl)), fun k hk σ => Ev.call (d := ws.length + 9) (rm.le (Nat.le_trans (Nat.add_le_add_right hwl 9) (by decide))) (by walk_at "ev") (Evs.cons (by walk_at "ev") (Evs.cons (by walk_at "ev") (Evs.cons (by walk_at "ev") Evs.nil))) Evk.nil fun F s X => ⟨Def.kp (P.sketch.choose_spec.d) X.ok, sketchFn P (Nat.lt_trans (H.hkb k hk) (by decide)) (Nat.le_trans hwl (by decide))⟩⟩) (fun _ _ => Sub.cons (by rfl) (Sub.cons (by rfl) Sub.nil)) (by rw [hkl]; decide) (.inl (by rfl))) ?_
  rw [show (AV.list (keys.map fun k => AV.int (sketch (k &&& m) ws : Nat))) = lst sk by rw [H.hsk]; unfold lst zls sketchesOf; rw [List.map_map, List.map_map]; rfl]
  -- each number asked for
  have eq5 : ((c.drop 5).map fun x : Nat => AV.int ((x % 10000 : Nat) : Int)) = nints q := by rw [H.hq, askedOf, nints, List.map_map]; rfl
  refine Ex.cons (ρ' := [(kRow, .list (rowA (rowAt d d.length)))]) (σ' := []) (Es.for (vs := nints q) (Src.list rm.hd ((Ev.maps (ρc := []) (c.drop 5) (fun x : Nat => .int (x : Nat)) (fun x => .int ((x % 10000 : Nat) : Int)) (fun x => [(kCell, .int (x : Nat))]) ((Src.list rm.hd (Ev.slice (a := some ((5 : Nat) : Int)) (by walk_at "ev") (Evp.some Ev.int) Evp.none (by rw [List.length_map, hcl]; decide))).eq (by rw [slc_map]; congr 1; unfold slc; simp only [Option.elim, clipAt_nat, hcl]; rw [List.take_of_length_le (by simp [hcl])]; rfl)) (CScope.of [] (by show csOk (fnScope sLaw) _ _ = true; decide +kernel) rfl Sub.nil) (fun L cl E => ⟨fun x _ => As.name (.inl (by rfl)), fun x hx σ => Ev.bin (by walk_at "ev") (Ev.int (i := ((10000 : Nat) : Int))) ((BinI.mod (by decide)).eq (modN (by decide)))⟩) (fun _ _ => Sub.nil) (by rw [List.length_drop, hcl]; decide)).eq (by rw [eq5]))) fun it τ I hE => ?_) ?_
  · refine Fo.sub (Fo.run 3 I (by rw [List.length_map, hql]) hE (fun i => [(kKeys, lst keys), (kSk, lst sk), (kMask, .int (m : Nat)), (kWords, .list (texts ws)), (kRow, .list (rowA (rowAt d d.length)))]) (fun i => []) (fun i => [(kNumber, .int (q.getD i 0 : Nat))]) (fun i x hi hx => ?_) (Ex.fgt Ex.nil (Sub.cons (by rfl) Sub.nil))) (Sub.cons (by rfl) (Sub.cons (by rfl) (Sub.cons (by rfl) (Sub.cons (by rfl) (Sub.cons (by rfl) Sub.nil)))))
    have hi' : i < q.length := by rw [hql]; exact hi
    have hx' : x = .int (q.getD i 0 : Nat) := by rw [List.getElem?_map, List.getElem?_eq_getElem hi'] at hx; rw [List.getD_eq_getElem?_getD, List.getElem?_eq_getElem hi']; simpa using hx.symm
    subst hx'
    have hmem : q.getD i 0 ∈ q := by rw [List.getD_eq_getElem?_getD, List.getElem?_eq_getElem hi']; exact List.getElem_mem _
    obtain ⟨du1, du2⟩ := H.due _ hmem
    obtain ⟨e, p, near, HF⟩ := H.found _ hmem
    generalize q.getD i 0 = n at *
    refine ⟨As.name (.inr ⟨rfl, by rfl⟩), ?_⟩
    refine Ex.cons (Es.asg (a := .tup [.int (SL keys (n : Nat) 0 5 : Nat), .int (SR keys (n : Nat) 0 5 : Nat)]) ((Ev.tup (Evs.cons (Ev.call (d := 1) (rm.le (by decide)) (by walk_at "ev") (Evs.cons (Ev.map (ρc := [(kNumber, .int (n : Nat))]) keys (fun k : Nat => .int (k : Nat)) (fun k => .int (k : Nat)) (fun k => decide (k < n)) (fun k => [(kKy, .int (k : Nat))]) (Src.list rm.hd (Ev.eq (by walk_at "ev") hks)) (CScope.of [kNumber] (by show csOk (fnScope sLaw) _ _ = true; decide +kernel) rfl (Sub.cons (by rfl) Sub.nil)) (fun L cl E => ⟨fun x _ => As.name (.inl (by rfl)), fun k _ σ => Ts.one (Tr.eq (Tr.cmp (by walk_at "ev") (by walk_at "ev") CmpI.lt) (decide_eq_decide.mpr Int.ofNat_lt)), fun k _ _ σ => by walk_at "ev"⟩) (fun _ _ => Sub.cons (by rfl) Sub.nil) (by rw [hkl]; decide)) Evs.nil) Evk.nil fun _ _ _ => ⟨kpB, fnLen (by rw [List.length_map]; exact Nat.le_trans (List.length_filter_le _ _) (by rw [hkl]; decide))⟩) (Evs.cons (Ev.call (d := 1) (rm.le (by decide)) (by walk_at "ev") (Evs.cons (Ev.map (ρc := [(kNumber, .int (n : Nat))]) keys (fun k : Nat => .int (k : Nat)) (fun k => .int (k : Nat)) (fun k => decide (k ≤ n)) (fun k => [(kKy, .int (k : Nat))]) (Src.list rm.hd (Ev.eq (by walk_at "ev") hks)) (CScope.of [kNumber] (by show csOk (fnScope sLaw) _ _ = true; decide +kernel) rfl (Sub.cons (by rfl) Sub.nil)) (fun L cl E => ⟨fun x _ => As.name (.inl (by rfl)), fun k _ σ => Ts.one (Tr.eq (Tr.cmp (by walk_at "ev") (by walk_at "ev") CmpI.le) (decide_eq_decide.mpr Int.ofNat_le)), fun k _ _ σ => by walk_at "ev"⟩) (fun _ _ => Sub.cons (by rfl) Sub.nil) (by rw [hkl]; decide)) Evs.nil) Evk.nil fun _ _ _ => ⟨kpB, fnLen (by rw [List.length_map]; exact Nat.le_trans (List.length_filter_le _ _) (by rw [hkl]; decide))⟩) Evs.nil))).eq (by rw [List.length_map, List.length_map, du1, du2])) (.inl (by rfl))) ?_
    refine Ex.fgt (Ex.one (Es.pass0 (Tr.bop (b := false || (false || false)) (Trs.or_cons (Tr.neT hu ((Ev.tup (Evs.cons (Ev.call (d := 3) (rm.le (by decide)) (by walk_at "ev") (Evs.cons (by walk_at "ev") (Evs.cons (by walk_at "ev") Evs.nil)) Evk.nil fun F s X => ⟨kpL P X.ok, cL2 P (by rw [hkl]; decide)⟩) (Evs.cons (Ev.call (d := 3) (rm.le (by decide)) (by walk_at "ev") (Evs.cons (by walk_at "ev") (Evs.cons (by walk_at "ev") Evs.nil)) Evk.nil fun F s X => ⟨kpR P X.ok, cR2 P (by rw [hkl]; decide)⟩) Evs.nil))).eq (by rw [hkl])) (by walk_at "ev")) fun _ => Trs.or_cons (Tr.neT hu (Ev.callS (A := A) (d := 130) (rm.le (by decide)) S rfl rfl (by walk_at "ev") (Evs.cons (by walk_at "ev") (Evs.cons (by walk_at "ev") (Evs.cons (by walk_at "ev") (Evs.cons (by walk_at "ev") (Evs.cons (by walk_at "ev") Evs.nil))))) Evk.nil fun F s X => ⟨Def.kp (P.found.choose_spec.d) X.ok, foundFn P HF⟩) (by walk_at "ev")) fun _ => Trs.or_nil)))) (Sub.cons (by rfl) (Sub.cons (by rfl) (Sub.cons (by rfl) (Sub.cons (by rfl) (Sub.cons (by rfl) Sub.nil)))))
  exact Ex.head (Es.ret (Ev.callS (A := A) (d := 8) (rm.le (by decide)) S rfl rfl (by walk_at "ev") (Evs.cons (by walk_at "ev") Evs.nil) Evk.nil fun F s X => ⟨Def.kp (P.refused.choose_spec.d) X.ok, refusedFn P (by rw [rowAt_len, hdl]; decide)⟩))
/- bisection finds the place that a predicate has -/
theorem bisL_eq {f : Nat → Int} {x : Int} {r : Nat} : ∀ n lo hi, hi - lo ≤ n → lo ≤ r → r ≤ hi → (∀ i, lo ≤ i → i < hi → (f i < x ↔ i < r)) → bisL f x lo hi = r := by
  intro n
  induction n with
  | zero =>
    intro lo hi hn h1 h2 h
    rw [bisL, dif_neg (by first | assumption | decide | omega)]; omega
  | succ n ih =>
    intro lo hi hn h1 h2 h
    rw [bisL]
    by_cases hl : lo < hi
    · rw [dif_pos hl]
      have hm := h ((lo + hi) / 2) (by first | assumption | decide | omega) (by first | assumption | decide | omega)
      by_cases hx : f ((lo + hi) / 2) < x
      · rw [if_pos hx]
        exact ih _ _ (by first | assumption | decide | omega) (by have := hm.mp hx; omega) h2 fun i a b => h i (by first | assumption | decide | omega) b
      · rw [if_neg hx]
        exact ih _ _ (by first | assumption | decide | omega) h1 (by have : ¬ _ := fun q => hx (hm.mpr q); omega) fun i a b => h i a (by first | assumption | decide | omega)
    · rw [dif_neg hl]; omega
theorem bisR_eq {f : Nat → Int} {x : Int} {r : Nat} : ∀ n lo hi, hi - lo ≤ n → lo ≤ r → r ≤ hi → (∀ i, lo ≤ i → i < hi → (f i ≤ x ↔ i < r)) → bisR f x lo hi = r := by
  intro n
  induction n with
  | zero =>
    intro lo hi hn h1 h2 h
    rw [bisR, dif_neg (by first | assumption | decide | omega)]; omega
  | succ n ih =>
    intro lo hi hn h1 h2 h
    rw [bisR]
    by_cases hl : lo < hi
    · rw [dif_pos hl]
      have hm := h ((lo + hi) / 2) (by first | assumption | decide | omega) (by first | assumption | decide | omega)
      by_cases hx : x < f ((lo + hi) / 2)
      · rw [if_pos hx]
        exact ih _ _ (by first | assumption | decide | omega) h1 (by have : ¬ _ := fun q => (Int.not_le.mpr hx) (hm.mpr q); omega) fun i a b => h i a (by first | assumption | decide | omega)
      · rw [if_neg hx]
        exact ih _ _ (by first | assumption | decide | omega) (by have := hm.mp (Int.not_lt.mp hx); omega) h2 fun i a b => h i (by first | assumption | decide | omega) b
    · rw [dif_neg hl]; omega
/- where a predicate that once false stays false ends -/
theorem rank {p : Nat → Prop} [DecidablePred p] (N : Nat) (h : ∀ i j, i < j → j < N → p j → p i) : ∃ r, r ≤ N ∧ ∀ i, i < N → (p i ↔ i < r) := by
  induction N with
  | zero => exact ⟨0, Nat.le_refl _, fun i hi => nomatch hi⟩
  | succ N ih =>
    obtain ⟨r, hr, e⟩ := ih fun i j a b => h i j a (by first | assumption | decide | omega)
    by_cases hp : p N
    · refine ⟨N + 1, Nat.le_refl _, fun i hi => ⟨fun _ => hi, fun _ => ?_⟩⟩
      by_cases hi2 : i = N
      · subst hi2; exact hp
      · exact h i N (by first | assumption | decide | omega) (by first | assumption | decide | omega) hp
    · refine ⟨r, by omega, fun i hi => ?_⟩
      by_cases hi2 : i = N
      · subst hi2; exact ⟨fun q => absurd q hp, fun q => by omega⟩
      · exact e i (by first | assumption | decide | omega)
theorem zlsD (ds : List Nat) (i : Nat) : (zls ds).getD i 0 = (ds.getD i 0 : Nat) := by
  unfold zls
  rw [List.getD_eq_getElem?_getD, List.getD_eq_getElem?_getD, List.getElem?_map]
  cases ds[i]? <;> rfl
theorem SL_eq {ds : List Nat} {x : Int} {lo hi r : Nat} (h1 : lo ≤ r) (h2 : r ≤ hi) (h : ∀ i, lo ≤ i → i < hi → (((ds.getD i 0 : Nat) : Int) < x ↔ i < r)) : SL ds x lo hi = r :=
  bisL_eq _ _ _ (Nat.le_refl _) h1 h2 fun i a b => by rw [zlsD]; exact h i a b
theorem SR_eq {ds : List Nat} {x : Int} {lo hi r : Nat} (h1 : lo ≤ r) (h2 : r ≤ hi) (h : ∀ i, lo ≤ i → i < hi → (((ds.getD i 0 : Nat) : Int) ≤ x ↔ i < r)) : SR ds x lo hi = r :=
  bisR_eq _ _ _ (Nat.le_refl _) h1 h2 fun i a b => by rw [zlsD]; exact h i a b
/- how many of a list fulfil such a predicate -/
theorem count_eq {p : Nat → Bool} : ∀ (l : List Nat) (r : Nat), r ≤ l.length → (∀ i, i < l.length → (p (l.getD i 0) = true ↔ i < r)) → (l.filter p).length = r
  | [], r, h, _ => by simp at h; simp [h]
  | a :: l, r, hr, h => by
    have h0 := h 0 (by simp)
    have ht : ∀ i, i < l.length → (p (l.getD i 0) = true ↔ i + 1 < r) := fun i hi => h (i + 1) (by simpa using hi)
    rw [List.filter_cons]
    by_cases hp : p a = true
    · rw [if_pos hp]
      have : 0 < r := h0.mp hp
      show (l.filter p).length + 1 = r
      rw [count_eq l (r - 1) (by simp at hr; omega) fun i hi => by rw [ht i hi]; omega]
      omega
    · rw [if_neg hp]
      have hr0 : r = 0 := by
        have : ¬ 0 < r := fun q => hp (h0.mpr q)
        omega
      subst hr0
      rw [count_eq l 0 (Nat.zero_le _) fun i hi => by rw [ht i hi]; omega]
theorem div_le {x y : Nat} (h : Nat) (e : x ≤ y) : x / 2 ^ h ≤ y / 2 ^ h := Nat.div_le_div_right e
theorem div_succ (x h : Nat) : x / 2 ^ (h + 1) = x / 2 ^ h / 2 := by rw [Nat.pow_succ, Nat.div_div_eq_div_mul]
theorem div_up {x y h : Nat} (e : x / 2 ^ h = y / 2 ^ h) : ∀ k, h ≤ k → x / 2 ^ k = y / 2 ^ k := fun k hk => by
  obtain ⟨j, rfl⟩ : ∃ j, k = h + j := ⟨k - h, by omega⟩
  rw [Nat.pow_add, ← Nat.div_div_eq_div_mul, ← Nat.div_div_eq_div_mul, e]
/- the highest place in which two numbers differ -/
theorem jump {x y h : Nat} (hl : x / 2 ^ h < y / 2 ^ h) : ∃ b, h ≤ b ∧ x / 2 ^ (b + 1) = y / 2 ^ (b + 1) ∧ x / 2 ^ b < y / 2 ^ b := by
  have go : ∀ m, x / 2 ^ (h + m) = y / 2 ^ (h + m) → ∃ b, h ≤ b ∧ x / 2 ^ (b + 1) = y / 2 ^ (b + 1) ∧ x / 2 ^ b < y / 2 ^ b := by
    intro m
    induction m with
    | zero => intro e; exact absurd e (by rw [Nat.add_zero]; omega)
    | succ m ih =>
      intro e
      by_cases q : x / 2 ^ (h + m) = y / 2 ^ (h + m)
      · exact ih q
      · refine ⟨h + m, by omega, e, ?_⟩
        have : x / 2 ^ (h + m) ≤ y / 2 ^ (h + m) := by
          rw [Nat.pow_add, ← Nat.div_div_eq_div_mul, ← Nat.div_div_eq_div_mul]
          exact Nat.div_le_div_right (by first | assumption | decide | omega)
        omega
  refine go (x + y) ?_
  have h1 : x < 2 ^ (h + (x + y)) := Nat.lt_of_lt_of_le Nat.lt_two_pow_self (Nat.pow_le_pow_right (by decide) (by first | assumption | decide | omega))
  have h2 : y < 2 ^ (h + (x + y)) := Nat.lt_of_lt_of_le Nat.lt_two_pow_self (Nat.pow_le_pow_right (by decide) (by first | assumption | decide | omega))
  rw [Nat.div_eq_of_lt h1, Nat.div_eq_of_lt h2]
/- what a sketch keeps of the order -/
structure SkOk (P : Nat → Prop) (sk : Nat → Nat) (z : Nat) : Prop where
  s1 : ∀ x y b, x / 2 ^ (b + 1) = y / 2 ^ (b + 1) → x / 2 ^ b < y / 2 ^ b → P b → sk x < sk y
  s2 : ∀ x y h, x / 2 ^ h = y / 2 ^ h → y % 2 ^ h = 2 ^ h - 1 → sk x ≤ sk y
  s3 : ∀ x y h, x / 2 ^ h = y / 2 ^ h → y % 2 ^ h = 0 → sk y ≤ sk x
  s4 : ∀ x, sk x < 2 ^ z
/- keys in order, all whose differences lie in the places -/
structure KeysOk (P : Nat → Prop) (f : Nat → Nat) : Prop where
  mono : ∀ i j, i ≤ j → j < 5 → f i ≤ f j
  top : ∀ i j b, i < 5 → j < 5 → f i / 2 ^ (b + 1) = f j / 2 ^ (b + 1) → f i / 2 ^ b < f j / 2 ^ b → P b
section
variable {P : Nat → Prop} {sk f : Nat → Nat} {z n h : Nat}
theorem sk_lt (S : SkOk P sk z) (K : KeysOk P f) {i j : Nat} (hi : i < 5) (hj : j < 5) (e : f i < f j) : sk (f i) < sk (f j) := by
  obtain ⟨b, _, e1, e2⟩ := jump (h := 0) (x := f i) (y := f j) (by simpa using e)
  exact S.s1 _ _ b e1 e2 (K.top i j b hi hj e1 e2)
theorem sk_le (S : SkOk P sk z) (K : KeysOk P f) {i j : Nat} (hi : i < 5) (hj : j < 5) (e : f i ≤ f j) : sk (f i) ≤ sk (f j) := by
  rcases Nat.lt_or_eq_of_le e with e | e
  · exact Nat.le_of_lt (sk_lt S K hi hj e)
  · rw [e]; exact Nat.le_refl _
/- the neighbours share what any key shares with the number -/
theorem near_left (S : SkOk P sk z) (K : KeysOk P f) {j t : Nat} (hjt : j ≤ t) (ht : t < 5) (hs : sk (f t) ≤ sk n) (e : n / 2 ^ h = f j / 2 ^ h) : n / 2 ^ h = f t / 2 ^ h := by
  by_cases q : f j / 2 ^ h = f t / 2 ^ h
  · rw [e, q]
  have l : f j / 2 ^ h < f t / 2 ^ h := by have := div_le h (K.mono j t hjt ht); omega
  obtain ⟨b, hb, e1, e2⟩ := jump l
  have p := K.top j t b (by first | assumption | decide | omega) ht e1 e2
  have := S.s1 n (f t) b (by rw [div_up e (b + 1) (by first | assumption | decide | omega)]; exact e1) (by rw [div_up e b hb]; exact e2) p
  omega
theorem near_right (S : SkOk P sk z) (K : KeysOk P f) {j t : Nat} (hjt : t ≤ j) (hj : j < 5) (hs : sk n < sk (f t)) (e : n / 2 ^ h = f j / 2 ^ h) : n / 2 ^ h = f t / 2 ^ h := by
  by_cases q : f t / 2 ^ h = f j / 2 ^ h
  · rw [e, q]
  have l : f t / 2 ^ h < f j / 2 ^ h := by have := div_le h (K.mono t j hjt hj); omega
  obtain ⟨b, hb, e1, e2⟩ := jump l
  have p := K.top t j b (by first | assumption | decide | omega) hj e1 e2
  have := S.s1 (f t) n b (by rw [div_up e (b + 1) (by first | assumption | decide | omega)]; exact e1) (by rw [div_up e b hb]; exact e2) p
  omega
/- where the number leaves the keys: above the place it goes with one of them, at the place with none -/
structure Leaves (f : Nat → Nat) (n h : Nat) : Prop where
  none : ∀ j, j < 5 → n / 2 ^ h ≠ f j / 2 ^ h
  one : ∃ t, t < 5 ∧ n / 2 ^ (h + 1) = f t / 2 ^ (h + 1)
theorem Leaves.lt (S : SkOk P sk z) (K : KeysOk P f) (V : Leaves f n h) {x i b : Nat} (hi : i < 5) (hx : x / 2 ^ (h + 1) = n / 2 ^ (h + 1)) (hb : h < b) (e1 : f i / 2 ^ (b + 1) = x / 2 ^ (b + 1)) (e2 : f i / 2 ^ b < x / 2 ^ b) : P b := by
  obtain ⟨t, ht, e⟩ := V.one
  have g : x / 2 ^ (h + 1) = f t / 2 ^ (h + 1) := hx.trans e
  exact K.top i t b hi ht (e1.trans (div_up g _ (by first | assumption | decide | omega))) (by rw [← div_up g b (by first | assumption | decide | omega)]; exact e2)
theorem Leaves.gt (S : SkOk P sk z) (K : KeysOk P f) (V : Leaves f n h) {x i b : Nat} (hi : i < 5) (hx : x / 2 ^ (h + 1) = n / 2 ^ (h + 1)) (hb : h < b) (e1 : x / 2 ^ (b + 1) = f i / 2 ^ (b + 1)) (e2 : x / 2 ^ b < f i / 2 ^ b) : P b := by
  obtain ⟨t, ht, e⟩ := V.one
  have g : x / 2 ^ (h + 1) = f t / 2 ^ (h + 1) := hx.trans e
  exact K.top t i b ht hi ((div_up g _ (by first | assumption | decide | omega)).symm.trans e1) (by rw [← div_up g b (by first | assumption | decide | omega)]; exact e2)
theorem lastOdd {n h : Nat} (ho : n / 2 ^ h % 2 = 1) : (n / 2 ^ h * 2 ^ h - 1) / 2 ^ h = n / 2 ^ h - 1 ∧ (n / 2 ^ h * 2 ^ h - 1) % 2 ^ h = 2 ^ h - 1 := by
  have hp := Nat.two_pow_pos h
  generalize n / 2 ^ h = w at *
  obtain ⟨v, rfl⟩ : ∃ v, w = v + 1 := ⟨w - 1, by omega⟩
  generalize 2 ^ h = T at *
  have e : (v + 1) * T - 1 = T * v + (T - 1) := by rw [Nat.add_mul, Nat.mul_comm v T]; omega
  rw [e]
  refine ⟨?_, ?_⟩
  · rw [Nat.mul_add_div hp, Nat.div_eq_of_lt (by first | assumption | decide | omega)]; omega
  · rw [Nat.mul_add_mod, Nat.mod_eq_of_lt (by first | assumption | decide | omega)]
theorem lastEven {n h : Nat} : (n / 2 ^ h * 2 ^ h + 2 ^ h) / 2 ^ h = n / 2 ^ h + 1 ∧ (n / 2 ^ h * 2 ^ h + 2 ^ h) % 2 ^ h = 0 := by
  have hp := Nat.two_pow_pos h
  generalize n / 2 ^ h = w at *
  generalize 2 ^ h = T at *
  have e : w * T + T = T * (w + 1) := by rw [Nat.mul_add, Nat.mul_comm]; omega
  rw [e]
  exact ⟨Nat.mul_div_cancel_left _ hp, Nat.mul_mod_right _ _⟩
theorem oddHalf {w : Nat} (h : w % 2 = 1) : (w - 1) / 2 = w / 2 := by omega
theorem evenHalf {w : Nat} (h : w % 2 ≠ 1) : (w + 1) / 2 = w / 2 := by omega
theorem ltOdd {u v w : Nat} (l1 : v = w - 1) (h1 : w ≤ u) (hne : w ≠ u) : v < u := by omega
theorem cOdd1 {u v w : Nat} (e1 : u / 2 = v / 2) (e2 : u < v) (l1 : v = w - 1) (ho : w % 2 = 1) : False := by omega
theorem cOdd2 {u v w : Nat} (e1 : v / 2 = u / 2) (l1 : v = w - 1) (h1 : w ≤ u) (hne : w ≠ u) (ho : w % 2 = 1) : False := by omega
theorem cEven1 {u v w : Nat} (e1 : v / 2 = u / 2) (e2 : v < u) (l1 : v = w + 1) (ho : w % 2 ≠ 1) : False := by omega
theorem cEven2 {u v w : Nat} (e1 : u / 2 = v / 2) (l1 : v = w + 1) (h1 : u ≤ w) (hne : w ≠ u) (ho : w % 2 ≠ 1) : False := by omega
theorem odd_case (S : SkOk P sk z) (K : KeysOk P f) (V : Leaves f n h) (ho : n / 2 ^ h % 2 = 1) {i : Nat} (hi : i < 5) : (sk (f i) ≤ sk (n / 2 ^ h * 2 ^ h - 1) ↔ f i < n) ∧ (sk (f i) ≤ sk n → f i < n) := by
  obtain ⟨l1, l2⟩ := lastOdd ho
  generalize n / 2 ^ h * 2 ^ h - 1 = x at *
  have hx : x / 2 ^ (h + 1) = n / 2 ^ (h + 1) := by rw [div_succ, div_succ, l1]; exact oddHalf ho
  have hne := V.none i hi
  rcases Nat.lt_or_ge (f i) n with hy | hy
  · refine ⟨⟨fun _ => hy, fun _ => ?_⟩, fun _ => hy⟩
    have h1 := div_le h (Nat.le_of_lt hy)
    by_cases q : f i / 2 ^ h = x / 2 ^ h
    · exact S.s2 _ _ h q l2
    · obtain ⟨b, hb, e1, e2⟩ := jump (x := f i) (y := x) (h := h) (by first | assumption | decide | omega)
      have hbh : b ≠ h := fun e => by
        subst e
        rw [div_succ, div_succ] at e1
        exact cOdd1 e1 e2 l1 ho
      exact Nat.le_of_lt (S.s1 _ _ b e1 e2 (V.lt S K hi hx (by first | assumption | decide | omega) e1 e2))
  · have h1 := div_le h hy
    obtain ⟨b, hb, e1, e2⟩ := jump (x := x) (y := f i) (h := h) (ltOdd l1 h1 hne)
    have hbh : b ≠ h := fun e => by
      subst e
      rw [div_succ, div_succ] at e1
      exact cOdd2 e1 l1 h1 hne ho
    have p := V.gt S K hi hx (by first | assumption | decide | omega) e1 e2
    have g1 := S.s1 _ _ b e1 e2 p
    have g2 := S.s1 n (f i) b ((div_up hx (b + 1) (by first | assumption | decide | omega)).symm.trans e1) (by rw [← div_up hx b (by first | assumption | decide | omega)]; exact e2) p
    exact ⟨⟨fun q => by omega, fun q => by omega⟩, fun q => by omega⟩
theorem even_case (S : SkOk P sk z) (K : KeysOk P f) (V : Leaves f n h) (ho : n / 2 ^ h % 2 ≠ 1) {i : Nat} (hi : i < 5) : (sk (f i) < sk (n / 2 ^ h * 2 ^ h + 2 ^ h) ↔ f i < n) ∧ (f i < n → sk (f i) ≤ sk n) := by
  obtain ⟨l1, l2⟩ := lastEven (n := n) (h := h)
  generalize n / 2 ^ h * 2 ^ h + 2 ^ h = x at *
  have hx : x / 2 ^ (h + 1) = n / 2 ^ (h + 1) := by rw [div_succ, div_succ, l1]; exact evenHalf ho
  have hne := V.none i hi
  rcases Nat.lt_or_ge (f i) n with hy | hy
  · have h1 := div_le h (Nat.le_of_lt hy)
    obtain ⟨b, hb, e1, e2⟩ := jump (x := f i) (y := x) (h := h) (by first | assumption | decide | omega)
    have hbh : b ≠ h := fun e => by
      subst e
      rw [div_succ, div_succ] at e1
      exact cEven2 e1 l1 h1 hne ho
    have p := V.lt S K hi hx (by first | assumption | decide | omega) e1 e2
    have g1 := S.s1 _ _ b e1 e2 p
    have g2 := S.s1 (f i) n b (e1.trans (div_up hx (b + 1) (by first | assumption | decide | omega))) (by rw [← div_up hx b (by first | assumption | decide | omega)]; exact e2) p
    exact ⟨⟨fun _ => hy, fun _ => g1⟩, fun _ => Nat.le_of_lt g2⟩
  · have h1 := div_le h hy
    have g : sk x ≤ sk (f i) := by
      by_cases q : f i / 2 ^ h = x / 2 ^ h
      · exact S.s3 _ _ h q l2
      · obtain ⟨b, hb, e1, e2⟩ := jump (x := x) (y := f i) (h := h) (by first | assumption | decide | omega)
        have hbh : b ≠ h := fun e => by
          subst e
          rw [div_succ, div_succ] at e1
          exact cEven1 e1 e2 l1 ho
        exact Nat.le_of_lt (S.s1 _ _ b e1 e2 (V.gt S K hi hx (by first | assumption | decide | omega) e1 e2))
    exact ⟨⟨fun q => by omega, fun q => by omega⟩, fun q => by omega⟩
end
theorem and_split (k X Y : Nat) : X &&& Y = (X % 2 ^ k &&& Y % 2 ^ k) + 2 ^ k * (X / 2 ^ k &&& Y / 2 ^ k) := by
  rw [← Nat.and_mod_two_pow, ← Nat.and_div_two_pow, Nat.mod_add_div]
/- the marks, digit by digit -/
theorem marks_and (z : Nat) : ∀ as : List Nat, (∀ a ∈ as, a < 2 ^ (z + 1)) → (ofDigs (z + 3) as / 2 ^ z) &&& ofDigs (z + 3) (as.map fun _ => 1) = ofDigs (z + 3) (as.map (· / 2 ^ z))
  | [], _ => by simp [ofDigs]
  | a :: r, h => by
    have ih := marks_and z r fun b hb => h b (.tail _ hb)
    have ha := h a (.head _)
    have hz := Nat.two_pow_pos z
    show (a + 2 ^ (z + 3) * ofDigs (z + 3) r) / 2 ^ z &&& (1 + 2 ^ (z + 3) * ofDigs (z + 3) (r.map fun _ => 1)) = a / 2 ^ z + 2 ^ (z + 3) * ofDigs (z + 3) (r.map (· / 2 ^ z))
    rw [← ih]
    generalize ofDigs (z + 3) r = R
    generalize ofDigs (z + 3) (r.map fun _ => 1) = O
    have hu : a / 2 ^ z < 2 := by rw [Nat.div_lt_iff_lt_mul hz, Nat.mul_comm, ← Nat.pow_succ]; exact ha
    have e3 : 2 ^ (z + 3) = 2 ^ z * 8 := by rw [Nat.pow_add]
    have e1 : (a + 2 ^ (z + 3) * R) / 2 ^ z = a / 2 ^ z + 8 * R := by
      rw [e3, Nat.mul_assoc, Nat.add_mul_div_left _ _ hz]
    rw [e1]
    generalize a / 2 ^ z = u at *
    have h8 : 8 ≤ 2 ^ (z + 3) := by rw [e3]; omega
    have eX : (u + 8 * R) / 2 ^ (z + 3) = R / 2 ^ z := by
      rw [e3, Nat.mul_comm (2 ^ z) 8, ← Nat.div_div_eq_div_mul, show (u + 8 * R) / 8 = R by omega]
    have eY : (1 + 2 ^ (z + 3) * O) / 2 ^ (z + 3) = O := by
      rw [Nat.add_mul_div_left _ _ (Nat.two_pow_pos _), Nat.div_eq_of_lt (by first | assumption | decide | omega), Nat.zero_add]
    have mY : (1 + 2 ^ (z + 3) * O) % 2 ^ (z + 3) = 1 := by
      rw [Nat.add_mul_mod_self_left, Nat.mod_eq_of_lt (by first | assumption | decide | omega)]
    have mX : (u + 8 * R) % 2 ^ (z + 3) % 2 = u := by
      rw [Nat.mod_mod_of_dvd _ ⟨2 ^ (z + 2), by rw [Nat.pow_succ 2 (z + 2), Nat.mul_comm]⟩]; omega
    rw [and_split (z + 3), eX, eY, mY, Nat.and_one_is_mod, mX]
theorem digs_sub (n z x : Nat) (hx : x ≤ 2 ^ z) : ∀ sk : List Nat, ofDigs n (sk.map fun s => 2 ^ z + s - x) + x * ofDigs n (sk.map fun _ => 1) = ofDigs n (sk.map (2 ^ z + ·))
  | [] => by simp [ofDigs]
  | s :: r => by
    have ih := digs_sub n z x hx r
    show (2 ^ z + s - x + 2 ^ n * ofDigs n (r.map fun s => 2 ^ z + s - x)) + x * (1 + 2 ^ n * ofDigs n (r.map fun _ => 1)) = 2 ^ z + s + 2 ^ n * ofDigs n (r.map (2 ^ z + ·))
    rw [← ih, Nat.mul_add, Nat.mul_add, Nat.mul_one, ← Nat.mul_assoc, ← Nat.mul_assoc, Nat.mul_comm x (2 ^ n)]
    omega
theorem digs_cast (n : Nat) : ∀ ts : List Nat, ∃ q, ofDigs n ts = (2 ^ n - 1) * q + ts.sum
  | [] => ⟨0, rfl⟩
  | t :: r => by
    obtain ⟨q, e⟩ := digs_cast n r
    have hp := Nat.two_pow_pos n
    refine ⟨ofDigs n r + q, ?_⟩
    show t + 2 ^ n * ofDigs n r = _ + (t + r.sum)
    obtain ⟨T, hT⟩ : ∃ T, 2 ^ n = T + 1 := ⟨2 ^ n - 1, by omega⟩
    rw [hT, Nat.add_sub_cancel, Nat.mul_add, Nat.add_mul, Nat.one_mul]
    rw [hT, Nat.add_sub_cancel] at e
    omega
theorem mark_sum (z x : Nat) (hx : x ≤ 2 ^ z) : ∀ (sk : List Nat) (r : Nat), (∀ s ∈ sk, s < 2 ^ z) → r ≤ sk.length → (∀ i, i < sk.length → (sk.getD i 0 < x ↔ i < r)) → r + (sk.map fun s => (2 ^ z + s - x) / 2 ^ z).sum = sk.length
  | [], r, _, hr, _ => by simp at hr; simp [hr]
  | s :: l, r, hb, hr, h => by
    have hp := Nat.two_pow_pos z
    have hs := hb s (.head _)
    have h0 : s < x ↔ 0 < r := h 0 (by simp)
    have ht : ∀ i, i < l.length → (l.getD i 0 < x ↔ i + 1 < r) := fun i hi => h (i + 1) (by simpa using hi)
    have hr' : r ≤ l.length + 1 := hr
    show r + ((2 ^ z + s - x) / 2 ^ z + (l.map fun s => (2 ^ z + s - x) / 2 ^ z).sum) = l.length + 1
    have ih := mark_sum z x hx l (r - 1) (fun t h => hb t (.tail _ h)) (by first | assumption | decide | omega) fun i hi => by rw [ht i hi]; omega
    by_cases q : s < x
    · have : (2 ^ z + s - x) / 2 ^ z = 0 := Nat.div_eq_of_lt (by first | assumption | decide | omega)
      have := h0.mp q
      omega
    · have e : (2 ^ z + s - x) / 2 ^ z = 1 := by
        rw [show 2 ^ z + s - x = (s - x) + 2 ^ z by omega, Nat.add_div_right _ hp, Nat.div_eq_of_lt (by first | assumption | decide | omega)]
      have : ¬ 0 < r := fun w => q (h0.mpr w)
      have hr0 : r = 0 := by omega
      subst hr0
      omega
theorem ones_map {z : Nat} {sk : List Nat} (h5 : sk.length = 5) : onesOf z = ofDigs (z + 3) (sk.map fun _ => 1) := by
  match sk, h5 with
  | [a, b, c, d, e], _ => rfl
theorem mark_eq {z x r : Nat} {sk : List Nat} (h5 : sk.length = 5) (hx : x ≤ 2 ^ z) (hb : ∀ s ∈ sk, s < 2 ^ z) (hr : r ≤ 5) (h : ∀ i, i < 5 → (sk.getD i 0 < x ↔ i < r)) : x * onesOf z ≤ nodeOf z sk ∧ r + markOf z sk x % (8 * 2 ^ z - 1) = 5 := by
  have hs := digs_sub (z + 3) z x hx sk
  rw [← ones_map h5] at hs
  have hn : nodeOf z sk = ofDigs (z + 3) (sk.map (2 ^ z + ·)) := rfl
  refine ⟨by rw [hn]; omega, ?_⟩
  have hp := Nat.two_pow_pos z
  have e1 : nodeOf z sk - x * onesOf z = ofDigs (z + 3) (sk.map fun s => 2 ^ z + s - x) := by rw [hn]; omega
  have e2 := marks_and z (sk.map fun s => 2 ^ z + s - x) fun a ha => by
    obtain ⟨s, hs, rfl⟩ := List.mem_map.mp ha
    have := hb s hs
    rw [Nat.pow_succ]; omega
  rw [List.map_map, List.map_map, ← e1] at e2
  rw [show (fun _ => 1) ∘ (fun s : Nat => 2 ^ z + s - x) = fun _ => 1 from rfl, ← ones_map h5] at e2
  rw [show markOf z sk x = _ from e2]
  obtain ⟨q, e3⟩ := digs_cast (z + 3) (sk.map ((· / 2 ^ z) ∘ fun s => 2 ^ z + s - x))
  have e4 := mark_sum z x hx sk r hb (by first | assumption | decide | omega) (by rw [h5]; exact h)
  rw [show ((· / 2 ^ z) ∘ fun s => 2 ^ z + s - x) = (fun s => (2 ^ z + s - x) / 2 ^ z) from rfl] at e3 ⊢
  rw [e3]
  have e8 : 2 ^ (z + 3) = 8 * 2 ^ z := by rw [Nat.pow_add, Nat.mul_comm]
  rw [e8, Nat.mul_add_mod, Nat.mod_eq_of_lt (by first | assumption | decide | omega)]
  omega
theorem xor_nil {x y : Nat} (h : x ^^^ y = 0) : x = y := Nat.eq_of_testBit_eq fun i => by
  have := congrArg (fun w => Nat.testBit w i) h
  simp only [Nat.testBit_xor, Nat.zero_testBit] at this
  cases a : x.testBit i <;> cases b : y.testBit i <;> simp_all
theorem xor_same {x y k : Nat} : (x ^^^ y) / 2 ^ k = 0 ↔ x / 2 ^ k = y / 2 ^ k := by
  rw [Nat.xor_div_two_pow]
  exact ⟨xor_nil, fun e => by rw [e, Nat.xor_self]⟩
theorem bits_high {x : Nat} (h : x ≠ 0) : x / 2 ^ (bits x - 1) ≠ 0 ∧ x / 2 ^ (bits x - 1 + 1) = 0 := by
  have e : bits x - 1 = x.log2 := by unfold bits; rw [if_neg h]; omega
  rw [e]
  have h1 := Nat.log2_self_le h
  have h2 := @Nat.lt_log2_self x
  exact ⟨by have := (Nat.le_div_iff_mul_le (Nat.two_pow_pos x.log2) (x := 1) (y := x)).mpr (by first | assumption | decide | omega); omega, Nat.div_eq_of_lt h2⟩
theorem bits_of {x b : Nat} (h1 : x / 2 ^ b ≠ 0) (h2 : x / 2 ^ (b + 1) = 0) : bits x = b + 1 := by
  have hx : x ≠ 0 := fun e => by subst e; simp at h1
  obtain ⟨g1, g2⟩ := bits_high hx
  have hb := bits_pos (Nat.pos_of_ne_zero hx)
  have key : ∀ i j, x / 2 ^ i ≠ 0 → x / 2 ^ j = 0 → i < j := fun i j a b => by
    rcases Nat.lt_or_ge i j with h | h
    · exact h
    · have := div_up (x := x) (y := 0) (h := j) (by rw [b, Nat.zero_div]) i h
      rw [Nat.zero_div] at this
      exact absurd this a
  have := key _ _ h1 g2
  have := key _ _ g1 h2
  omega
theorem amOne {keys l : List Nat} {p j : Nat} (e : l = [keys.getD j 0]) (hj : j < 5) (h1 : j = p - 1 ∨ j = p) (h2 : ∀ t, t < 5 → (t = p - 1 ∨ t = p) → t = j) : (∀ t, t < 5 → (t = p - 1 ∨ t = p) → keys.getD t 0 ∈ l) ∧ ∀ a ∈ l, ∃ t, t < 5 ∧ (t = p - 1 ∨ t = p) ∧ a = keys.getD t 0 := by
  subst e
  refine ⟨fun t ht h => ?_, fun a ha => ⟨j, hj, h1, List.mem_singleton.mp ha⟩⟩
  rw [h2 t ht h]; exact List.mem_singleton.mpr rfl
theorem amTwo {keys l : List Nat} {p : Nat} (e : l = [keys.getD (p - 1) 0, keys.getD p 0]) (hp : p < 5) : (∀ t, t < 5 → (t = p - 1 ∨ t = p) → keys.getD t 0 ∈ l) ∧ ∀ a ∈ l, ∃ t, t < 5 ∧ (t = p - 1 ∨ t = p) ∧ a = keys.getD t 0 := by
  subst e
  refine ⟨fun t ht h => ?_, fun a ha => ?_⟩
  · rcases h with h | h
    · rw [h]; exact .head _
    · rw [h]; exact .tail _ (.head _)
  · rcases List.mem_cons.mp ha with h | h
    · exact ⟨p - 1, by omega, .inl rfl, h⟩
    · exact ⟨p, hp, .inr rfl, List.mem_singleton.mp h⟩
theorem about_mem {keys : List Nat} (h5 : keys.length = 5) {p : Nat} (hp : p ≤ 5) : (∀ t, t < 5 → (t = p - 1 ∨ t = p) → keys.getD t 0 ∈ about keys p) ∧ ∀ a ∈ about keys p, ∃ t, t < 5 ∧ (t = p - 1 ∨ t = p) ∧ a = keys.getD t 0 := by
  match keys, h5 with
  | [k0, k1, k2, k3, k4], _ =>
    match p, hp with
    | 0, _ => exact amOne (j := 0) rfl (by first | assumption | decide | omega) (by first | assumption | decide | omega) fun t a b => by omega
    | 1, _ => exact amTwo rfl (by first | assumption | decide | omega)
    | 2, _ => exact amTwo rfl (by first | assumption | decide | omega)
    | 3, _ => exact amTwo rfl (by first | assumption | decide | omega)
    | 4, _ => exact amTwo rfl (by first | assumption | decide | omega)
    | 5, _ => exact amOne (j := 4) rfl (by first | assumption | decide | omega) (by first | assumption | decide | omega) fun t a b => by omega
    | p + 6, h => exact absurd h (by first | assumption | decide | omega)
theorem least : ∀ l : List Nat, l ≠ [] → ∃ m ∈ l, ∀ a ∈ l, m ≤ a
  | [], h => absurd rfl h
  | [a], _ => ⟨a, .head _, fun b hb => by rw [List.mem_singleton.mp hb]; exact Nat.le_refl _⟩
  | a :: b :: r, _ => by
    obtain ⟨m, hm, h⟩ := least (b :: r) (by simp)
    by_cases q : a ≤ m
    · exact ⟨a, .head _, fun c hc => (List.mem_cons.mp hc).elim (fun e => by rw [e]; exact Nat.le_refl _) fun hc => Nat.le_trans q (h c hc)⟩
    · exact ⟨m, .tail _ hm, fun c hc => (List.mem_cons.mp hc).elim (fun e => by omega) fun hc => h c hc⟩
theorem rank_le {p q : Nat → Prop} {a b N : Nat} (ha : ∀ i, i < N → (p i ↔ i < a)) (hb : ∀ i, i < N → (q i ↔ i < b)) (hN : a ≤ N) (h : ∀ i, i < N → p i → q i) : a ≤ b := by
  rcases Nat.eq_zero_or_pos a with h0 | h0
  · rw [h0]; exact Nat.zero_le _
  · have h1 : a - 1 < N := by omega
    have h2 := (hb _ h1).mp (h _ h1 ((ha _ h1).mpr (by first | assumption | decide | omega)))
    omega
theorem rank_eq {p q : Nat → Prop} {a b N : Nat} (ha : ∀ i, i < N → (p i ↔ i < a)) (hb : ∀ i, i < N → (q i ↔ i < b)) (hN : a ≤ N) (hM : b ≤ N) (h : ∀ i, i < N → (p i ↔ q i)) : a = b :=
  Nat.le_antisymm (rank_le ha hb hN fun i hi => (h i hi).mp) (rank_le hb ha hM fun i hi => (h i hi).mpr)
theorem negLo {x i e : Nat} (a : e ≤ i) : (((x : Nat) : Int) < -1 ↔ i < e) := by omega
theorem negHi {x i e : Nat} (a : e ≤ i) : (((x : Nat) : Int) ≤ -1 ↔ i < e) := by omega
theorem topLt {x y i p : Nat} (h : x < y) (hi : i < p) : (((x : Nat) : Int) < (y : Nat) ↔ i < p) := ⟨fun _ => hi, fun _ => Int.ofNat_lt.mpr h⟩
theorem topLe {x y i p : Nat} (h : x ≤ y) (hi : i < p) : (((x : Nat) : Int) ≤ (y : Nat) ↔ i < p) := ⟨fun _ => hi, fun _ => Int.ofNat_le.mpr h⟩
theorem getD_mem {l : List Nat} {i : Nat} (h : i < l.length) : l.getD i 0 ∈ l := by rw [List.getD_eq_getElem?_getD, List.getElem?_eq_getElem h]; exact List.getElem_mem _
section
variable {P : Nat → Prop} {n m : Nat} {keys : List Nat} {ws : List Str}
theorem foundOk (h5 : keys.length = 5) (K : KeysOk P fun i => keys.getD i 0) (S : SkOk P (fun x => sketch (x &&& m) ws) ws.length) (hn : n < 10000) (hw : ws.length ≤ 13) (hkb : ∀ k ∈ keys, k < 8192) :
    ∃ e p near, FoundOk n m keys (sketchesOf keys m ws) ws e p near (SL keys (n : Nat) 0 5) (SR keys (n : Nat) 0 5) := by
  obtain ⟨f, hf⟩ : ∃ f : Nat → Nat, f = fun i => keys.getD i 0 := ⟨_, rfl⟩
  obtain ⟨sk, hsk⟩ : ∃ sk : Nat → Nat, sk = fun x => sketch (x &&& m) ws := ⟨_, rfl⟩
  rw [← hf] at K
  rw [← hsk] at S
  have skd : ∀ x, sketch (x &&& m) ws = sk x := fun x => by rw [hsk]
  have fd : ∀ i, keys.getD i 0 = f i := fun i => by rw [hf]
  have hsl : (sketchesOf keys m ws).length = 5 := by rw [sketchesOf, List.length_map, h5]
  have sgd : ∀ i, i < 5 → (sketchesOf keys m ws).getD i 0 = sk (f i) := fun i hi => by
    rw [← fd, ← skd, sketchesOf, List.getD_eq_getElem?_getD, List.getD_eq_getElem?_getD, List.getElem?_map, List.getElem?_eq_getElem (by first | assumption | decide | omega)]; rfl
  have hsb : ∀ s ∈ sketchesOf keys m ws, s < 2 ^ ws.length := fun s hs => by
    obtain ⟨k, _, rfl⟩ := List.mem_map.mp hs
    rw [skd]; exact S.s4 k
  have smono : ∀ i j, i < j → j < 5 → sk (f i) ≤ sk (f j) := fun i j hij hj => sk_le S K (by first | assumption | decide | omega) hj (K.mono i j (Nat.le_of_lt hij) hj)
  have fmono : ∀ i j, i < j → j < 5 → f i ≤ f j := fun i j hij hj => K.mono i j (Nat.le_of_lt hij) hj
  obtain ⟨e, he, re⟩ := rank (p := fun i => sk (f i) < sk n) 5 fun i j a b q => Nat.lt_of_le_of_lt (smono i j a b) q
  obtain ⟨p, hp, rp⟩ := rank (p := fun i => sk (f i) ≤ sk n) 5 fun i j a b q => Nat.le_trans (smono i j a b) q
  obtain ⟨lt, hlt, rlt⟩ := rank (p := fun i => f i < n) 5 fun i j a b q => Nat.lt_of_le_of_lt (fmono i j a b) q
  obtain ⟨le, hle, rle⟩ := rank (p := fun i => f i ≤ n) 5 fun i j a b q => Nat.le_trans (fmono i j a b) q
  have eL : SL keys (n : Nat) 0 5 = lt := SL_eq (Nat.zero_le _) hlt fun i _ hi => by rw [fd, ← rlt i hi]; exact Int.ofNat_lt
  have eR : SR keys (n : Nat) 0 5 = le := SR_eq (Nat.zero_le _) hle fun i _ hi => by rw [fd, ← rle i hi]; exact Int.ofNat_le
  rw [eL, eR]
  have sn := S.s4 n
  obtain ⟨g1, g2⟩ := mark_eq (z := ws.length) (x := sk n) hsl (Nat.le_of_lt sn) hsb he fun i hi => by rw [sgd i hi]; exact re i hi
  obtain ⟨g3, g4⟩ := mark_eq (z := ws.length) (x := sk n + 1) hsl sn hsb hp fun i hi => by rw [sgd i hi, ← rp i hi]; exact Nat.lt_succ_iff
  have hep : e ≤ p := rank_le re rp he fun i _ h => Nat.le_of_lt h
  obtain ⟨ab1, ab2⟩ := about_mem h5 hp
  have hne : (about keys p).map (n ^^^ ·) ≠ [] := fun q => by
    have hm : ∃ t, t < 5 ∧ (t = p - 1 ∨ t = p) := by
      rcases Nat.eq_zero_or_pos p with h0 | h0
      · exact ⟨0, by omega, .inr h0.symm⟩
      · exact ⟨p - 1, by omega, .inl rfl⟩
    obtain ⟨t, ht, h⟩ := hm
    have := List.mem_map_of_mem (f := (n ^^^ ·)) (ab1 t ht h)
    rw [q] at this; cases this
  obtain ⟨near, hn1, hn2⟩ := least _ hne
  -- the number is a key
  have isKey : ∀ j, j < 5 → n = f j → lt = e ∧ le = p := fun j hj q => by
    refine ⟨rank_eq rlt re hlt he fun i hi => ?_, rank_eq rle rp hle hp fun i hi => ?_⟩
    · rw [q]
      exact ⟨fun h => sk_lt S K hi hj h, fun h => Nat.lt_of_not_le fun h' => Nat.not_lt.mpr (sk_le S K hj hi h') h⟩
    · rw [q]
      exact ⟨fun h => sk_le S K hi hj h, fun h => Nat.le_of_not_lt fun h' => Nat.not_le.mpr (sk_lt S K hj hi h') h⟩
  -- it leaves them
  have leaves : near ≠ 0 → Leaves f n (bits near - 1) := fun h0 => by
    obtain ⟨b1, b2⟩ := bits_high h0
    obtain ⟨a, ha, e1⟩ := List.mem_map.mp hn1
    obtain ⟨t, ht, _, rfl⟩ := ab2 a ha
    refine ⟨fun j hj q => ?_, t, ht, ?_⟩
    · -- a neighbour would share it too
      have nb : ∀ t, t < 5 → (t = p - 1 ∨ t = p) → n / 2 ^ (bits near - 1) ≠ f t / 2 ^ (bits near - 1) := fun t ht h q => by
        have h1 := hn2 _ (List.mem_map_of_mem (f := (n ^^^ ·)) (ab1 t ht h))
        rw [fd] at h1
        have h2 := div_le (bits near - 1) h1
        rw [xor_same.mpr q] at h2
        exact b1 (Nat.le_zero.mp h2)
      rcases Nat.lt_or_ge j p with hjp | hjp
      · exact nb (p - 1) (by first | assumption | decide | omega) (.inl rfl) (near_left S K (by first | assumption | decide | omega) (by first | assumption | decide | omega) ((rp (p - 1) (by first | assumption | decide | omega)).mpr (by first | assumption | decide | omega)) q)
      · exact nb p (by first | assumption | decide | omega) (.inr rfl) (near_right S K hjp hj (by have := mt (rp p (by first | assumption | decide | omega)).mp (by first | assumption | decide | omega); omega) q)
    · rw [fd] at e1
      exact xor_same.mp (by rw [e1]; exact b2)
  have noKey : near ≠ 0 → ∀ j, j < 5 → n ≠ f j := fun h0 j hj q => (leaves h0).none j hj (by rw [q])
  have ltle : near ≠ 0 → lt = le := fun h0 => rank_eq rlt rle hlt hle fun i hi => ⟨Nat.le_of_lt, fun h => Nat.lt_of_le_of_ne h fun e => noKey h0 i hi e.symm⟩
  have hps : p ≤ (sketchesOf keys m ws).length := by rw [hsl]; exact hp
  refine ⟨e, p, near, {
    hn := hn, hk := h5, hs := hsl, hw := hw, hsb := hsb, hf := by rw [skd]; exact sn
    hle := by rw [skd]; exact g3
    m0 := by rw [skd]; exact g2
    m1 := by rw [skd]; exact g4
    e0 := by rw [skd]; exact SL_eq (Nat.zero_le _) he fun i _ hi => by rw [sgd i hi, ← re i hi]; exact Int.ofNat_lt
    p0 := by rw [skd]; exact SR_eq (Nat.zero_le _) hp fun i _ hi => by rw [sgd i hi, ← rp i hi]; exact Int.ofNat_le
    ep := hep
    w1 := SL_eq (Nat.le_refl _) hep fun i a _ => negLo a
    w2 := SR_eq hep (Nat.le_refl _) fun i a b => topLe (Nat.le_of_lt (hsb _ (getD_mem (Nat.lt_of_lt_of_le b hps)))) b
    w3 := SR_eq (Nat.le_refl _) hp fun i a _ => negHi a
    w4 := SL_eq (Nat.zero_le _) (Nat.le_refl _) fun i a b => topLt (hsb _ (getD_mem (Nat.lt_of_lt_of_le b hps))) b
    hnear := ⟨hn1, hn2⟩
    hkb := hkb
    z := fun h0 => ?_
    o := fun h0 ho => ?_
    v := fun h0 hv => ?_ }⟩
  · obtain ⟨a, ha, e1⟩ := List.mem_map.mp hn1
    obtain ⟨t, ht, _, rfl⟩ := ab2 a ha
    exact isKey t ht (by rw [← fd]; exact xor_nil (by rw [e1, h0]))
  · have V := leaves h0
    have hpl : p ≤ lt := rank_le rp rlt hp fun i hi => (odd_case S K V ho hi).2
    rw [skd]
    exact ⟨SR_eq hpl hlt fun i _ hi => by rw [sgd i hi, ← rlt i hi, ← (odd_case S K V ho hi).1]; exact Int.ofNat_le, ltle h0, SR_eq (Nat.zero_le _) (Nat.le_refl _) fun i _ hi => by
      have h5 : i < 5 := Nat.lt_of_lt_of_le hi hp
      rw [sgd i h5]
      exact topLe ((odd_case S K V ho h5).1.mpr ((rlt i h5).mpr (Nat.lt_of_lt_of_le hi hpl))) hi⟩
  · have V := leaves h0
    have hpl : lt ≤ p := rank_le rlt rp hlt fun i hi => (even_case S K V hv hi).2
    rw [skd]
    exact ⟨SL_eq (Nat.zero_le _) hpl fun i _ hi => by rw [sgd i (by first | assumption | decide | omega), ← rlt i (by first | assumption | decide | omega), ← (even_case S K V hv (by first | assumption | decide | omega)).1]; exact Int.ofNat_lt, ltle h0, SL_eq (Nat.le_refl _) hp fun i hi hi2 => by
      rw [sgd i hi2]
      exact ⟨fun w => absurd ((rlt i hi2).mp ((even_case S K V hv hi2).1.mp (Int.ofNat_lt.mp w))) (Nat.not_lt.mpr (Nat.le_trans hpl hi)), fun w => absurd w (Nat.not_lt.mpr hi)⟩⟩
end
section
open PySem.StrLaws PySem.Builtin PySem.Builtin.Str
/- the code points of parts put together -/
noncomputable def flatS : List (List Nat) → List Nat
  | [] => []
  | [x] => x
  | x :: r => x ++ [44, 32] ++ flatS r
theorem sepList : kSep.cps.toList = [44, 32] := by decide +kernel
theorem join_flat : ∀ ts : List Str, (Str.join kSep ts).cps.toList = flatS (ts.map fun t => t.cps.toList)
  | [] => rfl
  | [x] => rfl
  | x :: y :: r => by
    show (x ++ kSep ++ Str.join kSep (y :: r)).cps.toList = _
    rw [Str.cps_append, Str.cps_append, Array.toList_append, Array.toList_append, join_flat (y :: r), sepList]; rfl
theorem at_sep {x : Str} {k : Nat} : At x kSep x.length k ↔ (x.cps.toList.drop k).take 2 = [44, 32] := by
  have e : kSep.length = 2 := sepLen
  unfold At
  rw [subAt_eq, sepList, e]
  constructor
  · intro h; exact eq_of_beq h.2
  · intro h
    refine ⟨?_, beq_iff_eq.mpr h⟩
    have := congrArg List.length h
    simp [Str.length] at this ⊢
    omega
theorem at_head {x : Str} {k : Nat} (h : At x kSep x.length k) : (x.cps.toList.drop k).head? = some 44 := by
  have := at_sep.mp h
  cases e : x.cps.toList.drop k with
  | nil => rw [e] at this; simp at this
  | cons a r => rw [e] at this; simp at this; rw [this.1]; rfl
theorem parts_join {x : Str} : ∀ (ts : List (List Nat)) (cuts : List Nat) (a f : Nat), ts ≠ [] → (∀ t ∈ ts, 44 ∉ t) → ChainG x kSep x.length a cuts f → (∀ k, f ≤ k → ¬ At x kSep x.length k) → x.cps.toList.drop a = flatS ts →
    (partsFrom x kSep.length a cuts).map (fun t => t.cps.toList) = ts
  | [], _, _, _, h, _, _, _, _ => absurd rfl h
  | [t], cuts, a, f, _, hf, hc, hn, e => by
    have no : ∀ k, a ≤ k → ¬ At x kSep x.length k := fun k hk hA => by
      have h1 := at_head hA
      obtain ⟨j, rfl⟩ : ∃ j, k = a + j := ⟨k - a, by omega⟩
      rw [← List.drop_drop, e] at h1
      exact hf t (.head _) (List.mem_of_mem_drop (List.mem_of_mem_head? h1))
    cases cuts with
    | nil =>
      show [(strSub x a x.length).cps.toList] = [t]
      rw [strSub_toList, e, List.take_of_length_le]
      · rfl
      · have := congrArg List.length e; simp [Str.length, flatS] at this ⊢; omega
    | cons c r => exact absurd hc.2.1 (no c hc.1)
  | t :: u :: r, cuts, a, f, _, hf, hc, hn, e => by
    have e' : x.cps.toList.drop a = t ++ [44, 32] ++ flatS (u :: r) := e
    have hat : At x kSep x.length (a + t.length) := by
      rw [at_sep, ← List.drop_drop, e', List.append_assoc, List.drop_left' rfl]; rfl
    have no : ∀ k, a ≤ k → k < a + t.length → ¬ At x kSep x.length k := fun k hk hk2 hA => by
      have h1 := at_head hA
      obtain ⟨j, rfl⟩ : ∃ j, k = a + j := ⟨k - a, by omega⟩
      rw [← List.drop_drop, e', List.append_assoc, List.drop_append_of_le_length (by first | assumption | decide | omega)] at h1
      have h2 : t.drop j ≠ [] := fun q => by have := List.drop_eq_nil_iff.mp q; omega
      obtain ⟨c, q, eq⟩ := List.exists_cons_of_ne_nil h2
      rw [eq] at h1
      obtain rfl : c = 44 := by simpa using h1
      exact hf t (.head _) (List.mem_of_mem_drop (i := j) (by rw [eq]; exact .head _))
    cases cuts with
    | nil =>
      have ef : f = a := hc
      exact absurd hat (hn _ (by first | assumption | decide | omega))
    | cons c r' =>
      have ec : c = a + t.length := by
        rcases Nat.lt_trichotomy c (a + t.length) with h | h | h
        · exact absurd hc.2.1 (no c hc.1 h)
        · exact h
        · exact absurd hat (hc.2.2.1 _ (by first | assumption | decide | omega) h)
      subst ec
      have hl : kSep.length = 2 := sepLen
      have ih := parts_join (u :: r) r' (a + t.length + kSep.length) f (by simp) (fun v hv => hf v (.tail _ hv)) hc.2.2.2 hn (by
        rw [hl, Nat.add_assoc, ← List.drop_drop, e', ← List.drop_drop, List.append_assoc, List.drop_left' rfl]; rfl)
      show (strSub x a (a + t.length)).cps.toList :: (partsFrom x kSep.length (a + t.length + kSep.length) r').map (fun t => t.cps.toList) = _
      rw [ih, strSub_toList, e', List.append_assoc, show a + t.length - a = t.length by omega, List.take_left' rfl]
theorem kindSep (x : Str) : ¬ Builtin.Str.strKind x < Builtin.Str.strKind kSep := by
  have e : Builtin.Str.strKind kSep = 1 := by decide +kernel
  rw [e]
  unfold Builtin.Str.strKind
  by_cases h : x.cps.all (· < 256) = true
  · rw [if_pos h]; omega
  · rw [if_neg h]
    by_cases h2 : x.cps.all (· < 65536) = true
    · rw [if_pos h2]; omega
    · rw [if_neg h2]; omega
theorem cps_inj : ∀ {a b : List Str}, a.map (fun t => t.cps.toList) = b.map (fun t => t.cps.toList) → a = b
  | [], [], _ => rfl
  | [], _ :: _, h => by cases h
  | _ :: _, [], h => by cases h
  | x :: r, y :: s, h => by
    injection h with h1 h2
    rw [Str.ext' (Array.toList_inj.mp h1), cps_inj h2]
theorem split_join {ts : List Str} (hne : ts ≠ []) (hf : ∀ t ∈ ts, 44 ∉ t.cps.toList) (h2 : ∀ t ∈ ts, 2 ≤ t.length) : Txt.split (Txt.join kSep ts) kSep = ts := by
  rw [show Txt.join kSep ts = Str.join kSep ts from StrLaws.glued_eq_join _ _]
  obtain ⟨x, hx⟩ : ∃ x, x = Str.join kSep ts := ⟨_, rfl⟩
  rw [← hx]
  have e0 : x.cps.toList = flatS (ts.map fun t => t.cps.toList) := by rw [hx, join_flat]
  obtain ⟨f, hG, hn⟩ := occ_tight x kSep (by rw [sepLen]; omega)
  have key := parts_join (ts.map fun t => t.cps.toList) (occurrences x kSep 0 x.length (x.length + 1)) 0 f (by simpa using hne) (fun t ht => by obtain ⟨u, hu, rfl⟩ := List.mem_map.mp ht; exact hf u hu) hG hn (by rw [List.drop_zero]; exact e0)
  have hlen : 2 ≤ x.length := by
    obtain ⟨t, r, rfl⟩ := List.exists_cons_of_ne_nil hne
    have ht := h2 t (.head _)
    have : x.length = (flatS ((t :: r).map fun t => t.cps.toList)).length := by rw [← e0]; simp [Str.length]
    rw [this]
    have ht' : 2 ≤ t.cps.toList.length := by simpa [Str.length] using ht
    cases r with
    | nil => simpa [flatS] using ht'
    | cons u r => show 2 ≤ (t.cps.toList ++ [44, 32] ++ flatS _).length; simp only [List.length_append]; omega
  unfold Txt.split
  rw [if_neg (by rw [Bool.or_eq_true, decide_eq_true_eq, decide_eq_true_eq, sepLen]; have := kindSep x; omega)]
  split
  · rename_i he
    have eo := List.isEmpty_iff.mp he
    rw [eo] at key
    have : [(strSub x 0 x.length).cps.toList] = ts.map fun t => t.cps.toList := key
    rw [sub_whole] at this
    exact cps_inj (by simpa using this)
  · rw [partsBetween_eq]
    exact cps_inj key
end
/- the names of a number's ones -/
noncomputable def onesAt (x : Int) (i k : Nat) : List Nat := (List.range' i k).filter fun j => decide (x / (2 ^ j : Nat) % 2 = 1)
theorem onesAt_succ (x : Int) (i k : Nat) : onesAt x i (k + 1) = if x / (2 ^ i : Nat) % 2 = 1 then i :: onesAt x (i + 1) k else onesAt x (i + 1) k := by
  unfold onesAt
  rw [List.range'_succ, List.filter_cons]
  by_cases h : x / (2 ^ i : Nat) % 2 = 1
  · rw [if_pos (decide_eq_true h), if_pos h]
  · rw [if_neg (by rw [decide_eq_false h]; decide), if_neg h]
theorem onesAt_nil {x : Int} : ∀ k i, x / (2 ^ i : Nat) = 0 → onesAt x i k = []
  | 0, i, _ => rfl
  | k + 1, i, h => by
    rw [onesAt_succ, if_neg (by rw [h]; decide), onesAt_nil k (i + 1) (by rw [half_next, h]; rfl)]
theorem fnGo_zero {x : Int} : ∀ k i acc, x / (2 ^ i : Nat) = 0 → fnGo x k i acc = acc ++ [hexT 0]
  | 0, i, acc, h => by rw [fnGo, h, Int.mul_zero]
  | k + 1, i, acc, h => by rw [fnGo, if_neg (by rw [h]; decide), fnGo_zero k (i + 1) acc (by rw [half_next, h]; rfl)]
theorem fnGo_some {x : Int} : ∀ k i acc, i + k = 32 → x / (2 ^ 32 : Nat) = 0 → x / (2 ^ i : Nat) ≠ 0 → fnGo x k i acc = acc ++ (onesAt x i k).map nm
  | 0, i, acc, e, h, hi => by
    have : i = 32 := by omega
    subst this; exact absurd h hi
  | k + 1, i, acc, e, h, hi => by
    rw [fnGo, onesAt_succ]
    by_cases hb : x / (2 ^ i : Nat) % 2 = 1
    · rw [if_pos hb, if_pos hb]
      by_cases hq : x / (2 ^ (i + 1) : Nat) = 0
      · rw [if_pos hq, onesAt_nil k (i + 1) hq]; rfl
      · rw [if_neg hq, fnGo_some k (i + 1) _ (by first | assumption | decide | omega) h hq, List.append_assoc]; rfl
    · rw [if_neg hb, if_neg hb]
      refine fnGo_some k (i + 1) acc (by first | assumption | decide | omega) h ?_
      rw [half_next]; omega
theorem fnGo_minus {x : Int} (h : x / (2 ^ 32 : Nat) = -1) : ∀ k i acc, i + k = 32 → fnGo x k i acc = acc ++ (onesAt x i k).map nm ++ [hexT ((2 ^ 32 : Nat) * -1)]
  | 0, i, acc, e => by
    have : i = 32 := by omega
    subst this
    rw [fnGo, h]; simp [onesAt]
  | k + 1, i, acc, e => by
    have hne : x / (2 ^ (i + 1) : Nat) ≠ 0 := fun q => by
      have h1 := Int.ediv_nonneg_iff_of_pos (a := x) (b := ((2 ^ (i + 1) : Nat) : Int)) (by have := Nat.two_pow_pos (i + 1); omega)
      have h2 := Int.ediv_nonneg_iff_of_pos (a := x) (b := ((2 ^ 32 : Nat) : Int)) (by decide)
      have h3 := h1.mp (by first | assumption | decide | omega)
      have h4 := h2.mpr h3
      omega
    rw [fnGo, onesAt_succ]
    by_cases hb : x / (2 ^ i : Nat) % 2 = 1
    · rw [if_pos hb, if_pos hb, if_neg hne, fnGo_minus h k (i + 1) _ (by first | assumption | decide | omega)]
      simp
    · rw [if_neg hb, if_neg hb, fnGo_minus h k (i + 1) acc (by first | assumption | decide | omega)]
theorem told_zero : told 0 = [Str.ofString "0x0"] := by
  unfold told
  rw [fnGo_zero 32 0 [] (by decide)]
  exact congrArg (fun t => [t]) (by decide +kernel)
theorem ediv_nat (y j : Nat) : ((y : Nat) : Int) / ((2 ^ j : Nat) : Int) = ((y / 2 ^ j : Nat) : Int) := rfl
theorem told_nat {y : Nat} (h0 : y ≠ 0) (h : y < 2 ^ 32) : told (y : Nat) = ((List.range 32).filter fun j => decide (y / 2 ^ j % 2 = 1)).map nm := by
  unfold told
  rw [fnGo_some 32 0 [] rfl (by rw [ediv_nat, Nat.div_eq_of_lt h]; rfl) (by rw [ediv_nat, Nat.pow_zero, Nat.div_one]; omega), List.nil_append]
  unfold onesAt
  rw [← List.range_eq_range']
  congr 1
  refine List.filter_congr fun j _ => ?_
  rw [ediv_nat]
  exact decide_eq_decide.mpr (by first | assumption | decide | omega)
theorem told_not {y : Nat} (h : y < 2 ^ 32) : told (Builtin.bitNot (y : Nat)) = ((List.range 32).filter fun j => decide (y / 2 ^ j % 2 ≠ 1)).map nm ++ [Str.ofString "-0x100000000"] := by
  have hd : ∀ j, Builtin.bitNot ((y : Nat) : Int) / ((2 ^ j : Nat) : Int) = -((y / 2 ^ j : Nat) : Int) - 1 := fun j => by
    have hp : ((2 ^ j : Nat) : Int) ≠ 0 := by have := Nat.two_pow_pos j; omega
    have h1 := (divNot (n := y) (t := 2 ^ j) (Nat.two_pow_pos j)).1
    rw [Int.fdiv_eq_ediv_of_nonneg _ (Int.natCast_nonneg _)] at h1
    rw [h1]; unfold Builtin.bitNot; omega
  unfold told
  rw [fnGo_minus (by rw [hd, Nat.div_eq_of_lt h]; rfl) 32 0 [] rfl, List.nil_append]
  unfold onesAt
  rw [← List.range_eq_range']
  congr 1
  · congr 1
    refine List.filter_congr fun j _ => ?_
    rw [hd]
    exact decide_eq_decide.mpr (by first | assumption | decide | omega)
theorem nmFree : ∀ i, i < 32 → ¬ 44 ∈ (nm i).cps.toList ∧ 2 ≤ (nm i).length := by decide +kernel
theorem nmInj : ∀ i, i < 32 → ∀ j, j < 32 → nm i = nm j → i = j := by decide +kernel
theorem nmNot0 : ∀ i, i < 32 → nm i ≠ Str.ofString "0x0" := by decide +kernel
theorem zeroFree : ¬ 44 ∈ (Str.ofString "0x0").cps.toList ∧ 2 ≤ (Str.ofString "0x0").length := by decide +kernel
/- a name is told of a number just when the number has a one there -/
theorem told_any {y k : Nat} (h : y < 2 ^ 32) (hk : k < 32) : (Txt.split (Txt.join kSep (told (y : Nat))) kSep).any (· == nm k) = decide (y / 2 ^ k % 2 = 1) := by
  by_cases h0 : y = 0
  · subst h0
    rw [show (((0 : Nat) : Nat) : Int) = 0 from rfl, told_zero, split_join (by simp) (fun t ht => by rw [List.mem_singleton.mp ht]; exact zeroFree.1) (fun t ht => by rw [List.mem_singleton.mp ht]; exact zeroFree.2)]
    rw [Nat.zero_div]
    have : (Str.ofString "0x0" == nm k) = false := beq_eq_false_iff_ne.mpr (Ne.symm (nmNot0 k hk))
    simp [this]
  · rw [told_nat h0 h]
    have hm : ∀ t ∈ ((List.range 32).filter fun j => decide (y / 2 ^ j % 2 = 1)).map nm, ∃ i, i < 32 ∧ y / 2 ^ i % 2 = 1 ∧ nm i = t := fun t ht => by
      obtain ⟨i, hi, rfl⟩ := List.mem_map.mp ht
      obtain ⟨a, b⟩ := List.mem_filter.mp hi
      exact ⟨i, List.mem_range.mp a, of_decide_eq_true b, rfl⟩
    have hne : ((List.range 32).filter fun j => decide (y / 2 ^ j % 2 = 1)).map nm ≠ [] := fun q => by
      obtain ⟨b1, b2⟩ := bits_high h0
      have hb : bits y - 1 < 32 := by
        rcases Nat.lt_or_ge (bits y - 1) 32 with g | g
        · exact g
        · have := bits_le y 32 h; have := bits_pos (Nat.pos_of_ne_zero h0); omega
      have h1 : y / 2 ^ (bits y - 1) % 2 = 1 := by rw [div_succ] at b2; omega
      have := List.mem_map_of_mem (f := nm) (List.mem_filter (p := fun j => decide (y / 2 ^ j % 2 = 1)).mpr ⟨List.mem_range.mpr hb, decide_eq_true h1⟩)
      rw [q] at this; cases this
    rw [split_join hne (fun t ht => by obtain ⟨i, hi, _, rfl⟩ := hm t ht; exact (nmFree i hi).1) (fun t ht => by obtain ⟨i, hi, _, rfl⟩ := hm t ht; exact (nmFree i hi).2)]
    by_cases hb : y / 2 ^ k % 2 = 1
    · rw [decide_eq_true hb, List.any_eq_true]
      exact ⟨nm k, List.mem_map_of_mem (f := nm) (List.mem_filter.mpr ⟨List.mem_range.mpr hk, decide_eq_true hb⟩), beq_self_eq_true _⟩
    · rw [decide_eq_false hb, List.any_eq_false]
      intro t ht e
      obtain ⟨i, hi, hi1, rfl⟩ := hm t ht
      have := nmInj i hi k hk (eq_of_beq e)
      subst this
      exact hb hi1
theorem bit_div {x i : Nat} : x / 2 ^ i % 2 = 1 ↔ x.testBit i = true := by rw [Nat.testBit_eq_decide_div_mod_eq, decide_eq_true_eq]
theorem mask_bits (q : Nat → Bool) : ∀ N, maskOf ((List.range N).filter q) < 2 ^ N ∧ ∀ b, (maskOf ((List.range N).filter q)).testBit b = (decide (b < N) && q b)
  | 0 => ⟨Nat.one_pos, fun b => by show (0 : Nat).testBit b = _; simp⟩
  | N + 1 => by
    obtain ⟨h1, h2⟩ := mask_bits q N
    rw [List.range_succ, List.filter_append]
    by_cases hq : q N = true
    · have e : maskOf ((List.range N).filter q ++ [N].filter q) = 2 ^ N + maskOf ((List.range N).filter q) := by
        rw [List.filter_cons, if_pos hq]
        show (List.map (2 ^ ·) _).sum = _
        rw [List.map_append, List.sum_append, Nat.add_comm]; simp [maskOf]
      rw [e]
      refine ⟨by rw [Nat.pow_succ]; omega, fun b => ?_⟩
      rcases Nat.lt_trichotomy b N with h | rfl | h
      · rw [Nat.testBit_two_pow_add_gt h, h2 b, decide_eq_true h, decide_eq_true (show b < N + 1 by omega)]
      · rw [Nat.testBit_two_pow_add_eq, Nat.testBit_lt_two_pow h1, decide_eq_true (show b < b + 1 by omega), hq]; rfl
      · rw [Nat.testBit_lt_two_pow (Nat.lt_of_lt_of_le (show 2 ^ N + _ < 2 ^ (N + 1) by rw [Nat.pow_succ]; omega) (Nat.pow_le_pow_right (by decide) (by first | assumption | decide | omega))), decide_eq_false (by first | assumption | decide | omega)]; rfl
    · rw [List.filter_cons, if_neg hq, List.filter_nil, List.append_nil]
      refine ⟨by rw [Nat.pow_succ]; omega, fun b => ?_⟩
      rw [h2 b]
      rcases Nat.lt_trichotomy b N with h | rfl | h
      · rw [decide_eq_true h, decide_eq_true (show b < N + 1 by omega)]
      · rw [Bool.not_eq_true] at hq; rw [hq, Bool.and_false, Bool.and_false]
      · rw [decide_eq_false (by first | assumption | decide | omega), decide_eq_false (by first | assumption | decide | omega)]
/- the sketch: the ones of a number in the places -/
noncomputable def skOf (ps : List Nat) (x : Nat) : Nat := ofDigs 1 (ps.map fun k => x / 2 ^ k % 2)
theorem sketch_eq {q : Nat → Bool} {ps : List Nat} (hps : ps = (List.range 13).filter q) (x : Nat) : sketch (x &&& maskOf ps) (ps.map nm) = skOf ps x := by
  obtain ⟨h1, h2⟩ := mask_bits q 13
  rw [← hps] at h1 h2
  unfold sketch skOf
  rw [List.map_map]
  congr 1
  refine List.map_congr_left fun k hk => ?_
  rw [hps] at hk
  obtain ⟨k1, k2⟩ := List.mem_filter.mp hk
  have k13 := List.mem_range.mp k1
  have hy : x &&& maskOf ps < 2 ^ 32 := Nat.lt_of_le_of_lt Nat.and_le_right (Nat.lt_trans h1 (by decide))
  show (if (Txt.split (Txt.join kSep (told ((x &&& maskOf ps : Nat) : Int))) kSep).any (· == nm k) = true then 1 else 0) = _
  rw [told_any hy (by first | assumption | decide | omega)]
  have e : (x &&& maskOf ps) / 2 ^ k % 2 = 1 ↔ x / 2 ^ k % 2 = 1 := by
    rw [bit_div, bit_div, Nat.testBit_and, h2 k, k2, decide_eq_true k13, Bool.and_true, Bool.and_true]
  by_cases hb : x / 2 ^ k % 2 = 1
  · rw [if_pos (decide_eq_true (e.mpr hb)), hb]
  · rw [if_neg (by rw [decide_eq_true_eq]; exact fun w => hb (e.mp w))]; omega
theorem digs_le {f g : Nat → Nat} : ∀ ps : List Nat, (∀ k ∈ ps, f k ≤ g k) → ofDigs 1 (ps.map f) ≤ ofDigs 1 (ps.map g)
  | [], _ => Nat.le_refl _
  | k :: r, h => by
    have h1 := digs_le r fun j hj => h j (.tail _ hj)
    have h2 := h k (.head _)
    show f k + 2 ^ 1 * ofDigs 1 (r.map f) ≤ g k + 2 ^ 1 * ofDigs 1 (r.map g)
    omega
theorem digs_lt1 {f : Nat → Nat} (ps : List Nat) (h : ∀ k, f k < 2) : ofDigs 1 (ps.map f) < 2 ^ ps.length := by
  have := ofDigs_lt 1 (ps.map f) fun d hd => by
    obtain ⟨k, _, rfl⟩ := List.mem_map.mp hd
    exact h k
  rwa [Nat.one_mul, List.length_map] at this
theorem range_cut (q : Nat → Bool) {b N : Nat} (hb : b < N) (hq : q b = true) : ∃ l1 l2, (List.range N).filter q = l1 ++ b :: l2 ∧ ∀ k ∈ l2, b < k := by
  refine ⟨(List.range b).filter q, (List.range' (b + 1) (N - (b + 1))).filter q, ?_, fun k hk => ?_⟩
  · have e : List.range N = List.range b ++ b :: List.range' (b + 1) (N - (b + 1)) := by
      rw [List.range_eq_range', List.range_eq_range', ← List.range'_succ, show N - (b + 1) + 1 = N - b by omega]
      have := List.range'_append_1 (s := 0) (m := b) (n := N - b)
      rw [Nat.zero_add] at this
      rw [this]; congr 1; omega
    rw [e, List.filter_append, List.filter_cons, if_pos hq]
  · have := (List.mem_filter.mp hk).1
    rw [List.mem_range'_1] at this
    omega
theorem skOk {q : Nat → Bool} {ps : List Nat} (hps : ps = (List.range 13).filter q) : SkOk (fun b => b ∈ ps) (skOf ps) ps.length where
  s1 := fun x y b e1 e2 hb => by
    rw [hps] at hb
    obtain ⟨b1, b2⟩ := List.mem_filter.mp hb
    obtain ⟨l1, l2, e, hl⟩ := range_cut q (List.mem_range.mp b1) b2
    rw [← hps] at e
    unfold skOf
    rw [e, List.map_append, List.map_append, List.map_cons, List.map_cons, ofDigs_app, ofDigs_app, List.length_map, List.length_map, Nat.one_mul]
    have h2 : l2.map (fun k => x / 2 ^ k % 2) = l2.map fun k => y / 2 ^ k % 2 := List.map_congr_left fun k hk => by rw [div_up e1 k (hl k hk)]
    have d : x / 2 ^ b % 2 = 0 ∧ y / 2 ^ b % 2 = 1 := by
      rw [div_succ, div_succ] at e1
      generalize x / 2 ^ b = u at *
      generalize y / 2 ^ b = v at *
      omega
    show _ + 2 ^ l1.length * (x / 2 ^ b % 2 + 2 ^ 1 * ofDigs 1 (l2.map fun k => x / 2 ^ k % 2)) < _ + 2 ^ l1.length * (y / 2 ^ b % 2 + 2 ^ 1 * ofDigs 1 (l2.map fun k => y / 2 ^ k % 2))
    rw [h2, d.1, d.2, Nat.mul_add, Nat.mul_add, Nat.mul_zero, Nat.mul_one]
    have := digs_lt1 (f := fun k => x / 2 ^ k % 2) l1 fun k => Nat.mod_lt _ (by decide)
    omega
  s2 := fun x y h e hy => digs_le _ fun k _ => by
    by_cases hk : h ≤ k
    · rw [div_up e k hk]; exact Nat.le_refl _
    · have h1 : (y % 2 ^ h).testBit k = true := by rw [hy, Nat.testBit_two_pow_sub_one]; exact decide_eq_true (by first | assumption | decide | omega)
      rw [Nat.testBit_mod_two_pow, decide_eq_true (show k < h by omega), Bool.true_and] at h1
      rw [bit_div.mpr h1]
      have := Nat.mod_lt (x / 2 ^ k) (show 2 > 0 by decide)
      omega
  s3 := fun x y h e hy => digs_le _ fun k _ => by
    by_cases hk : h ≤ k
    · rw [div_up e k hk]; exact Nat.le_refl _
    · have h1 : (y % 2 ^ h).testBit k = false := by rw [hy]; simp
      rw [Nat.testBit_mod_two_pow, decide_eq_true (show k < h by omega), Bool.true_and] at h1
      have : ¬ y / 2 ^ k % 2 = 1 := fun w => by rw [bit_div.mp w] at h1; cases h1
      have := Nat.mod_lt (x / 2 ^ k) (show 2 > 0 by decide)
      have := Nat.mod_lt (y / 2 ^ k) (show 2 > 0 by decide)
      omega
  s4 := fun x => digs_lt1 ps fun k => Nat.mod_lt _ (by decide)
/- between two of a row that goes up lies a step up -/
theorem step_up {g : Nat → Nat} : ∀ d i, g i < g (i + d) → ∃ t, i ≤ t ∧ t < i + d ∧ g t < g (t + 1)
  | 0, i, h => by rw [Nat.add_zero] at h; omega
  | d + 1, i, h => by
    by_cases q : g i < g (i + d)
    · obtain ⟨t, a, b, c⟩ := step_up d i q
      exact ⟨t, a, by omega, c⟩
    · exact ⟨i + d, by omega, by omega, Nat.lt_of_le_of_lt (Nat.not_lt.mp q) h⟩
theorem pair_mem : ∀ {keys : List Nat} (h5 : keys.length = 5) {t : Nat}, t + 1 < 5 → (keys.getD t 0, keys.getD (t + 1) 0) ∈ keys.zip (keys.drop 1)
  | [a, b, c, d, e], _, 0, _ => .head _
  | [a, b, c, d, e], _, 1, _ => .tail _ (.head _)
  | [a, b, c, d, e], _, 2, _ => .tail _ (.tail _ (.head _))
  | [a, b, c, d, e], _, 3, _ => .tail _ (.tail _ (.tail _ (.head _)))
theorem keysOk {keys : List Nat} (h5 : keys.length = 5) (hm : ∀ i j, i ≤ j → j < 5 → keys.getD i 0 ≤ keys.getD j 0) (hkb : ∀ k ∈ keys, k < 8192) : KeysOk (fun b => b ∈ placesOf keys) fun i => keys.getD i 0 where
  mono := hm
  top := fun i j b hi hj e1 e2 => by
    have e1 : keys.getD i 0 / 2 ^ (b + 1) = keys.getD j 0 / 2 ^ (b + 1) := e1
    have e2 : keys.getD i 0 / 2 ^ b < keys.getD j 0 / 2 ^ b := e2
    have hij : i < j := by
      rcases Nat.lt_or_ge i j with h | h
      · exact h
      · have := div_le b (hm j i h hi); omega
    obtain ⟨t, a1, a2, a3⟩ := step_up (g := fun i => keys.getD i 0 / 2 ^ b) (j - i) i (by rw [show i + (j - i) = j by omega]; exact e2)
    have a3 : keys.getD t 0 / 2 ^ b < keys.getD (t + 1) 0 / 2 ^ b := a3
    have s1 := div_le (b + 1) (hm i t a1 (by first | assumption | decide | omega))
    have s2 := div_le (b + 1) (hm t (t + 1) (by first | assumption | decide | omega) (by first | assumption | decide | omega))
    have s3 := div_le (b + 1) (hm (t + 1) j (by first | assumption | decide | omega) hj)
    have hb13 : b < 13 := by
      rcases Nat.lt_or_ge b 13 with h | h
      · exact h
      · have hk : keys.getD (t + 1) 0 < 8192 := hkb _ (by rw [List.getD_eq_getElem?_getD, List.getElem?_eq_getElem (by first | assumption | decide | omega)]; exact List.getElem_mem _)
        rw [Nat.div_eq_of_lt (Nat.lt_of_lt_of_le hk (Nat.le_trans (show 8192 ≤ 2 ^ 13 by decide) (Nat.pow_le_pow_right (by decide) h)))] at a3
        exact absurd a3 (Nat.not_lt_zero _)
    have hbits : bits (keys.getD t 0 ^^^ keys.getD (t + 1) 0) = b + 1 := bits_of (fun w => by have := xor_same.mp w; omega) (xor_same.mpr (by first | assumption | decide | omega))
    refine List.mem_filter.mpr ⟨List.mem_range.mpr hb13, List.any_eq_true.mpr ⟨(b : Int), ?_, beq_self_eq_true _⟩⟩
    exact List.mem_map.mpr ⟨_, pair_mem h5 (t := t) (by first | assumption | decide | omega), by show ((bits _ : Nat) : Int) - 1 = _; rw [hbits]; omega⟩
theorem taggedLen (ns : List Nat) : (taggedOf ns).length = ns.length := by rw [taggedOf, List.length_map, List.length_zipIdx]
theorem taggedGet {ns : List Nat} {i : Nat} (hi : i < ns.length) : (taggedOf ns)[i]? = some (((ns.getD i 0 : Nat) : Int), if i % 2 = 0 then -(i : Int) else (i : Int)) := by
  rw [taggedOf, List.getElem?_map, List.getElem?_zipIdx, List.getElem?_eq_getElem hi, List.getD_eq_getElem?_getD, List.getElem?_eq_getElem hi, Nat.zero_add]; rfl
theorem lexLt_iff {p q : Int × Int} : lexLt p q = true ↔ (p.1 < q.1 ∨ p.1 = q.1 ∧ p.2 < q.2) := decide_eq_true_iff
theorem keys_up {ps : List (Int × Int)} (h : ps.Pairwise fun p q => lexLt p q = true) : ∀ i j, i < j → j < ps.length → keyAt ps i ≤ keyAt ps j := fun i j hij hj => by
  have := lexLt_iff.mp (List.pairwise_iff_getElem.mp h i j (by first | assumption | decide | omega) hj hij)
  unfold keyAt
  rw [List.getD_eq_getElem?_getD, List.getD_eq_getElem?_getD, List.getElem?_eq_getElem hj, List.getElem?_eq_getElem (by first | assumption | decide | omega)]
  show (ps[i]).1 ≤ (ps[j]).1
  omega
theorem in_take {ps : List (Int × Int)} {r : Nat} {q : Int × Int} (h : q ∈ ps.take r) : ∃ i, i < r ∧ i < ps.length ∧ keyAt ps i = q.1 := by
  obtain ⟨i, hi, e⟩ := List.mem_iff_getElem.mp h
  rw [List.length_take] at hi
  refine ⟨i, by omega, by omega, ?_⟩
  unfold keyAt
  rw [List.getD_eq_getElem?_getD, List.getElem?_eq_getElem (by first | assumption | decide | omega)]
  rw [List.getElem_take] at e
  rw [← e]; rfl
theorem in_drop {ps : List (Int × Int)} {r : Nat} {q : Int × Int} (h : q ∈ ps.drop r) : ∃ i, r ≤ i ∧ i < ps.length ∧ keyAt ps i = q.1 := by
  obtain ⟨i, hi, e⟩ := List.mem_iff_getElem.mp h
  rw [List.length_drop] at hi
  refine ⟨r + i, by omega, by omega, ?_⟩
  unfold keyAt
  rw [List.getD_eq_getElem?_getD, List.getElem?_eq_getElem (by first | assumption | decide | omega)]
  rw [List.getElem_drop] at e
  rw [← e]; rfl
/- the insertion keeps the order -/
theorem put_in {ps : List (Int × Int)} {x : Int × Int} {r : Nat} (h : ps.Pairwise fun p q => lexLt p q = true) (h1 : ∀ q ∈ ps.take r, lexLt q x = true) (h2 : ∀ q ∈ ps.drop r, lexLt x q = true) : (ps.take r ++ x :: ps.drop r).Pairwise fun p q => lexLt p q = true := by
  rw [← List.take_append_drop r ps] at h
  obtain ⟨a, b, c⟩ := List.pairwise_append.mp h
  refine List.pairwise_append.mpr ⟨a, List.pairwise_cons.mpr ⟨h2, b⟩, fun u hu v hv => ?_⟩
  rcases List.mem_cons.mp hv with rfl | hv
  · exact h1 u hu
  · exact c u hu v hv
theorem rowOk (ns : List Nat) : ∀ i, i ≤ ns.length → (rowAt ns i).Perm ((taggedOf ns).take i) ∧ ((rowAt ns i).Pairwise fun p q => lexLt p q = true) ∧ ∀ q ∈ rowAt ns i, -(i : Int) < q.2 ∧ q.2 < i
  | 0, _ => ⟨.refl _, .nil, fun q h => nomatch h⟩
  | i + 1, hi => by
    obtain ⟨h1, h2, h3⟩ := rowOk ns i (by first | assumption | decide | omega)
    obtain ⟨ps, hps⟩ : ∃ ps, ps = rowAt ns i := ⟨_, rfl⟩
    have hlen : ps.length = i := by rw [hps, rowAt_len]
    rw [← hps] at h1 h2 h3
    obtain ⟨x, hx⟩ : ∃ x : Int × Int, x = (((ns.getD i 0 : Nat) : Int), if i % 2 = 0 then -(i : Int) else (i : Int)) := ⟨_, rfl⟩
    obtain ⟨r, hr⟩ : ∃ r, r = if i % 2 = 0 then bisL (keyAt ps) (ns.getD i 0 : Nat) 0 ps.length else bisR (keyAt ps) (ns.getD i 0 : Nat) 0 ps.length := ⟨_, rfl⟩
    have e : rowAt ns (i + 1) = ps.take r ++ x :: ps.drop r := by rw [rowAt, ← hps, ← hr, hx]
    have up := keys_up h2
    have pl : (ps.take r ++ x :: ps.drop r).Perm (x :: ps) := by
      have := (List.perm_middle (a := x) (l₁ := ps.take r) (l₂ := ps.drop r))
      rwa [List.take_append_drop] at this
    rw [e]
    refine ⟨?_, ?_, fun q hq => ?_⟩
    · rw [List.take_add_one, taggedGet (by first | assumption | decide | omega), ← hx]
      exact pl.trans ((List.Perm.cons x h1).trans (List.perm_append_singleton x _).symm)
    · by_cases hp : i % 2 = 0
      · rw [if_pos hp] at hr hx
        obtain ⟨r', hr', er⟩ := rank (p := fun i => keyAt ps i < x.1) ps.length fun a b hab hb w => Int.lt_of_le_of_lt (up a b hab hb) w
        have : r = r' := by rw [hr]; exact bisL_eq _ _ _ (Nat.le_refl _) (Nat.zero_le _) hr' fun j _ hj => by rw [← er j hj, hx]
        subst this
        refine put_in h2 (fun q hq => ?_) fun q hq => ?_
        · obtain ⟨j, j1, j2, j3⟩ := in_take hq
          have := (er j j2).mpr j1
          exact lexLt_iff.mpr (.inl (by rw [← j3]; exact this))
        · obtain ⟨j, j1, j2, j3⟩ := in_drop hq
          have h4 : ¬ keyAt ps j < x.1 := fun w => by have := (er j j2).mp w; omega
          have h5 := (h3 q (List.mem_of_mem_drop hq)).1
          have h6 : x.2 = -(i : Int) := by rw [hx]
          exact lexLt_iff.mpr (by first | assumption | decide | omega)
      · rw [if_neg hp] at hr hx
        obtain ⟨r', hr', er⟩ := rank (p := fun i => keyAt ps i ≤ x.1) ps.length fun a b hab hb w => Int.le_trans (up a b hab hb) w
        have : r = r' := by rw [hr]; exact bisR_eq _ _ _ (Nat.le_refl _) (Nat.zero_le _) hr' fun j _ hj => by rw [← er j hj, hx]
        subst this
        refine put_in h2 (fun q hq => ?_) fun q hq => ?_
        · obtain ⟨j, j1, j2, j3⟩ := in_take hq
          have h4 := (er j j2).mpr j1
          have h5 := (h3 q (List.mem_of_mem_take hq)).2
          have h6 : x.2 = (i : Int) := by rw [hx]
          exact lexLt_iff.mpr (by first | assumption | decide | omega)
        · obtain ⟨j, j1, j2, j3⟩ := in_drop hq
          have h4 : ¬ keyAt ps j ≤ x.1 := fun w => by have := (er j j2).mp w; omega
          exact lexLt_iff.mpr (.inl (by first | assumption | decide | omega))
    · rcases List.mem_cons.mp (pl.mem_iff.mp hq) with rfl | hq
      · rw [hx]
        show -(((i + 1 : Nat)) : Int) < (if i % 2 = 0 then -(i : Int) else (i : Int)) ∧ _
        split <;> omega
      · have := h3 q hq
        omega
/- the octets of a number are read back -/
theorem octD : ∀ d, d < 64 → (64 + d &&& 64 ≠ 0) ∧ 64 + d < 256 ∧ (64 + d) % 64 = d ∧ (d &&& 64 = 0) ∧ d < 256 ∧ d % 64 = d ∧ (64 + d + 128 &&& 64 ≠ 0) ∧ 64 + d + 128 < 256 ∧ (64 + d + 128) % 64 = d ∧ (d + 128 &&& 64 = 0) ∧ d + 128 < 256 ∧ (d + 128) % 64 = d := by decide +kernel
theorem mod64 (n : Nat) : n % 64 < 64 := Nat.mod_lt _ (by decide)
theorem read3 (n : Nat) : (n / 4096 * 64 + n / 64 % 64) * 64 + n % 64 = n := by omega
theorem read2 {n : Nat} (h : ¬ n > 4095) : n / 64 % 64 * 64 + n % 64 = n := by omega
theorem high64 {n : Nat} (h : n < 8192) : n / 4096 < 64 := by omega
theorem low64 {n : Nat} (h : ¬ n > 63) : n % 64 = n := Nat.mod_eq_of_lt (by first | assumption | decide | omega)
structure OctOk (n : Nat) (cs : List Nat) : Prop where
  num : isNum cs
  lt : ∀ d ∈ cs, d < 256
  len : cs.length ≤ 3
  val : readV cs = n
theorem forOne {P : Nat → Prop} {a : Nat} (ha : P a) : ∀ d ∈ [a], P d := fun d h => by rw [List.mem_singleton.mp h]; exact ha
theorem forCons {P : Nat → Prop} {a : Nat} {l : List Nat} (ha : P a) (h : ∀ d ∈ l, P d) : ∀ d ∈ a :: l, P d := fun d hd => (List.mem_cons.mp hd).elim (fun e => by rw [e]; exact ha) (h d)
theorem oct3 {n : Nat} (hn : n < 8192) : OctOk n (octsOf [n / 4096, n / 64 % 64, n % 64]) := by
  obtain ⟨_, _, _, _, _, _, a7, a8, a9, _⟩ := octD _ (high64 hn)
  obtain ⟨b1, b2, b3, _⟩ := octD _ (mod64 (n / 64))
  obtain ⟨_, _, _, c4, c5, c6, _⟩ := octD _ (mod64 n)
  refine ⟨⟨⟨a7, b1, c4⟩, Nat.le_of_ble_eq_true rfl⟩, forCons a8 (forCons b2 (forOne c5)), Nat.le_of_ble_eq_true rfl, ?_⟩
  show ((64 + n / 4096 + 128) % 64 * 64 + (64 + n / 64 % 64) % 64) * 64 + n % 64 % 64 = n
  rw [a9, b3, c6, read3]
theorem octOk {n t : Nat} (hn : n < 8192) : OctOk n (octsOf (figs n t)) := by
  unfold figs
  by_cases ht : t % 2 = 0
  · rw [if_pos ht]
    by_cases h1 : n > 4095
    · rw [if_pos h1]; exact oct3 hn
    · rw [if_neg h1]
      by_cases h2 : n > 63
      · rw [if_pos h2]
        obtain ⟨_, _, _, _, _, _, a7, a8, a9, _⟩ := octD _ (mod64 (n / 64))
        obtain ⟨_, _, _, c4, c5, c6, _⟩ := octD _ (mod64 n)
        refine ⟨⟨⟨a7, c4⟩, Nat.le_of_ble_eq_true rfl⟩, forCons a8 (forOne c5), Nat.le_of_ble_eq_true rfl, ?_⟩
        show (64 + n / 64 % 64 + 128) % 64 * 64 + n % 64 % 64 = n
        rw [a9, c6, read2 h1]
      · rw [if_neg h2]
        obtain ⟨_, _, _, _, _, _, _, _, _, a1, a2, a3⟩ := octD _ (mod64 n)
        refine ⟨⟨a1, Nat.le_of_ble_eq_true rfl⟩, forOne a2, Nat.le_of_ble_eq_true rfl, ?_⟩
        show (n % 64 + 128) % 64 = n
        rw [a3, low64 h2]
  · rw [if_neg ht]; exact oct3 hn
theorem flat_le : ∀ css : List (List Nat), (∀ cs ∈ css, cs.length ≤ 3) → css.flatten.length ≤ 3 * css.length
  | [], _ => Nat.le_refl _
  | cs :: r, h => by
    have h1 := flat_le r fun x hx => h x (.tail _ hx)
    have h2 := h cs (.head _)
    rw [List.flatten_cons, List.length_append, List.length_cons]
    omega
theorem any_mem {ps : List Nat} {k : Nat} : (zls ps).any (· == (k : Int)) = ps.any (· == k) := by
  unfold zls
  rw [List.any_map]
  congr 1
  funext j
  show ((j : Int) == (k : Int)) = (j == k)
  by_cases h : j = k
  · subst h; simp
  · rw [beq_eq_false_iff_ne.mpr h]
    exact beq_eq_false_iff_ne.mpr (by first | assumption | decide | omega)
theorem range_more (q : Nat → Bool) : ((List.range 32).filter fun j => decide (j < 13) && q j) = (List.range 13).filter q := by
  have e : List.range 32 = List.range 13 ++ List.range' 13 19 := by decide
  rw [e, List.filter_append]
  have h1 : ((List.range' 13 19).filter fun j => decide (j < 13) && q j) = [] := List.filter_eq_nil_iff.mpr fun j hj => by
    have := (List.mem_range'_1.mp hj).1
    rw [decide_eq_false (by first | assumption | decide | omega)]; simp
  rw [h1, List.append_nil]
  refine List.filter_congr fun j hj => ?_
  rw [decide_eq_true (List.mem_range.mp hj), Bool.true_and]
theorem lawOk {c : List Nat} (hc : c.length = 8) : ∃ keys ps sk m ws, LawOk c (drawnOf c) (askedOf c) keys ps sk m ws := by
  obtain ⟨d, hd⟩ : ∃ d, d = drawnOf c := ⟨_, rfl⟩
  rw [← hd]
  have hdl : d.length = 5 := by rw [hd, drawnOf, List.length_map, List.length_take, hc]; rfl
  have hdb : ∀ n ∈ d, n < 8192 := fun n hn => by
    rw [hd] at hn
    obtain ⟨x, _, rfl⟩ := List.mem_map.mp hn
    exact Nat.mod_lt _ (by decide)
  have hqb : ∀ n ∈ askedOf c, n < 10000 := fun n hn => by
    obtain ⟨x, _, rfl⟩ := List.mem_map.mp hn
    exact Nat.mod_lt _ (by decide)
  -- the octets
  have oc : ∀ p ∈ d.zipIdx, OctOk p.1 (octsOf (figs p.1 p.2)) := fun p hp => octOk (hdb _ (List.fst_mem_of_mem_zipIdx hp))
  have ocs : ∀ cs ∈ cssOf d, ∃ n, OctOk n cs := fun cs h => by
    obtain ⟨p, hp, rfl⟩ := List.mem_map.mp h
    exact ⟨_, oc p hp⟩
  -- the row
  obtain ⟨w1, w2, w3⟩ := rowOk d d.length (Nat.le_refl _)
  rw [show (taggedOf d).take d.length = taggedOf d from List.take_of_length_le (by rw [taggedLen]; exact Nat.le_refl _)] at w1
  obtain ⟨row, hrow⟩ : ∃ row, row = rowAt d d.length := ⟨_, rfl⟩
  rw [← hrow] at w1 w2 w3
  have hrl : row.length = 5 := by rw [hrow, rowAt_len, hdl]
  have hnat : ∀ q ∈ row, ∃ n ∈ d, q.1 = ((n : Nat) : Int) := fun q hq => by
    obtain ⟨p, hp, e⟩ := List.mem_map.mp (w1.mem_iff.mp hq)
    exact ⟨p.1, List.fst_mem_of_mem_zipIdx hp, by rw [← e]⟩
  obtain ⟨keys, hkeys⟩ : ∃ keys, keys = row.map fun q => q.1.toNat := ⟨_, rfl⟩
  have hkl : keys.length = 5 := by rw [hkeys, List.length_map, hrl]
  have hzk : zls keys = row.map (·.1) := by
    rw [hkeys, zls, List.map_map]
    refine List.map_congr_left fun q hq => ?_
    obtain ⟨n, _, e⟩ := hnat q hq
    show ((q.1.toNat : Nat) : Int) = q.1
    rw [e, Int.toNat_natCast]
  have hkb : ∀ k ∈ keys, k < 8192 := fun k hk => by
    rw [hkeys] at hk
    obtain ⟨q, hq, rfl⟩ := List.mem_map.mp hk
    obtain ⟨n, hn, e⟩ := hnat q hq
    rw [e, Int.toNat_natCast]
    exact hdb n hn
  have hkget : ∀ i, i < 5 → ((keys.getD i 0 : Nat) : Int) = keyAt row i := fun i hi => by
    rw [← zlsD, hzk, List.getD_eq_getElem?_getD, List.getElem?_map, List.getElem?_eq_getElem (by first | assumption | decide | omega)]
    unfold keyAt
    rw [List.getD_eq_getElem?_getD, List.getElem?_eq_getElem (by first | assumption | decide | omega)]; rfl
  have hmono : ∀ i j, i ≤ j → j < 5 → keys.getD i 0 ≤ keys.getD j 0 := fun i j hij hj => by
    rcases Nat.lt_or_eq_of_le hij with h | rfl
    · have h1 := keys_up w2 i j h (by first | assumption | decide | omega)
      rw [← hkget i (by first | assumption | decide | omega), ← hkget j hj] at h1
      omega
    · exact Nat.le_refl _
  -- the places
  obtain ⟨ps, hps⟩ : ∃ ps, ps = placesOf keys := ⟨_, rfl⟩
  obtain ⟨q, hq⟩ : ∃ q : Nat → Bool, q = fun k : Nat => (topsOf keys).any (· == (k : Int)) := ⟨_, rfl⟩
  have hpq : ps = (List.range 13).filter q := by rw [hps, hq]; rfl
  have hpl : ps.length ≤ 13 := by rw [hpq]; exact Nat.le_trans (List.length_filter_le _ _) (by simp)
  obtain ⟨m1, m2⟩ := mask_bits q 13
  rw [← hpq] at m1 m2
  have m32 : maskOf ps < 2 ^ 32 := Nat.lt_trans m1 (by decide)
  have K : KeysOk (fun b => b ∈ ps) fun i => keys.getD i 0 := by rw [hps]; exact keysOk hkl hmono hkb
  have S : SkOk (fun b => b ∈ ps) (fun x => sketch (x &&& maskOf ps) (ps.map nm)) (ps.map nm).length := by
    rw [show (fun x => sketch (x &&& maskOf ps) (ps.map nm)) = skOf ps from funext fun x => sketch_eq hpq x, List.length_map]
    exact skOk hpq
  refine ⟨keys, ps, sketchesOf keys (maskOf ps) (ps.map nm), maskOf ps, ps.map nm, {
    hc := hc, hd := hd, hq := rfl
    r1 := fun cs h => (ocs cs h).choose_spec.num
    r2 := fun n h => by
      obtain ⟨cs, h1, h2⟩ := List.mem_flatten.mp h
      exact (ocs cs h1).choose_spec.lt n h2
    r3 := by
      have h1 := flat_le (cssOf d) fun cs h => (ocs cs h).choose_spec.len
      have h2 : (cssOf d).length = 5 := by rw [cssOf, List.length_map, List.length_zipIdx, hdl]
      omega
    r4 := by
      rw [cssOf, List.map_map]
      exact (List.map_congr_left fun p hp => (oc p hp).val).trans (List.zipIdx_map_fst 0 d)
    s1 := hrow ▸ w1
    s2 := hrow ▸ w2
    s3 := by
      have : row.Nodup := w2.imp fun {a b} h e => by rw [e, lexLt_irr] at h; cases h
      exact w1.nodup_iff.mp this
    hk := by rw [hzk, hrow]
    hkb := hkb
    hps := hps, hm := rfl, hws := rfl
    f1 := ?_
    f2 := ?_
    hsk := rfl
    due := fun n hn => ?_
    found := fun n hn => foundOk hkl K S (hqb n hn) (by rw [List.length_map]; exact hpl) hkb }⟩
  · by_cases h0 : ps = []
    · rw [h0]
      show Txt.join kSep (told ((0 : Nat) : Int)) = _
      rw [show ((0 : Nat) : Int) = 0 from rfl, told_zero]
      decide +kernel
    · have hne : (Txt.join kSep (ps.map nm)).length ≠ 0 := fun w => by
        obtain ⟨k, r, e⟩ := List.exists_cons_of_ne_nil h0
        have hk : k < 13 := by
          have : k ∈ ps := by rw [e]; exact .head _
          rw [hpq] at this
          exact List.mem_range.mp (List.mem_filter.mp this).1
        have h2 := (nmFree k (by first | assumption | decide | omega)).2
        rw [show Txt.join kSep (ps.map nm) = Str.join kSep (ps.map nm) from StrLaws.glued_eq_join _ _, e, List.map_cons] at w
        have : (nm k).length ≤ (Str.join kSep (nm k :: r.map nm)).length := by
          cases r with
          | nil => exact Nat.le_refl _
          | cons j r =>
            show _ ≤ (nm k ++ kSep ++ Str.join kSep (nm j :: r.map nm)).length
            rw [Str.length_append, Str.length_append]; omega
        omega
      rw [if_neg hne]
      have hm0 : maskOf ps ≠ 0 := fun w => by
        obtain ⟨k, r, e⟩ := List.exists_cons_of_ne_nil h0
        have : k ∈ ps := by rw [e]; exact .head _
        rw [hpq] at this
        obtain ⟨a, b⟩ := List.mem_filter.mp this
        have h1 := m2 k
        rw [w, decide_eq_true (List.mem_range.mp a), b] at h1
        simp at h1
      rw [told_nat hm0 m32]
      have : ((List.range 32).filter fun j => decide (maskOf ps / 2 ^ j % 2 = 1)) = ps := by
        refine Eq.trans ?_ ((range_more q).trans hpq.symm)
        refine List.filter_congr fun j _ => ?_
        rw [← m2 j, ← Nat.testBit_eq_decide_div_mod_eq]
      rw [this]
  · rw [told_not m32]
    congr 2
    unfold othersOf
    refine List.filter_congr fun j _ => ?_
    rw [any_mem, decide_not, ← Nat.testBit_eq_decide_div_mod_eq, m2 j]
    congr 1
    rw [Bool.eq_iff_iff, Bool.and_eq_true, List.any_eq_true, decide_eq_true_eq]
    constructor
    · intro ⟨a, b⟩
      exact ⟨j, by rw [hpq]; exact List.mem_filter.mpr ⟨List.mem_range.mpr a, b⟩, beq_self_eq_true _⟩
    · intro ⟨k, hk, e⟩
      obtain rfl := eq_of_beq e
      rw [hpq] at hk
      obtain ⟨a, b⟩ := List.mem_filter.mp hk
      exact ⟨List.mem_range.mp a, b⟩
  · obtain ⟨lt, hlt, rlt⟩ := rank (p := fun i => keys.getD i 0 < n) 5 fun i j a b w => Nat.lt_of_le_of_lt (hmono i j (by first | assumption | decide | omega) b) w
    obtain ⟨le, hle, rle⟩ := rank (p := fun i => keys.getD i 0 ≤ n) 5 fun i j a b w => Nat.le_trans (hmono i j (by first | assumption | decide | omega) b) w
    refine ⟨?_, ?_⟩
    · rw [SL_eq (r := lt) (Nat.zero_le _) hlt fun i _ hi => by rw [← rlt i hi]; omega]
      exact count_eq keys lt (by first | assumption | decide | omega) fun i hi => by rw [decide_eq_true_eq]; exact rlt i (by first | assumption | decide | omega)
    · rw [SR_eq (r := le) (Nat.zero_le _) hle fun i _ hi => by rw [← rle i hi]; omega]
      exact count_eq keys le (by first | assumption | decide | omega) fun i hi => by rw [decide_eq_true_eq]; exact rle i (by first | assumption | decide | omega)
/- the law answers True -/
theorem lawAll {C : Cx} (P : PX C) (DL : ∃ fd, DefP C 160 sLaw fd) {F : Ghost} {ns : List Int} (hz : ns.length ≤ 1000000) : FnS C 140 F (.ref 160) [.list (ns.map .int)] [] (.bool true) :=
  let ⟨_, _, _, _, _, H⟩ := lawOk (cellsAt_len (slc ns none (some 60)) (slc ns none (some 60)).length)
  lawFn P DL hz rfl H
noncomputable abbrev pw : Program := PySem.Challenge.pw_rs0182_01
/- the program with the law's def alone: what the library's head is asked to see -/
noncomputable def qv : Program := { pw with main := { pw.main with body := [sLaw] } }
noncomputable abbrev rowS : String := "special-get-raises"
noncomputable def recOf : Stmt → DefRec
  | .FunctionDef n a b _ _ _ sc _ _ pos => ⟨n, a, b, sc, pos⟩
  | _ => ⟨default, default, [], default, ⟨0, 0, 0, 0⟩⟩
noncomputable def lz : List Str := (pw.main.scope.names.map (·.1)).filter (fun x => !(x == Str.ofString "law" || x == Str.ofString "__name__"))
noncomputable def codeName (h : Heap) : Value → Option Str
  | .ref c => match h.get? c with
    | some o => (match o.data with | .fields vs => (match (vs[1]? : Option Value) with | some (.str q _) => some q | _ => none) | _ => none)
    | none => none
  | _ => none
theorem codeName.of {h : Heap} {cd : Value} {q : Str} (e : codeName h cd = some q) : h.CodeRec cd q := by
  cases cd with
  | ref c =>
    simp only [codeName] at e
    split at e
    · rename_i o ho
      split at e
      · rename_i vs hd
        split at e
        · rename_i q' t hv
          cases e
          exact ⟨c, o, vs, t, rfl, ho, hd, hv⟩
        · cases e
      · cases e
    · cases e
  | _ => cases e
/- a def's object but for its module, its code, its words -/
noncomputable def fnSees (h : Heap) (a : Addr) : Option (FuncData × Value × Option Str) :=
  match h.get? a with
  | some o => (match o.data with | .func fd => some ({ fd with pyModule := .none, code := .none, doc := .none }, fd.code, codeName h fd.code) | _ => none)
  | none => none
theorem fnSees.of {h : Heap} {a : Addr} {fd : FuncData} {c : Value} {q : Str} (e : fnSees h a = some (fd, c, some q)) :
    ∃ o pm doc, h.get? a = some o ∧ o.data = .func { fd with pyModule := pm, code := c, doc := doc } ∧ h.CodeRec c q := by
  unfold fnSees at e
  split at e
  · rename_i o ho
    split at e
    · rename_i fd' hd
      simp only [Option.some.injEq, Prod.mk.injEq] at e
      obtain ⟨rfl, rfl, e3⟩ := e
      exact ⟨o, fd'.pyModule, fd'.doc, ho, hd, codeName.of e3⟩
    · cases e
  · cases e
noncomputable def glSees (h : Heap) (x : Str) : Option Value := match h.nsMap mainGlobals x with
  | some v => some v
  | none => h.nsMap builtinsNs x
noncomputable def dflSees (h : Heap) (d k : Addr) : Bool := (match h.get? d with
  | some o => (match o.data with | .seq xs _ => (match xs.toList with | [.int 0 _, .none] => true | _ => false) | _ => false)
  | none => false) && h.isNs k && (match h.nsMap k (Str.ofString "key") with | some .none => true | _ => false)
theorem dflSees.of {h : Heap} {d k : Addr} (e : dflSees h d k = true) : (∃ o t n, h.get? d = some o ∧ o.data = .seq #[.int 0 t, .none] n) ∧ ∃ m, h.Ns k m ∧ m (Str.ofString "key") = some .none := by
  unfold dflSees at e
  rw [Bool.and_eq_true, Bool.and_eq_true] at e
  obtain ⟨⟨e1, e2⟩, e3⟩ := e
  refine ⟨?_, _, .of_isNs e2, ?_⟩
  · split at e1
    · rename_i o ho
      split at e1
      · rename_i xs n hd
        split at e1
        · rename_i t hx
          obtain ⟨xs⟩ := xs
          simp only at hx
          subst hx
          exact ⟨o, t, n, ho, hd⟩
        · cases e1
      · cases e1
    · cases e1
  · split at e3
    · assumption
    · cases e3
noncomputable def hdSees (h : Heap) (c P : Addr) : Bool := (match h.get? c with
  | some o => (match o.cls with | .type n => n == "code" | _ => false) && (match o.data with
    | .fields vs => (match (vs[11]? : Option Value) with | some (.ref P') => Nat.beq P' P | _ => false) && (match vs.getD 11 .none with | .ref P' => Nat.beq P' P | _ => false) && (match vs.getD 18 .none with | .str _ _ => true | _ => false) &&
      (match vs.getD 7 .none with | .int _ _ => true | _ => false) && (match vs.getD 9 .none with | .bool _ => true | _ => false) && (match vs.getD 10 .none with | .int _ _ => true | _ => false)
    | _ => false)
  | none => false) && !Nat.beq c P
theorem hdSees.of {h : Heap} {c P : Addr} (e : hdSees h c P = true) : CodeHd h c P := by
  unfold hdSees at e
  rw [Bool.and_eq_true] at e
  obtain ⟨e, e0⟩ := e
  split at e
  · rename_i o ho
    rw [Bool.and_eq_true] at e
    obtain ⟨e1, e2⟩ := e
    split at e1
    · rename_i n hc
      split at e2
      · rename_i vs hd
        simp only [Bool.and_eq_true] at e2
        obtain ⟨⟨⟨⟨⟨k1, k2⟩, k3⟩, k4⟩, k5⟩, k6⟩ := e2
        split at k1
        · rename_i P1 g1
          split at k2
          · rename_i P2 g2
            split at k3
            · rename_i f tf g3
              split at k4
              · rename_i fl tg g4
                split at k5
                · rename_i b g5
                  split at k6
                  · rename_i x tx g6
                    have h1 := Nat.eq_of_beq_eq_true k1
                    have h2 := Nat.eq_of_beq_eq_true k2
                    subst h1
                    rw [h2] at g2
                    exact ⟨o, vs, f, tf, fl, tg, b, x, tx, ho, by rw [hc, eq_of_beq e1], hd, g1, g2, g3, g4, g5, g6, fun q => by subst q; simp at e0⟩
                  · cases k6
                · cases k5
              · cases k4
            · cases k3
          · cases k2
        · cases k1
      · cases e2
    · cases e1
  · cases e
/- the three tables of code, their codes -/
noncomputable def tabL : List (Addr × Addr) := [(70, 66), (77, 73), (132, 128)]
noncomputable def tabP : List Addr := [66, 73, 128]
noncomputable def fnP : List (Addr × Stmt) := [(57, sD2n), (85, sDpos), (92, sDivm), (100, sFlags), (107, sVarint), (114, sCells), (119, sOctets), (126, sRead), (138, sWords), (143, sSketch), (148, sFound), (155, sRefused), (160, sLaw)]
noncomputable def fnD : List (Addr × Stmt × Addr × Addr) := [(23, sInsR, 15, 16), (32, sBisR, 24, 25), (41, sInsL, 33, 34), (50, sBisL, 42, 43)]
noncomputable def fnT : List (Addr × Stmt × Addr) := [(71, sI2d, 70), (78, sD2i, 77), (133, sOrdered, 132)]
/- what the law asks of the top, read off its heap -/
noncomputable def hp (s : Shared) : Heap := hideAll s.heap tabP
noncomputable abbrev SeeT : Type := List (Option Value) × Option Int × List Bool × List (Option (FuncData × Option Str)) × List (Option (FuncData × Option Str)) × List Bool × List (Option (FuncData × Value × Option Str)) × List Bool × List (Option Obj)
noncomputable def noCode : Option (FuncData × Value × Option Str) → Option (FuncData × Option Str) := Option.map fun x => (x.1, x.2.2)
noncomputable def bmSees (h : Heap) : Bool := match h.nsMap mainGlobals (Str.ofString "__builtins__") with
  | some (.ref bm) => !Nat.beq bm builtinsNs && !Nat.beq bm mainGlobals && (match h.get? bm with
    | some o => (match o.cls with | .type n => n == "module" | _ => false) && (match o.dict with | some d => Nat.beq d builtinsNs | none => false) && (match o.data with | .plain => true | _ => false)
    | none => false)
  | _ => false
noncomputable def refAt (a : Addr) : Option Value → Bool
  | some (.ref b) => Nat.beq b a
  | _ => false
noncomputable def bools (h : Heap) : List Bool := [h.tabIntOk (Str.ofString "COMPILER_FLAG_NAMES") flagD, h.isNs mainGlobals, h.isNs builtinsNs, h.isNs cStatics, (h.nsMap cStatics (Str.ofString "sys.recursionlimit")).isNone, refAt 160 (h.nsMap mainGlobals (Str.ofString "law")), bmSees h]
noncomputable def sees (h h' : Heap) : SeeT :=
  (GL.map fun p => glSees h' p.1, (match glSees h' (Str.ofString "_DIV_LIMIT") with | some (.int i _) => some i | _ => none), bools h',
    fnP.map fun p => noCode (fnSees h' p.1), fnD.map fun p => noCode (fnSees h' p.1), fnD.map fun p => dflSees h' p.2.2.1 p.2.2.2,
    fnT.map fun p => fnSees h' p.1, tabL.map fun p => hdSees h' p.1 p.2, tabP.map h.get?)
noncomputable def seen' : SeeT :=
  (GL.map fun p => some p.2, some 4000, [true, true, true, true, true, true, true],
    fnP.map fun p => some (fdP p.2 .none .none .none, some (fnName p.2)), fnD.map fun p => some (fdD p.2.1 .none .none .none p.2.2.1 p.2.2.2, some (fnName p.2.1)), fnD.map fun _ => true,
    fnT.map fun p => some (fdP p.2.1 .none .none .none, .ref p.2.2, some (fnName p.2.1)), tabL.map fun _ => true, tabP.map fun _ => some (tabObj #[]))
noncomputable abbrev boot (w : World) (os : OsState) : Shared := ⟨boot_heap w.params, Array.mk [], boot_drawn, boot_toks, os⟩
noncomputable abbrev Xt0 : Shared → Bool := fun _ => true
theorem topF (w : World) (os : OsState) : (topFrom PySem.W.Fast.tw14364793385576792824 pw (w.withFollow rowS false) 1000 (boot w os)).map (fun s => (PySem.W.Fast.tw4187177175401517315 qv lz [] Xt0 true s, sees s.heap (hp s))) = some (openGood qv lz, seen') := by kernel_rfl
theorem topT (w : World) (os : OsState) : (topFrom PySem.W.Fast.tw14364793385576792824 pw (w.withFollow rowS true) 1000 (boot w os)).map (fun s => (PySem.W.Fast.tw4187177175401517315 qv lz [] Xt0 true s, sees s.heap (hp s))) = some (openGood qv lz, seen') := by kernel_rfl
theorem leftO : LeftO pw qv lz Xt0 (fun s => sees s.heap (hp s)) (fun _ => seen') 1000 := fun w => by
  obtain ⟨s₀, hs₀, hv⟩ := Option.map_eq_some_iff.mp (boot_open (p := pw) (N := 1000) rfl rfl (fun s => rfl) w)
  unfold openEnds
  rw [hs₀, PySem.W.Fast.te14364793385576792824, PySem.W.Fast.te4187177175401517315]
  obtain ⟨hp', gs, d, k, os⟩ := s₀
  simp only [Prod.mk.injEq] at hv
  obtain ⟨rfl, rfl, rfl, rfl⟩ := hv
  have e := World.withFollow_self w rowS
  cases hb : w.params.followText rowS <;> rw [hb] at e
  · have h := topF w os; rw [e] at h; exact h
  · have h := topT w os; rw [e] at h; exact h
theorem lawSaid : PySem.Challenge.rw_rs0182_01.wellSaid = true := by
  rw [PySem.W.Fast.te9446332074065402090]; kernel_rfl
noncomputable def YP0 (w : World) (h : Heap) : Prop := ∃ h₀, sees h₀ (hideAll h₀ tabP) = seen' ∧ ∀ b o, h₀.get? b = some o → h.get? b = some o
theorem holdsLaw (walk : WalkO qv lz (fun _ _ => True) YP0 PySem.Challenge.rw_rs0182_01.row.toRowW (recOf sLaw) [] fun f vs => PySem.call f vs) : PySem.Challenge.rw_rs0182_01.Holds :=
  holds_law lawSaid fun k1 => holds_open (q := qv) (loose := lz) (Xt := Xt0) (XP := fun _ _ => True) (Yf := fun s => sees s.heap (hp s)) (Ya := fun _ => seen') (YP := YP0) (N := 1000) leftO
    (fun w s e => ⟨s.heap, e, fun _ _ e => e⟩) (fun w h h' ⟨h₀, e, k⟩ k' => ⟨h₀, e, fun b o q => k' b o (k b o q)⟩) (fun _ _ => trivial) (fun _ _ _ _ _ => trivial)
    (by kernel_rfl) (by kernel_rfl) (by kernel_rfl) (fun s e => recFacts_of rfl) (by kernel_rfl) k1 (by kernel_rfl) ⟨rfl, rfl, rfl, rfl, rfl, by decide +kernel⟩ ⟨[.list [.int 0]], by decide +kernel, by decide +kernel⟩ walk
theorem bmSees.of {h : Heap} (e : bmSees h = true) : ∃ bm ob, h.nsMap mainGlobals (Str.ofString "__builtins__") = some (.ref bm) ∧ bm ≠ builtinsNs ∧ bm ≠ mainGlobals ∧ h.get? bm = some ob ∧ ob.cls = .type "module" ∧ ob.dict = some builtinsNs ∧ ob.data = .plain := by
  unfold bmSees at e
  split at e
  · rename_i bm hb
    rw [Bool.and_eq_true, Bool.and_eq_true] at e
    obtain ⟨⟨e1, e2⟩, e3⟩ := e
    split at e3
    · rename_i ob ho
      rw [Bool.and_eq_true, Bool.and_eq_true] at e3
      obtain ⟨⟨k1, k2⟩, k3⟩ := e3
      refine ⟨bm, ob, hb, fun q => ?_, fun q => ?_, ho, ?_, ?_, ?_⟩
      · subst q; rw [Nat.beq_refl] at e1; cases e1
      · subst q; rw [Nat.beq_refl] at e2; cases e2
      · split at k1
        · rename_i n hc; rw [hc, eq_of_beq k1]
        · cases k1
      · split at k2
        · rename_i d hd; rw [hd, Nat.eq_of_beq_eq_true k2]
        · cases k2
      · split at k3
        · assumption
        · cases k3
    · cases e3
  · cases e
theorem refAt.of {a : Addr} {v : Option Value} (e : refAt a v = true) : v = some (.ref a) := by
  unfold refAt at e
  split at e
  · rw [Nat.eq_of_beq_eq_true e]
  · cases e
theorem glSees.of {h : Heap} {x : Str} {v : Value} (e : glSees h x = some v) : h.nsMap mainGlobals x = some v ∨ (h.nsMap mainGlobals x = none ∧ h.nsMap builtinsNs x = some v) := by
  unfold glSees at e
  split at e
  · rename_i v' hv; cases e; exact .inl hv
  · rename_i hv; exact .inr ⟨hv, e⟩
theorem map_at {α β : Type} {f g : α → β} {l : List α} (e : l.map f = l.map g) {a : α} (h : a ∈ l) : f a = g a := List.map_inj_left.mp e a h
noncomputable def tqOf (P : Addr) : Str := if P = 66 then (fnName sI2d ++ ".<locals>.") ++ Str.ofString "inner" else if P = 73 then (fnName sD2i ++ ".<locals>.") ++ Str.ofString "inner" else (fnName sOrdered ++ ".<locals>.") ++ Str.ofString "<lambda>"
structure Seen (h₀ : Heap) : Prop where
  gl : ∀ p ∈ GL, glSees (hideAll h₀ tabP) p.1 = some p.2
  lim : (match glSees (hideAll h₀ tabP) (Str.ofString "_DIV_LIMIT") with | some (.int i _) => some i | _ => none) = some 4000
  bl : bools (hideAll h₀ tabP) = [true, true, true, true, true, true, true]
  pl : ∀ p ∈ fnP, noCode (fnSees (hideAll h₀ tabP) p.1) = some (fdP p.2 .none .none .none, some (fnName p.2))
  df : ∀ p ∈ fnD, noCode (fnSees (hideAll h₀ tabP) p.1) = some (fdD p.2.1 .none .none .none p.2.2.1 p.2.2.2, some (fnName p.2.1))
  df2 : ∀ p ∈ fnD, dflSees (hideAll h₀ tabP) p.2.2.1 p.2.2.2 = true
  tb : ∀ p ∈ fnT, fnSees (hideAll h₀ tabP) p.1 = some (fdP p.2.1 .none .none .none, .ref p.2.2, some (fnName p.2.1))
  hd : ∀ p ∈ tabL, hdSees (hideAll h₀ tabP) p.1 p.2 = true
  tab : ∀ P ∈ tabP, h₀.get? P = some (tabObj #[])
theorem Seen.of {h₀ : Heap} (e : sees h₀ (hideAll h₀ tabP) = seen') : Seen h₀ := by
  unfold sees seen' at e
  simp only [Prod.mk.injEq] at e
  obtain ⟨e1, e2, e3, e4, e5, e6, e7, e8, e9⟩ := e
  exact ⟨fun p hp => map_at e1 hp, e2, e3, fun p hp => map_at e4 hp, fun p hp => map_at e5 hp, fun p hp => map_at e6 hp, fun p hp => map_at e7 hp, fun p hp => map_at e8 hp, fun p hp => map_at e9 hp⟩
section
variable {h₀ : Heap} (S : Seen h₀)
include S
theorem Seen.b (i : Nat) (hi : i < 7 := by decide) : (bools (hideAll h₀ tabP))[i]? = some true := by
  rw [S.bl]
  match i, hi with
  | 0, _ => rfl
  | 1, _ => rfl
  | 2, _ => rfl
  | 3, _ => rfl
  | 4, _ => rfl
  | 5, _ => rfl
  | 6, _ => rfl
/- the run's constants -/
noncomputable def Seen.cx (w : World) : Cx where
  prog := pw
  w := w
  H := hideAll h₀ tabP
  mg := (hideAll h₀ tabP).nsMap mainGlobals
  mb := (hideAll h₀ tabP).nsMap builtinsNs
  tabs := tabL
  tq := tqOf
  hg := .of_isNs (Option.some.inj (S.b 1))
  hb := .of_isNs (Option.some.inj (S.b 2))
  lim := ⟨_, .of_isNs (Option.some.inj (S.b 3)), Option.isNone_iff_eq_none.mp (Option.some.inj (S.b 4))⟩
  tabsH := fun q hq => ⟨hdSees.of (S.hd q hq), hideAll_none _ (List.mem_map_of_mem (f := (·.2)) hq)⟩
  tabsN := by decide
  bm := bmSees.of (Option.some.inj (S.b 6))
omit S in
theorem noCode.of {x : Option (FuncData × Value × Option Str)} {fd : FuncData} {q : Option Str} (e : noCode x = some (fd, q)) : ∃ c, x = some (fd, c, q) := by
  unfold noCode at e
  cases x with
  | none => cases e
  | some y => obtain ⟨a, b, c⟩ := y; simp only [Option.map_some, Option.some.injEq, Prod.mk.injEq] at e; obtain ⟨rfl, rfl⟩ := e; exact ⟨b, rfl⟩
theorem Seen.plain (w : World) {a : Addr} {st : Stmt} (hm : (a, st) ∈ fnP) : ∃ fd, DefP (S.cx w) a st fd := by
  obtain ⟨c, e⟩ := noCode.of (S.pl _ hm)
  obtain ⟨o, pm, doc, ho, hd, hc⟩ := fnSees.of e
  exact ⟨fdP st pm c doc, ⟨⟨o, ho, hd⟩, hc, rfl, rfl, rfl, rfl, rfl⟩, pm, c, doc, rfl⟩
theorem Seen.dflt (w : World) {a d k : Addr} {st : Stmt} (hm : (a, st, d, k) ∈ fnD) : ∃ fd, DefD (S.cx w) a st fd := by
  obtain ⟨c, e⟩ := noCode.of (S.df _ hm)
  obtain ⟨o, pm, doc, ho, hd, hc⟩ := fnSees.of e
  obtain ⟨h1, h2⟩ := dflSees.of (S.df2 _ hm)
  exact ⟨fdD st pm c doc d k, ⟨⟨o, ho, hd⟩, hc, rfl, rfl, rfl, rfl, rfl⟩, pm, c, doc, d, k, rfl, h1, h2⟩
theorem Seen.tabd (w : World) {a c P : Addr} {st : Stmt} {nm : Str} (hm : (a, st, c) ∈ fnT) (hm2 : (c, P) ∈ tabL) (hq : tqOf P = (fnName st ++ ".<locals>.") ++ nm) : ∃ fd, DefT (S.cx w) a st fd c P nm := by
  obtain ⟨o, pm, doc, ho, hd, hc⟩ := fnSees.of (S.tb _ hm)
  exact ⟨fdP st pm (.ref c) doc, ⟨⟨⟨o, ho, hd⟩, hc, rfl, rfl, rfl, rfl, rfl⟩, pm, .ref c, doc, rfl⟩, rfl, hm2, hq⟩
theorem Seen.px (w : World) : PX (S.cx w) where
  gl := fun x v e => glSees.of (S.gl (x, v) (mem_of_lookup e))
  bisL := S.dflt w (a := 50) (st := sBisL) (d := 42) (k := 43) (by simp [fnD])
  bisR := S.dflt w (a := 32) (st := sBisR) (d := 24) (k := 25) (by simp [fnD])
  insL := S.dflt w (a := 41) (st := sInsL) (d := 33) (k := 34) (by simp [fnD])
  insR := S.dflt w (a := 23) (st := sInsR) (d := 15) (k := 16) (by simp [fnD])
  d2n := S.plain w (by simp [fnP])
  tab := by
    obtain ⟨a, e, T⟩ := tabInt_of_ok (prog := pw) (w := w) (Option.some.inj (S.b 0))
    have e2 := S.gl (Str.ofString "COMPILER_FLAG_NAMES", .ref 93) (mem_of_lookup (by rfl))
    have e3 : glSees (hideAll h₀ tabP) (Str.ofString "COMPILER_FLAG_NAMES") = some (.ref a) := by unfold glSees; rw [e]
    rw [e3] at e2
    cases e2
    exact T
  lim := by
    have e := S.lim
    split at e
    · rename_i i t h
      cases e
      exact ⟨t, glSees.of h⟩
    · cases e
  i2d := S.tabd w (a := 71) (c := 70) (P := 66) (st := sI2d) (by simp [fnT]) (by simp [tabL]) rfl
  d2i := S.tabd w (a := 78) (c := 77) (P := 73) (st := sD2i) (by simp [fnT]) (by simp [tabL]) rfl
  dpos := S.plain w (by simp [fnP])
  divm := S.plain w (by simp [fnP])
  flags := S.plain w (by simp [fnP])
  varint := S.plain w (by simp [fnP])
  cells := S.plain w (by simp [fnP])
  octets := S.plain w (by simp [fnP])
  read := S.plain w (by simp [fnP])
  ordered := S.tabd w (a := 133) (c := 132) (P := 128) (st := sOrdered) (by simp [fnT]) (by simp [tabL]) rfl
  words := S.plain w (by simp [fnP])
  sketch := S.plain w (by simp [fnP])
  found := S.plain w (by simp [fnP])
  refused := S.plain w (by simp [fnP])
theorem Seen.law (w : World) : ∃ fd, DefP (S.cx w) 160 sLaw fd := S.plain w (by simp [fnP])
theorem Seen.lawAt (w : World) : (S.cx w).mg (Str.ofString "law") = some (.ref 160) := refAt.of (Option.some.inj (S.b 5))
end
theorem repsInts {F : Ghost} : ∀ {ns : List Int} {vs : List Value}, IntsAre vs ns → Reps F (ns.map AV.int) vs
  | _, _, .nil => rNil
  | _, _, .cons n t h => rCons rInt (repsInts h)
/- the statement from the law's contract -/
theorem joinLaw {D : Nat} (hD : D ≤ 600) (hlaw : ∀ C : Cx, PX C → (∃ fd, DefP C 160 sLaw fd) → ∀ F (ns : List Int), ns.length ≤ 63 → FnS C D F (.ref 160) [.list (ns.map .int)] [] (.bool true)) : PySem.Challenge.rw_rs0182_01.Holds := holdsLaw (by
  intro w s₀ s₁ mg mb G Y a o pm cd doc dV kV ho hd hcd hD' hmg hg args vals as hpre hlay hrd hwl hlo
  wrow_args hpre hlay hrd hwl hlo
  rename_i ns _ _ _ _ _ _ _ l vs _ hL _ _ _ hI _ hc _
  obtain ⟨h₀, e, k⟩ := Y
  have S := Seen.of e
  have hgl : s₁.heap.Ns mainGlobals (S.cx w).mg := (S.cx w).hg.keeps fun b o q => k b o (of_hideAll _ q)
  have emg : mg = (S.cx w).mg := by rw [G.T.g.eq_nsMap, hgl.eq_nsMap]
  have ea : mg (Str.ofString "law") = some (.ref a) := hmg
  rw [emg, S.lawAt w] at ea
  cases ea
  have hT : ∀ P ∈ tabP, s₁.heap.get? P = some (tabObj #[]) := fun P hP => k _ _ (S.tab P hP)
  classical
  let F : Ghost := fun b => if b ∈ tabP then none else s₁.heap.get? b
  have hF : ∀ b o, F b = some o → s₁.heap.get? b = some o := fun b o q => by
    by_cases hb : b ∈ tabP
    · simp only [F, if_pos hb] at q; cases q
    · simp only [F, if_neg hb] at q; exact q
  have hF2 : ∀ b o, b ∉ tabP → s₁.heap.get? b = some o → F b = some o := fun b o hb q => by simp only [F, if_neg hb]; exact q
  have ok : Ok (S.cx w) F s₁ := {
    base := fun b o q => hF2 b o (fun hb => by
      have : (hideAll h₀ tabP).get? b = none := hideAll_none _ hb
      have q' : (hideAll h₀ tabP).get? b = some o := q
      rw [this] at q'; cases q') (k b o (of_hideAll _ q))
    sub := hF
    gens := hg
    tabF := fun P hP => by
      have hP' : P ∈ tabP := hP
      simp only [F, if_pos hP']
    tabs := fun P hP => ⟨#[], hT P hP, by simp [TriplesOk], fun pos cv q => by simp [codeAmong] at q⟩ }
  obtain ⟨oL, hoL, hcL, nL, hdL⟩ := hL
  have hl : l ∉ tabP := fun q => by
    have := hT l q
    rw [hoL] at this
    cases this
    cases hcL
  have rep : Reps F [.list (ns.map .int)] [.ref l] := rCons (rLst ⟨oL, nL, hF2 _ _ hl hoL, hcL, hdL⟩ (repsInts hI)) rNil
  have room : Room callerA D := ⟨rfl, by show 1 + claimMargin + D ≤ 990; unfold claimMargin; omega, by show 4 + 10 * D ≤ 9800; omega⟩
  have hn : ns.length ≤ 63 := by omega
  refine wpAny_mono ((hlaw (S.cx w) (S.px w) (S.law w) F ns hn).h F s₁ callerA [] [] [.ref l] [] (GLe.refl F) ok room ⟨rfl, fun _ q => nomatch q⟩ (fun _ q => nomatch q) rep Binds.nil) (fun v s' ⟨F', g, r⟩ => ?_) fun _ _ q => q.elim
  obtain rfl := r.oval
  refine ⟨.inl ⟨_, .bool true, [], rfl, fun _ => rfl, .bool _, by wrow_post, fun _ => ⟨List.nodup_nil, fun _ q => nomatch q⟩⟩, ⟨fun b o e => ?_, fun b o e => ?_⟩, g.os, .of_eq g.ok.gens⟩
  · by_cases hb : b ∈ tabP
    · have e1 := hT b hb
      rw [e] at e1; cases e1
      obtain ⟨ps, e2, _⟩ := g.ok.tabs b hb
      obtain ⟨q, hq, rfl⟩ := List.mem_map.mp (show b ∈ tabL.map (·.2) from hb)
      have hcd := (((S.cx w).tabsH q hq).1.keeps fun b o q => k b o (of_hideAll _ q)).tab (hT _ hb)
      exact .inr (.inl ⟨hcd.isCodeTable, rfl, #[], ps, rfl, by rw [e2]; simp [tabObj]⟩)
    · exact .inl (g.ok.sub _ _ (g.le _ _ (hF2 b o hb e)))
  · by_cases hb : b ∈ tabP
    · obtain ⟨ps, e2, _⟩ := g.ok.tabs b hb
      exact ⟨_, e2⟩
    · exact ⟨o, g.ok.sub _ _ (g.le _ _ (hF2 b o hb e))⟩)
/- the statement -/
theorem joined : PySem.Challenge.rw_rs0182_01.Holds := joinLaw (D := 140) (by decide) fun C P DL F ns hn => lawAll P DL (by first | assumption | decide | omega)
end Mine

theorem PySem.Challenge.cw_rs0182_01_holds : PySem.Challenge.rw_rs0182_01.Holds :=
  Mine.joined
