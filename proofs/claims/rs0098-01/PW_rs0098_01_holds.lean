import PyProof.Rows.All
import Wide.All
import OpenK.AllK
import Wide.FinOn
import Lean
import PySem.Challenge.RW_rs0098_01
set_option Elab.async false
set_option maxRecDepth 100000
set_option linter.unusedVariables false

section
open PySem PySem.W PyProof.Rows
set_option Elab.async false
set_option linter.unusedVariables false
namespace Mine

noncomputable abbrev tupO (vs : List Value) (n : Nat) : Obj := { cls := .type "tuple", data := .seq vs.toArray n }
noncomputable abbrev lstO (vs : List Value) (n : Nat) : Obj := { cls := .type "list", data := .seq vs.toArray n }

mutual
inductive Rp (X : List Addr) (h : Heap) : Value → Dat → Prop
  | none : Rp X h .none .none
  | bool (b : Bool) : Rp X h (.bool b) (.bool b)
  | int (i : Int) (t : Tok) : Rp X h (.int i t) (.int i)
  | str (x : Str) (t : Tok) : Rp X h (.str x t) (.str x)
  | bytes (b : Array UInt8) (t : Tok) : Rp X h (.bytes b t) (.bytes b)
  | tuple {a : Addr} {vs : List Value} {n : Nat} {ds : List Dat} : h.get? a = some (tupO vs n) → a ∉ X → RpAll X h vs ds → Rp X h (.ref a) (.tuple ds)
  | list {a : Addr} {vs : List Value} {n : Nat} {ds : List Dat} : h.get? a = some (lstO vs n) → a ∉ X → RpAll X h vs ds → Rp X h (.ref a) (.list ds)
inductive RpAll (X : List Addr) (h : Heap) : List Value → List Dat → Prop
  | nil : RpAll X h [] []
  | cons {v : Value} {vs : List Value} {d : Dat} {ds : List Dat} : Rp X h v d → RpAll X h vs ds → RpAll X h (v :: vs) (d :: ds)
end

/-- what is no list and no tuple is in no datum -/
noncomputable def Seqy (o : Obj) : Prop := (∃ vs n, o = tupO vs n) ∨ (∃ vs n, o = lstO vs n)

mutual
theorem Rp.mono {X : List Addr} {h h' : Heap} (hk : ∀ b o, b ∉ X → Seqy o → h.get? b = some o → h'.get? b = some o) : ∀ {v : Value} {d : Dat}, Rp X h v d → Rp X h' v d
  | _, _, .none => .none
  | _, _, .bool b => .bool b
  | _, _, .int i t => .int i t
  | _, _, .str x t => .str x t
  | _, _, .bytes b t => .bytes b t
  | _, _, .tuple e ha r => .tuple (hk _ _ ha (.inl ⟨_, _, rfl⟩) e) ha (RpAll.mono hk r)
  | _, _, .list e ha r => .list (hk _ _ ha (.inr ⟨_, _, rfl⟩) e) ha (RpAll.mono hk r)
theorem RpAll.mono {X : List Addr} {h h' : Heap} (hk : ∀ b o, b ∉ X → Seqy o → h.get? b = some o → h'.get? b = some o) : ∀ {vs : List Value} {ds : List Dat}, RpAll X h vs ds → RpAll X h' vs ds
  | _, _, .nil => .nil
  | _, _, .cons a r => .cons (Rp.mono hk a) (RpAll.mono hk r)
end
mutual
theorem Rp.fresh {X : List Addr} {h : Heap} {a : Addr} (ha : h.get? a = none) : ∀ {v : Value} {d : Dat}, Rp X h v d → Rp (a :: X) h v d
  | _, _, .none => .none
  | _, _, .bool b => .bool b
  | _, _, .int i t => .int i t
  | _, _, .str x t => .str x t
  | _, _, .bytes b t => .bytes b t
  | _, _, .tuple e hx r => .tuple e (fun hm => by rcases List.mem_cons.mp hm with rfl | hm; · rw [ha] at e; cases e
                                                  · exact hx hm) (RpAll.fresh ha r)
  | _, _, .list e hx r => .list e (fun hm => by rcases List.mem_cons.mp hm with rfl | hm; · rw [ha] at e; cases e
                                                · exact hx hm) (RpAll.fresh ha r)
theorem RpAll.fresh {X : List Addr} {h : Heap} {a : Addr} (ha : h.get? a = none) : ∀ {vs : List Value} {ds : List Dat}, RpAll X h vs ds → RpAll (a :: X) h vs ds
  | _, _, .nil => .nil
  | _, _, .cons x r => .cons (Rp.fresh ha x) (RpAll.fresh ha r)
end
mutual
theorem Rp.weaken {X Y : List Addr} {h : Heap} (hs : ∀ a ∈ Y, a ∈ X) : ∀ {v : Value} {d : Dat}, Rp X h v d → Rp Y h v d
  | _, _, .none => .none
  | _, _, .bool b => .bool b
  | _, _, .int i t => .int i t
  | _, _, .str x t => .str x t
  | _, _, .bytes b t => .bytes b t
  | _, _, .tuple e hx r => .tuple e (fun hm => hx (hs _ hm)) (RpAll.weaken hs r)
  | _, _, .list e hx r => .list e (fun hm => hx (hs _ hm)) (RpAll.weaken hs r)
theorem RpAll.weaken {X Y : List Addr} {h : Heap} (hs : ∀ a ∈ Y, a ∈ X) : ∀ {vs : List Value} {ds : List Dat}, RpAll X h vs ds → RpAll Y h vs ds
  | _, _, .nil => .nil
  | _, _, .cons x r => .cons (Rp.weaken hs x) (RpAll.weaken hs r)
end

section
variable {X : List Addr} {h h' : Heap}
theorem Rp.keep (hk : ∀ b o, h.get? b = some o → h'.get? b = some o) {v : Value} {d : Dat} (r : Rp X h v d) : Rp X h' v d := r.mono fun b o _ _ e => hk b o e
theorem RpAll.keep (hk : ∀ b o, h.get? b = some o → h'.get? b = some o) {vs : List Value} {ds : List Dat} (r : RpAll X h vs ds) : RpAll X h' vs ds := r.mono fun b o _ _ e => hk b o e
theorem RpAll.length : ∀ {vs : List Value} {ds : List Dat}, RpAll X h vs ds → vs.length = ds.length
  | _, _, .nil => rfl
  | _, _, .cons _ r => by rw [List.length_cons, List.length_cons, RpAll.length r]
theorem RpAll.append : ∀ {vs ws : List Value} {ds es : List Dat}, RpAll X h vs ds → RpAll X h ws es → RpAll X h (vs ++ ws) (ds ++ es)
  | _, _, _, _, .nil, k => k
  | _, _, _, _, .cons a r, k => .cons a (RpAll.append r k)
theorem RpAll.get : ∀ {vs : List Value} {ds : List Dat} {k : Nat} {d : Dat}, RpAll X h vs ds → ds[k]? = some d → ∃ v, vs[k]? = some v ∧ Rp X h v d
  | _, _, 0, _, .cons a r, e => by cases e; exact ⟨_, rfl, a⟩
  | _, _, k + 1, _, .cons a r, e => by
    simp only [List.getElem?_cons_succ] at e ⊢
    exact RpAll.get r e
theorem RpAll.take : ∀ {vs : List Value} {ds : List Dat} (k : Nat), RpAll X h vs ds → RpAll X h (vs.take k) (ds.take k)
  | _, _, 0, _ => by simp only [List.take_zero]; exact .nil
  | _, _, _ + 1, .nil => by simp only [List.take_nil]; exact .nil
  | _, _, k + 1, .cons a r => by simp only [List.take_succ_cons]; exact .cons a (RpAll.take k r)
theorem RpAll.drop : ∀ {vs : List Value} {ds : List Dat} (k : Nat), RpAll X h vs ds → RpAll X h (vs.drop k) (ds.drop k)
  | _, _, 0, r => r
  | _, _, _ + 1, .nil => by simp only [List.drop_nil]; exact .nil
  | _, _, k + 1, .cons a r => by simp only [List.drop_succ_cons]; exact RpAll.drop k r
theorem RpAll.one {v : Value} {d : Dat} (a : Rp X h v d) : RpAll X h [v] [d] := .cons a .nil
theorem Rp.push {o : Obj} {v : Value} {d : Dat} (r : Rp X h v d) : Rp X (h.push o) v d := r.keep fun _ _ e => Heap.get?_push_of_some _ e
theorem RpAll.push {o : Obj} {vs : List Value} {ds : List Dat} (r : RpAll X h vs ds) : RpAll X (h.push o) vs ds := r.keep fun _ _ e => Heap.get?_push_of_some _ e
theorem fresh_not_in (live : ∀ a ∈ X, ∃ o, h.get? a = some o) : h.objs.size ∉ X := fun hm => by
  obtain ⟨o, e⟩ := live _ hm
  exact Nat.lt_irrefl _ (Heap.lt_size e)
theorem fresh_none (h : Heap) : h.get? h.objs.size = none := by
  cases e : h.get? h.objs.size with
  | none => rfl
  | some o => exact absurd (Heap.lt_size e) (Nat.lt_irrefl _)
/-- a new list -/
theorem Rp.newList {vs : List Value} {ds : List Dat} (r : RpAll X h vs ds) (live : ∀ a ∈ X, ∃ o, h.get? a = some o) : Rp X (h.push { cls := .type "list", data := .seq vs.toArray }) (.ref h.objs.size) (.list ds) :=
  .list (n := 0) (Heap.get?_push_size _ rfl) (fresh_not_in live) r.push
theorem Rp.newTuple {vs : List Value} {ds : List Dat} (r : RpAll X h vs ds) (live : ∀ a ∈ X, ∃ o, h.get? a = some o) : Rp X (h.push { cls := .type "tuple", data := .seq vs.toArray }) (.ref h.objs.size) (.tuple ds) :=
  .tuple (n := 0) (Heap.get?_push_size _ rfl) (fresh_not_in live) r.push
end

structure Kp (s s' : Shared) : Prop where
  heap : ∀ b o, s.heap.get? b = some o → s'.heap.get? b = some o
  gens : ∃ l : List GenState, s'.gens = s.gens ++ l.toArray ∧ ∀ g ∈ l, g.bare = true
  os : s'.os = s.os

theorem Kp.refl (s : Shared) : Kp s s := ⟨fun _ _ e => e, ⟨[], by simp, fun _ h => nomatch h⟩, rfl⟩
theorem Kp.trans {s s' s'' : Shared} (a : Kp s s') (b : Kp s' s'') : Kp s s'' := by
  refine ⟨fun x o e => b.heap x o (a.heap x o e), ?_, b.os.trans a.os⟩
  obtain ⟨l, e, hl⟩ := a.gens
  obtain ⟨l', e', hl'⟩ := b.gens
  refine ⟨l ++ l', ?_, fun g hg => ?_⟩
  · rw [e', e, Array.append_assoc]; simp
  · rcases List.mem_append.mp hg with h | h
    · exact hl g h
    · exact hl' g h
theorem Kp.of_heap {s : Shared} {h' : Heap} {tk : Nat} (k : ∀ b o, s.heap.get? b = some o → h'.get? b = some o) : Kp s { s with heap := h', toks := tk } := ⟨k, ⟨[], by simp, fun _ h => nomatch h⟩, rfl⟩
theorem Kp.tok {s : Shared} {tk : Nat} : Kp s { s with toks := tk } := ⟨fun _ _ e => e, ⟨[], by simp, fun _ h => nomatch h⟩, rfl⟩
theorem Kp.push {s : Shared} {o : Obj} : Kp s { s with heap := s.heap.push o } := ⟨fun _ _ e => Heap.get?_push_of_some _ e, ⟨[], by simp, fun _ h => nomatch h⟩, rfl⟩
theorem Kp.of_keeps {s s' : Shared} (k : Keeps s s') : Kp s s' := by
  obtain ⟨h', tk, rfl, hk⟩ := k
  exact Kp.of_heap hk

end Mine

end

section
open PySem PySem.W PyProof.Rows
set_option Elab.async false
set_option linter.unusedVariables false
namespace Mine

structure TopT where
  G : Str → Option Value
  K : List (Addr × Obj)

structure TopT.In (T : TopT) (h : Heap) : Prop where
  glob : ∃ mg mb, h.Ns mainGlobals mg ∧ h.Ns builtinsNs mb ∧ ∀ x v, T.G x = some v → mg x = some v ∨ (mg x = none ∧ mb x = some v)
  lim : h.NoLimit
  objs : ∀ p ∈ T.K, h.get? p.1 = some p.2

theorem TopT.In.keep {T : TopT} {h h' : Heap} (t : T.In h) (hk : ∀ b o, h.get? b = some o → h'.get? b = some o) : T.In h' := by
  obtain ⟨mg, mb, h1, h2, h3⟩ := t.glob
  exact ⟨⟨mg, mb, h1.keeps hk, h2.keeps hk, h3⟩, t.lim.keeps hk, fun p hp => hk _ _ (t.objs p hp)⟩

structure AOk (n : Nat) (A : Around) : Prop where
  handled : A.handled = none
  depth : A.depth + n < 900
  units : A.units + 10 * n + 200 < 9900

noncomputable def Sto (env : Env) (h : Heap) (σ : Str → Option Value) : Prop :=
  (∃ m, h.Ns env.locals m ∧ ∀ x, env.kindOf x = some .local → m x = σ x) ∧
  (∀ x c, (env.kindOf x = some .cell ∨ env.kindOf x = some .free) → env.cells.lookup x = some c → h.IsCell c (σ x))

theorem Sto.keep {env : Env} {h h' : Heap} {σ : Str → Option Value} (x : Sto env h σ) (hk : ∀ b o, h.get? b = some o → h'.get? b = some o) : Sto env h' σ := by
  obtain ⟨⟨m, h1, h2⟩, h3⟩ := x
  exact ⟨⟨m, h1.keeps hk, h2⟩, fun y c hy hc => (h3 y c hy hc).keeps hk⟩

structure WfE (env : Env) : Prop where
  fn : env.scope.kind = .function
  gl : env.globals = mainGlobals
  bi : env.builtins = builtinsNs
  cl : ∀ x, (env.kindOf x = some .cell ∨ env.kindOf x = some .free) → ∃ c, env.cells.lookup x = some c
  inj : env.cells.Pairwise fun x y => x.2 ≠ y.2

structure Fm where
  prog : Program
  w : World
  T : TopT
  n : Nat
  A : Around
  env : Env
  base : Shared
  X : List Addr
  ρ : Str → Option Dat
  mt : Str → Option (Addr × List Dat)
  wc : List Str
  wm : List Str
  pin : List (Addr × Obj)
  gpin : List (Nat × GenState)

/-- an object that no store of a name touches -/
noncomputable def Fx (o : Obj) : Prop := (∀ es ep, o.data ≠ .dict es ep) ∧ ∀ v, o.data ≠ .cell v

structure Fm.Ok (F : Fm) (s : Shared) : Prop where
  aok : AOk F.n F.A
  wf : WfE F.env
  off : F.base.heap.get? F.env.locals = none
  cof : ∀ x ∈ F.wc, ∀ c, F.env.cells.lookup x = some c → F.base.heap.get? c = none
  kp : Kp F.base s
  top0 : F.T.In F.base.heap
  live : ∀ a ∈ F.X, ∃ o, s.heap.get? a = some o
  pins : ∀ p ∈ F.pin, s.heap.get? p.1 = some p.2 ∧ p.1 ∉ F.X ∧ Fx p.2
  gpins : ∀ p ∈ F.gpin, s.gens[p.1]? = some p.2
  sto : ∃ σ, Sto F.env s.heap σ ∧ (∀ x d, F.ρ x = some d → ∃ v, σ x = some v ∧ Rp F.X s.heap v d) ∧
    (∀ x a ds, F.mt x = some (a, ds) → σ x = some (.ref a) ∧ a ∈ F.X ∧ (x ∈ F.wm → F.base.heap.get? a = none) ∧ ∃ vs n, s.heap.get? a = some (lstO vs n) ∧ RpAll F.X s.heap vs ds) ∧
    (∀ x y a ds es, F.mt x = some (a, ds) → F.mt y = some (a, es) → x = y)

theorem Fm.Ok.top {F : Fm} {s : Shared} (o : F.Ok s) : F.T.In s.heap := o.top0.keep o.kp.heap

theorem gens_keep {s s' : Shared} (k : Kp s s') {g : Nat} {x : GenState} (e : s.gens[g]? = some x) : s'.gens[g]? = some x := by
  obtain ⟨l, e', _⟩ := k.gens
  rw [e', Array.getElem?_append_left (Array.getElem?_eq_some_iff.mp e).1]
  exact e

theorem Fm.Ok.keep {F : Fm} {s s' : Shared} (o : F.Ok s) (k : Kp s s') : F.Ok s' := by
  obtain ⟨σ, h1, h2, h3, h4⟩ := o.sto
  refine ⟨o.aok, o.wf, o.off, o.cof, o.kp.trans k, o.top0, fun a ha => ?_, fun p hp => ⟨k.heap _ _ (o.pins p hp).1, (o.pins p hp).2⟩, fun p hp => gens_keep k (o.gpins p hp), σ, h1.keep k.heap, fun x d e => ?_, fun x a ds e => ?_, h4⟩
  · obtain ⟨ob, e⟩ := o.live a ha
    exact ⟨ob, k.heap _ _ e⟩
  · obtain ⟨v, e1, e2⟩ := h2 x d e
    exact ⟨v, e1, e2.keep k.heap⟩
  · obtain ⟨e1, e2, e3, vs, n, e4, e5⟩ := h3 x a ds e
    exact ⟨e1, e2, e3, vs, n, k.heap _ _ e4, e5.keep k.heap⟩

noncomputable def Ev (F : Fm) (e : Expr) (d : Dat) : Prop := ∀ s, F.Ok s → ∀ (Q : Value → Shared → Prop) (E : Value → Shared → Prop),
  (∀ v s', Kp s s' → Rp F.X s'.heap v d → Q v s') → wpAny (model F.prog F.w) F.A (eval e F.env) Q E s

noncomputable def Tst (F : Fm) (e : Expr) (b : Bool) : Prop := ∀ s, F.Ok s → ∀ (Q : Bool → Shared → Prop) (E : Value → Shared → Prop),
  (∀ s', Kp s s' → Q b s') → wpAny (model F.prog F.w) F.A (isTrue e F.env (eval e F.env)) Q E s

/-- a list of argument expressions, none starred -/
noncomputable def EvL (F : Fm) (pos : Pos) (es : List Expr) (ds : List Dat) : Prop := ∀ s, F.Ok s → ∀ (Q : List Value → Shared → Prop) (E : Value → Shared → Prop),
  (∀ vs s', Kp s s' → RpAll F.X s'.heap vs ds → Q vs s') → wpAny (model F.prog F.w) F.A (spliced (backTo pos (starEach es F.env))) Q E s

section
variable {F : Fm}

theorem EvL.nil {pos : Pos} : EvL F pos [] [] := fun s _ Q E k => Calls.spliced_nil (k [] s (Kp.refl s) .nil)
noncomputable def notStar : Expr → Bool
  | .Starred .. => false
  | _ => true
theorem EvL.cons {pos : Pos} {e : Expr} {es : List Expr} {d : Dat} {ds : List Dat} (h : Ev F e d) (hs : EvL F pos es ds) (hn : notStar e = true := by rfl) : EvL F pos (e :: es) (d :: ds) := by
  intro s o Q E k
  have he : backTo pos (starEach (e :: es) F.env) = (false, eval e F.env) :: backTo pos (starEach es F.env) := by
    cases e <;> first | (cases hn; done) | with_unfolding_all rfl | (simp only [starEach, backTo]; rfl)
  rw [he]
  refine Calls.spliced_cons (h s o _ _ fun v s₁ k₁ r₁ => ?_)
  exact hs s₁ (o.keep k₁) _ _ fun vs s₂ k₂ r₂ => k (v :: vs) s₂ (k₁.trans k₂) (.cons (r₁.keep k₂.heap) r₂)

theorem Ev.int {i : Int} {k : Nat} {p : Pos} : Ev F (.Constant (.int i) k p) (.int i) := fun s _ Q E kk => wpAny_Constant_int (kk _ _ Kp.tok (.int _ _))
theorem Ev.str {x : Str} {k : Nat} {p : Pos} : Ev F (.Constant (.str x) k p) (.str x) := fun s _ Q E kk => wpAny_Constant_str (kk _ _ Kp.tok (.str _ _))
theorem Ev.non {k : Nat} {p : Pos} : Ev F (.Constant .none k p) .none := fun s _ Q E kk => wpAny_Constant_none (kk _ _ (Kp.refl s) .none)
theorem Ev.bool {b : Bool} {k : Nat} {p : Pos} : Ev F (.Constant (.bool b) k p) (.bool b) := fun s _ Q E kk => wpAny_Constant_bool (kk _ _ (Kp.refl s) (.bool b))

theorem Ev.name_local {x : Str} {p : Pos} {d : Dat} (hv : F.ρ x = some d) (hl : F.env.kindOf x = some .local) (hd : (x == ("__debug__" : Str)) = false) : Ev F (.Name x p) d := by
  intro s o Q E k
  obtain ⟨σ, ⟨⟨m, h1, h2⟩, _⟩, h3, _⟩ := o.sto
  obtain ⟨v, e1, e2⟩ := h3 x d hv
  exact wpAny_Name (wpAny_loadName_local o.wf.fn hl h1 ((h2 x hl).trans e1) (k v s (Kp.refl s) e2)) hd
theorem Ev.name_cell {x : Str} {p : Pos} {d : Dat} (hv : F.ρ x = some d) (hl : F.env.kindOf x = some .cell) (hd : (x == ("__debug__" : Str)) = false) : Ev F (.Name x p) d := by
  intro s o Q E k
  obtain ⟨σ, ⟨_, h2⟩, h3, _⟩ := o.sto
  obtain ⟨v, e1, e2⟩ := h3 x d hv
  obtain ⟨c, hc⟩ := o.wf.cl x (.inl hl)
  exact wpAny_Name (wpAny_loadName_cell o.wf.fn hl hc (e1 ▸ h2 x c (.inl hl) hc) (k v s (Kp.refl s) e2)) hd
theorem Ev.name_free {x : Str} {p : Pos} {d : Dat} (hv : F.ρ x = some d) (hl : F.env.kindOf x = some .free) (hd : (x == ("__debug__" : Str)) = false) (hn : (x == ("__classdict__" : Str)) = false) : Ev F (.Name x p) d := by
  intro s o Q E k
  obtain ⟨σ, ⟨_, h2⟩, h3, _⟩ := o.sto
  obtain ⟨v, e1, e2⟩ := h3 x d hv
  obtain ⟨c, hc⟩ := o.wf.cl x (.inr hl)
  exact wpAny_Name (wpAny_loadName_free o.wf.fn hl hc (e1 ▸ h2 x c (.inr hl) hc) (k v s (Kp.refl s) e2) hn) hd

theorem name_mut {x : Str} {p : Pos} {a : Addr} {ds : List Dat} (hv : F.mt x = some (a, ds)) (hl : F.env.kindOf x = some .local ∨ F.env.kindOf x = some .cell ∨ F.env.kindOf x = some .free)
    (hd : (x == ("__debug__" : Str)) = false) (hn : (x == ("__classdict__" : Str)) = false) {s : Shared} (o : F.Ok s) {Q : Value → Shared → Prop} {E : Value → Shared → Prop}
    (k : ∀ vs n, s.heap.get? a = some (lstO vs n) → RpAll F.X s.heap vs ds → Q (.ref a) s) : wpAny (model F.prog F.w) F.A (eval (.Name x p) F.env) Q E s := by
  obtain ⟨σ, ⟨⟨m, h1, h1'⟩, h2⟩, _, h4, _⟩ := o.sto
  obtain ⟨e1, _, _, vs, n, e2, e3⟩ := h4 x a ds hv
  rcases hl with hl | hl | hl
  · exact wpAny_Name (wpAny_loadName_local o.wf.fn hl h1 ((h1' x hl).trans e1) (k vs n e2 e3)) hd
  · obtain ⟨c, hc⟩ := o.wf.cl x (.inl hl)
    exact wpAny_Name (wpAny_loadName_cell o.wf.fn hl hc (e1 ▸ h2 x c (.inl hl) hc) (k vs n e2 e3)) hd
  · obtain ⟨c, hc⟩ := o.wf.cl x (.inr hl)
    exact wpAny_Name (wpAny_loadName_free o.wf.fn hl hc (e1 ▸ h2 x c (.inr hl) hc) (k vs n e2 e3) hn) hd

/-- a name of the module or a built-in one -/
theorem name_glob {x : Str} {p : Pos} {v : Value} (hv : F.T.G x = some v) (hx : F.env.kindOf x = some .globalImplicit) (hd : (x == ("__debug__" : Str)) = false)
    {s : Shared} (o : F.Ok s) {Q : Value → Shared → Prop} {E : Value → Shared → Prop} (k : Q v s) : wpAny (model F.prog F.w) F.A (eval (.Name x p) F.env) Q E s := by
  obtain ⟨mg, mb, h1, h2, h3⟩ := o.top.glob
  rcases h3 x v hv with e | ⟨e1, e2⟩
  · exact Calls.Name_function_global o.wf.fn hx (Calls.loadGlobal_global (by rw [o.wf.gl]; exact h1) e k) hd
  · exact Calls.Name_function_global o.wf.fn hx (Calls.loadGlobal_builtin (by rw [o.wf.gl]; exact h1) e1 (by rw [o.wf.bi]; exact h2) e2 k) hd

theorem Ev.glob_str {x : Str} {p : Pos} {y : Str} {t : Tok} (hv : F.T.G x = some (.str y t)) (hx : F.env.kindOf x = some .globalImplicit) (hd : (x == ("__debug__" : Str)) = false) : Ev F (.Name x p) (.str y) :=
  fun s o Q E k => name_glob hv hx hd o (k _ s (Kp.refl s) (.str y t))
theorem Ev.glob_int {x : Str} {p : Pos} {y : Int} {t : Tok} (hv : F.T.G x = some (.int y t)) (hx : F.env.kindOf x = some .globalImplicit) (hd : (x == ("__debug__" : Str)) = false) : Ev F (.Name x p) (.int y) :=
  fun s o Q E k => name_glob hv hx hd o (k _ s (Kp.refl s) (.int y t))

theorem Ev.list {es : List Expr} {p : Pos} {ds : List Dat} (h : EvL F p es ds) (hsz : ds.length ≤ sizeLine := by decide) : Ev F (.List es p) (.list ds) := by
  intro s o Q E k
  refine wpAny_List (h s o _ _ fun vs s₁ k₁ r₁ => ⟨by rw [r₁.length]; exact hsz, ?_⟩)
  exact k _ _ (k₁.trans Kp.push) (Rp.newList r₁ (o.keep k₁).live)
theorem Ev.tuple {es : List Expr} {q : Nat} {p : Pos} {ds : List Dat} (h : EvL F p es ds) (hsz : ds.length ≤ sizeLine := by decide) : Ev F (.Tuple es q p) (.tuple ds) := by
  intro s o Q E k
  refine wpAny_Tuple (h s o _ _ fun vs s₁ k₁ r₁ => ⟨by rw [r₁.length]; exact hsz, ?_⟩)
  exact k _ _ (k₁.trans Kp.push) (Rp.newTuple r₁ (o.keep k₁).live)

/-- two operands -/
theorem Ev.bin {l r : Expr} {op : Operator} {p : Pos} {a b d : Dat} (hl : Ev F l a) (hr : Ev F r b)
    (hop : ∀ s, F.Ok s → ∀ va vb, Rp F.X s.heap va a → Rp F.X s.heap vb b → ∀ (Q : Value → Shared → Prop) (E : Value → Shared → Prop), (∀ v s', Kp s s' → Rp F.X s'.heap v d → Q v s') → wpAny (model F.prog F.w) F.A (binaryOp op va vb) Q E s) :
    Ev F (.BinOp l op r p) d := by
  intro s o Q E k
  refine wpAny_BinOp (hl s o _ _ fun va s₁ k₁ r₁ => hr s₁ (o.keep k₁) _ _ fun vb s₂ k₂ r₂ => ?_)
  exact hop s₂ ((o.keep k₁).keep k₂) va vb (r₁.keep k₂.heap) r₂ Q E fun v s₃ k₃ r₃ => k v s₃ ((k₁.trans k₂).trans k₃) r₃

theorem Ev.add {l r : Expr} {p : Pos} {a b : Int} (hl : Ev F l (.int a)) (hr : Ev F r (.int b)) : Ev F (.BinOp l .Add r p) (.int (a + b)) :=
  hl.bin hr fun s o va vb ra rb Q E k => by cases ra; cases rb; exact add_int (k _ _ Kp.tok (.int _ _))
theorem Ev.sub {l r : Expr} {p : Pos} {a b : Int} (hl : Ev F l (.int a)) (hr : Ev F r (.int b)) : Ev F (.BinOp l .Sub r p) (.int (a - b)) :=
  hl.bin hr fun s o va vb ra rb Q E k => by cases ra; cases rb; exact sub_int (k _ _ Kp.tok (.int _ _))
theorem Ev.mod {l r : Expr} {p : Pos} {a b : Int} (hl : Ev F l (.int a)) (hr : Ev F r (.int b)) (hb : b ≠ 0) : Ev F (.BinOp l .Mod r p) (.int (Int.fmod a b)) :=
  hl.bin hr fun s o va vb ra rb Q E k => by cases ra; cases rb; exact mod_int' hb (k _ _ Kp.tok (.int _ _))
theorem Ev.fdiv {l r : Expr} {p : Pos} {a b : Int} (hl : Ev F l (.int a)) (hr : Ev F r (.int b)) (hb : b ≠ 0) (hp : Builtin.divisionGoesByPylong a b = false) : Ev F (.BinOp l .FloorDiv r p) (.int (Int.fdiv a b)) :=
  hl.bin hr fun s o va vb ra rb Q E k => by cases ra; cases rb; exact floordiv_int hb (k _ _ Kp.tok (.int _ _)) (.inl hp)
theorem Ev.cat {l r : Expr} {p : Pos} {a b : Str} (hl : Ev F l (.str a)) (hr : Ev F r (.str b)) (hsz : a.length + b.length ≤ sizeLine) : Ev F (.BinOp l .Add r p) (.str (a ++ b)) :=
  hl.bin hr fun s o va vb ra rb Q E k => by cases ra; cases rb; exact add_str (fun t' tk => k _ _ Kp.tok (.str _ _)) hsz
end

end Mine

end

section
open PySem PySem.W PyProof.Rows
set_option Elab.async false
set_option linter.unusedVariables false
namespace Mine

mutual
noncomputable def noB : Dat → Bool
  | .bytes _ => false
  | .tuple ds => noBs ds
  | .list ds => noBs ds
  | _ => true
noncomputable def noBs : List Dat → Bool
  | [] => true
  | d :: ds => noB d && noBs ds
end
mutual
theorem Rp.reads {X : List Addr} {h : Heap} : ∀ {v : Value} {d : Dat}, Rp X h v d → noB d = true → ∃ as, Reads h v (kqdP d) as
  | _, _, .none, _ => ⟨_, Reads.none⟩
  | _, _, .bool b, _ => ⟨_, Reads.bool b⟩
  | _, _, .int i t, _ => ⟨_, Reads.int i t⟩
  | _, _, .str x t, _ => ⟨_, Reads.str x t⟩
  | _, _, .bytes _ _, hk => by simp [noB] at hk
  | _, _, .tuple e _ r, hk => by
    obtain ⟨as, q⟩ := RpAll.reads r (by simpa [noB] using hk)
    rw [kqdP]
    exact ⟨as, reads_tuple_at e rfl rfl (by simpa using q)⟩
  | _, _, .list e _ r, hk => by
    obtain ⟨as, q⟩ := RpAll.reads r (by simpa [noB] using hk)
    rw [kqdP]
    exact ⟨_, reads_list_at e rfl rfl (by simpa using q)⟩
theorem RpAll.reads {X : List Addr} {h : Heap} : ∀ {vs : List Value} {ds : List Dat}, RpAll X h vs ds → noBs ds = true → ∃ as, ReadsAll h vs (kqdPs ds) as
  | _, _, .nil, _ => ⟨_, ReadsAll.nil⟩
  | _, _, .cons a r, hk => by
    simp only [noBs, Bool.and_eq_true] at hk
    obtain ⟨as, q⟩ := Rp.reads a hk.1
    obtain ⟨bs, p⟩ := RpAll.reads r hk.2
    rw [kqdPs]
    exact ⟨_, ReadsAll.cons q p⟩
end

theorem ints_of {X : List Addr} {h : Heap} : ∀ {ns : List Int} {vs : List Value}, RpAll X h vs (ns.map Dat.int) → IntsAre vs ns
  | [], _, r => by cases r; exact IntsAre.nil
  | m :: ns, _, r => by
    rw [List.map_cons] at r
    cases r with
    | cons a r => cases a; exact IntsAre.cons _ _ (ints_of r)
/-- a datum that may be compared -/
noncomputable def cmpOk (d : Dat) : Bool := noB d && SeqAt.shaped (kqdP d)

section
variable {F : Fm}

noncomputable def CmpR (F : Fm) (op : CmpOp) (a b : Dat) (c : Bool) : Prop := ∀ s, F.Ok s → ∀ va vb, Rp F.X s.heap va a → Rp F.X s.heap vb b → ∀ (Q : Value → Shared → Prop) (E : Value → Shared → Prop),
  (∀ s', Kp s s' → Q (.bool c) s') → wpAny (model F.prog F.w) F.A (compareOp op va vb) Q E s

theorem Ev.cmp {l r : Expr} {op : CmpOp} {p : Pos} {a b : Dat} {c : Bool} (hl : Ev F l a) (hr : Ev F r b) (hop : CmpR F op a b c) (hm : behindInMarks op r = false := by with_unfolding_all rfl) : Ev F (.Compare l [op] [r] p) (.bool c) := by
  intro s o Q E k
  refine wpAny_Compare1 (hl s o _ _ fun va s₁ k₁ r₁ => hr s₁ (o.keep k₁) _ _ fun vb s₂ k₂ r₂ => ?_) hm
  exact hop s₂ ((o.keep k₁).keep k₂) va vb (r₁.keep k₂.heap) r₂ Q E fun s₃ k₃ => k _ s₃ ((k₁.trans k₂).trans k₃) (.bool c)
theorem Tst.cmp {l r : Expr} {op : CmpOp} {p : Pos} {a b : Dat} {c : Bool} (hl : Ev F l a) (hr : Ev F r b) (hop : CmpR F op a b c) (hm : behindInMarks op r = false := by with_unfolding_all rfl) : Tst F (.Compare l [op] [r] p) c := by
  intro s o Q E k
  refine wpAny_isTrue_Compare1 (hl s o _ _ fun va s₁ k₁ r₁ => hr s₁ (o.keep k₁) _ _ fun vb s₂ k₂ r₂ => ?_) hm
  exact hop s₂ ((o.keep k₁).keep k₂) va vb (r₁.keep k₂.heap) r₂ _ E fun s₃ k₃ => wpAny_truthy_bool (k s₃ ((k₁.trans k₂).trans k₃))

theorem CmpR.eq {a b : Dat} (ha : cmpOk a = true) (hb : cmpOk b = true) : CmpR F .Eq a b (PyData.eqv (kqdP a) (kqdP b)) := by
  intro s o va vb ra rb Q E k
  simp only [cmpOk, Bool.and_eq_true] at ha hb
  obtain ⟨as, qa⟩ := ra.reads ha.1
  obtain ⟨bs, qb⟩ := rb.reads hb.1
  have hu := o.aok.units
  exact eq_dataH qa qb ha.2 hb.2 (by show F.A.units + 64 < 9900; omega) (k s (Kp.refl s))
theorem CmpR.ne {a b : Dat} (ha : cmpOk a = true) (hb : cmpOk b = true) : CmpR F .NotEq a b (!PyData.eqv (kqdP a) (kqdP b)) := by
  intro s o va vb ra rb Q E k
  simp only [cmpOk, Bool.and_eq_true] at ha hb
  obtain ⟨as, qa⟩ := ra.reads ha.1
  obtain ⟨bs, qb⟩ := rb.reads hb.1
  have hu := o.aok.units
  exact ne_dataH qa qb ha.2 hb.2 (by show F.A.units + 64 < 9900; omega) (k s (Kp.refl s))
theorem CmpR.lt {a b : Int} : CmpR F .Lt (.int a) (.int b) (decide (a < b)) := fun s o va vb ra rb Q E k => by cases ra; cases rb; exact P.lt_int (k s (Kp.refl s))
theorem CmpR.le {a b : Int} : CmpR F .LtE (.int a) (.int b) (decide (a ≤ b)) := fun s o va vb ra rb Q E k => by cases ra; cases rb; exact P.le_int (k s (Kp.refl s))
theorem CmpR.gt {a b : Int} : CmpR F .Gt (.int a) (.int b) (decide (a > b)) := fun s o va vb ra rb Q E k => by cases ra; cases rb; exact P.gt_int (k s (Kp.refl s))
theorem CmpR.ge {a b : Int} : CmpR F .GtE (.int a) (.int b) (decide (a ≥ b)) := fun s o va vb ra rb Q E k => by cases ra; cases rb; exact P.ge_int (k s (Kp.refl s))
theorem CmpR.eqInt {a b : Int} : CmpR F .Eq (.int a) (.int b) (a == b) := fun s o va vb ra rb Q E k => by cases ra; cases rb; exact P.eq_int (k s (Kp.refl s))
theorem CmpR.neInt {a b : Int} : CmpR F .NotEq (.int a) (.int b) (a != b) := fun s o va vb ra rb Q E k => by cases ra; cases rb; exact P.ne_int (k s (Kp.refl s))
theorem CmpR.inInts {a : Int} {ns : List Int} : CmpR F .In (.int a) (.list (ns.map Dat.int)) (ns.any (· == a)) := by
  intro s o va vb ra rb Q E k
  cases ra
  cases rb with
  | list e _ r =>
    exact in_list_ints (ns := ns) ⟨_, e, rfl, _, rfl⟩ (ints_of r) (k s (Kp.refl s))
theorem CmpR.isNotBool {a b : Bool} : CmpR F .IsNot (.bool a) (.bool b) (a != b) := by
  intro s o va vb ra rb Q E k
  cases ra; cases rb
  have h := k s (Kp.refl s)
  cases a <;> cases b <;> exact wpAny_isNot_plain rfl h
theorem CmpR.isNone {a : Int} : CmpR F .Is (.int a) .none false := by
  intro s o va vb ra rb Q E k
  cases ra; cases rb
  exact wpAny_is_plain rfl (k s (Kp.refl s))
theorem CmpR.noneIsNone : CmpR F .Is .none .none true := by
  intro s o va vb ra rb Q E k
  cases ra; cases rb
  exact wpAny_is_plain rfl (k s (Kp.refl s))
theorem CmpR.notInStr {x y : Str} : CmpR F .NotIn (.str y) (.str x) (!(Txt.contains x y)) := by
  intro s o va vb ra rb Q E k
  cases ra; cases rb
  exact SB.notContains (k s (Kp.refl s))

theorem Tst.of_bool {e : Expr} {b : Bool} (h : Ev F e (.bool b)) (hs : ∀ whole, isTrue e F.env whole = (do let v ← whole; standAt e.pos; holding [v] (truthy v))) : Tst F e b := by
  intro s o Q E k
  rw [hs]
  refine wpAny_bind (h s o _ _ fun v s₁ k₁ r₁ => ?_)
  cases r₁
  exact wpAny_bind (wpAny_standAt (wpAny_holding (wpAny_truthy_bool (k s₁ k₁))))

theorem Tst.and {x y : Expr} {p : Pos} {a b : Bool} (hx : Tst F x a) (hy : a = true → Tst F y b) : Tst F (.BoolOp .And [x, y] p) (a && b) := by
  intro s o Q E k
  refine wpAny_isTrue_BoolOp (wpAny_allTrue_And_cons (hx s o _ _ fun s₁ k₁ => ?_))
  cases a with
  | false => exact k s₁ k₁
  | true =>
    refine wpAny_allTrue_And_cons (hy rfl s₁ (o.keep k₁) _ _ fun s₂ k₂ => ?_)
    have := k s₂ (k₁.trans k₂)
    cases b with
    | false => exact this
    | true => exact wpAny_allTrue_And_nil this
theorem Tst.or {x y : Expr} {p : Pos} {a b : Bool} (hx : Tst F x a) (hy : a = false → Tst F y b) : Tst F (.BoolOp .Or [x, y] p) (a || b) := by
  intro s o Q E k
  refine wpAny_isTrue_BoolOp (wpAny_allTrue_Or_cons (hx s o _ _ fun s₁ k₁ => ?_))
  cases a with
  | true => exact k s₁ k₁
  | false =>
    refine wpAny_allTrue_Or_cons (hy rfl s₁ (o.keep k₁) _ _ fun s₂ k₂ => ?_)
    have := k s₂ (k₁.trans k₂)
    cases b with
    | true => exact this
    | false => exact wpAny_allTrue_Or_nil this

theorem Ev.ifExp {t x y : Expr} {p : Pos} {b : Bool} {d : Dat} (ht : Tst F t b) (hx : b = true → Ev F x d) (hy : b = false → Ev F y d) : Ev F (.IfExp t x y p) d := by
  intro s o Q E k
  refine wpAny_IfExp (ht s o _ _ fun s₁ k₁ => ?_)
  cases b with
  | true => exact hx rfl s₁ (o.keep k₁) _ _ fun v s₂ k₂ r₂ => k v s₂ (k₁.trans k₂) r₂
  | false => exact hy rfl s₁ (o.keep k₁) _ _ fun v s₂ k₂ r₂ => k v s₂ (k₁.trans k₂) r₂

theorem Ev.catL {l r : Expr} {p : Pos} {a b : List Dat} (hl : Ev F l (.list a)) (hr : Ev F r (.list b)) (hsz : a.length + b.length ≤ sizeLine) : Ev F (.BinOp l .Add r p) (.list (a ++ b)) :=
  hl.bin hr fun s o va vb ra rb Q E k => by
    cases ra with
    | list ea _ ra =>
      cases rb with
      | list eb _ rb =>
        refine P.add_list ea eb ?_ (by simpa [ra.length, rb.length] using hsz)
        have := Rp.newList (ra.append rb) o.live
        refine k _ _ Kp.push ?_
        rw [List.append_toArray]
        exact this
end
end Mine

end

section
open PySem PySem.W PyProof.Rows
set_option Elab.async false
set_option linter.unusedVariables false
namespace Mine

noncomputable def notSlice : Expr → Bool
  | .Slice .. => false
  | _ => true
theorem subscripted_plain {slice : Expr} (h : notSlice slice = true) (o i : Value) : subscripted slice false o i = operate [o, i] (getItem o i) := by
  cases slice <;> first | rfl | cases h

section
variable {F : Fm}

theorem Ev.subs {v i : Expr} {p : Pos} {a b d : Dat} {T id : String} (hv : Ev F v a) (hi : Ev F i b) (hl : typeLookup (.type T) "__getitem__" = pure (some (.builtin id)))
    (hT : ∀ (s : Shared) va, Rp F.X s.heap va a → s.TypeIs va T)
    (hg : ∀ s, F.Ok s → ∀ va vb, Rp F.X s.heap va a → Rp F.X s.heap vb b → ∀ (Q : Value → Shared → Prop) (E : Value → Shared → Prop), (∀ v s', Kp s s' → Rp F.X s'.heap v d → Q v s') → wpAny (model F.prog F.w) F.A (getItem va vb) Q E s)
    (hs : notSlice i = true := by rfl) : Ev F (.Subscript v i p) d := by
  intro s o Q E k
  refine Subscript_ (hv s o _ _ fun va s₁ k₁ r₁ => hi s₁ (o.keep k₁) _ _ fun vb s₂ k₂ r₂ => ?_)
  refine tail_any (hT s₂ va (r₁.keep k₂.heap)) hl ?_ (subscripted_plain hs va vb)
  exact hg s₂ ((o.keep k₁).keep k₂) va vb (r₁.keep k₂.heap) r₂ Q E fun v s₃ k₃ r₃ => k v s₃ ((k₁.trans k₂).trans k₃) r₃

theorem Rp.isList {X : List Addr} {s : Shared} {va : Value} {ds : List Dat} (r : Rp X s.heap va (.list ds)) : ∃ l vs, va = .ref l ∧ s.heap.IsList l vs.toArray ∧ RpAll X s.heap vs ds := by
  cases r with
  | list e _ r => exact ⟨_, _, rfl, ⟨_, e, rfl, _, rfl⟩, r⟩
theorem Rp.typeList {X : List Addr} {s : Shared} {va : Value} {ds : List Dat} (r : Rp X s.heap va (.list ds)) : s.TypeIs va "list" := by
  cases r with
  | list e _ r => exact ⟨_, e, rfl⟩
theorem Rp.typeTuple {X : List Addr} {s : Shared} {va : Value} {ds : List Dat} (r : Rp X s.heap va (.tuple ds)) : s.TypeIs va "tuple" := by
  cases r with
  | tuple e _ r => exact ⟨_, e, rfl⟩
theorem Rp.typeStr {X : List Addr} {s : Shared} {va : Value} {x : Str} (r : Rp X s.heap va (.str x)) : s.TypeIs va "str" := by
  cases r; exact typeIs_str _ _ _

theorem Ev.itemL {v i : Expr} {p : Pos} {ds : List Dat} {k : Int} {d : Dat} (hv : Ev F v (.list ds)) (hi : Ev F i (.int k)) (h0 : 0 ≤ k) (h1 : k < 2 ^ 63) (hd : ds[k.toNat]? = some d) (hs : notSlice i = true := by rfl) : Ev F (.Subscript v i p) d :=
  hv.subs hi list_getitem_lookup (fun s va r => r.typeList) (fun s o va vb ra rb Q E kk => by
    obtain ⟨l, vs, rfl, hl, ra⟩ := ra.isList
    cases rb
    obtain ⟨w, e1, e2⟩ := ra.get hd
    exact wpAny_getItem_list hl h0 h1 (by simpa using e1) (kk w s (Kp.refl s) e2)) hs
theorem seqIndex_pos {k : Int} {n : Nat} (h0 : 0 ≤ k) (h : k.toNat < n) : seqIndex? k n = some k.toNat := by
  have h1 : ¬ k < 0 := by omega
  have h2 : k < (n : Int) := by omega
  simp [seqIndex?, h1, h0, h2]
theorem Ev.itemT {v i : Expr} {p : Pos} {ds : List Dat} {k : Int} {d : Dat} (hv : Ev F v (.tuple ds)) (hi : Ev F i (.int k)) (h0 : 0 ≤ k) (h1 : k < 2 ^ 63) (hd : ds[k.toNat]? = some d) (hs : notSlice i = true := by rfl) : Ev F (.Subscript v i p) d :=
  hv.subs hi PySem.F.slot_tuple_getitem.lookup (fun s va r => r.typeTuple) (fun s o va vb ra rb Q E kk => by
    cases ra with
    | tuple e _ ra =>
      cases rb
      obtain ⟨w, e1, e2⟩ := ra.get hd
      have hlt : k.toNat < _ := (List.getElem?_eq_some_iff.mp e1).1
      exact P.getItem_tuple e (by omega) h1 (seqIndex_pos h0 (by simpa using hlt)) (by simpa using e1) (kk w s (Kp.refl s) e2)) hs
theorem Ev.itemS {v i : Expr} {p : Pos} {x : Str} {k : Int} {c : Nat} (hv : Ev F v (.str x)) (hi : Ev F i (.int k)) (h0 : 0 ≤ k) (h1 : k < 2 ^ 63) (hd : x.cps[k.toNat]? = some c) (hs : notSlice i = true := by rfl) : Ev F (.Subscript v i p) (.str ⟨#[c]⟩) :=
  hv.subs hi PySem.F.slot_str_getitem.lookup (fun s va r => r.typeStr) (fun s o va vb ra rb Q E kk => by
    cases ra; cases rb
    have hlt : k.toNat < x.cps.size := (Array.getElem?_eq_some_iff.mp hd).1
    refine P.getItem_str ?_ (c := c) ?_ (kk _ _ Kp.tok (.str _ _))
    · rw [Bool.or_eq_false_iff]; constructor <;> simp <;> omega
    · rw [seqIndex_pos h0 (by simpa [Str.length] using hlt)]; exact hd) hs

/-- a slice's part -/
noncomputable def EvP (F : Fm) (x : Option Expr) (k : Option Int) : Prop := ∀ s, F.Ok s → ∀ (Q : Value → Shared → Prop) (E : Value → Shared → Prop),
  (∀ v s', Kp s s' → IsPart v k → Q v s') → wpAny (model F.prog F.w) F.A (evalPart x F.env) Q E s
theorem EvP.no : EvP F none none := fun s o Q E k => by rw [evalPart_none]; exact wpAny_pure (k _ s (Kp.refl s) .none)
theorem EvP.so {e : Expr} {i : Int} (h : Ev F e (.int i)) : EvP F (some e) (some i) := fun s o Q E k => by
  rw [evalPart_some]
  exact h s o _ _ fun v s' k' r => by cases r; exact k _ s' k' (.int _ _)

theorem evalSlice {lo hi st : Option Expr} {p : Pos} {a b c : Option Int} (h1 : EvP F lo a) (h2 : EvP F hi b) (h3 : EvP F st c) {s : Shared} (o : F.Ok s) {Q : Value → Shared → Prop} {E : Value → Shared → Prop}
    (k : ∀ s' sl vl vu vs, Kp s s' → s'.heap.IsSliceOf sl vl vu vs → IsPart vl a → IsPart vu b → IsPart vs c → Q (.ref sl) s') : wpAny (model F.prog F.w) F.A (eval (.Slice lo hi st p) F.env) Q E s := by
  refine wpAny_Slice (h1 s o _ _ fun vl s₁ k₁ p₁ => h2 s₁ (o.keep k₁) _ _ fun vu s₂ k₂ p₂ => h3 s₂ ((o.keep k₁).keep k₂) _ _ fun vs s₃ k₃ p₃ => ?_)
  exact k _ _ _ _ _ (((k₁.trans k₂).trans k₃).trans Kp.push) (Heap.IsSliceOf.new ..) p₁ p₂ p₃

theorem Ev.sliced {v : Expr} {lo hi st : Option Expr} {p q : Pos} {a d : Dat} {x y z : Option Int} {T id : String} (hv : Ev F v a) (h1 : EvP F lo x) (h2 : EvP F hi y) (h3 : EvP F st z)
    (hl : typeLookup (.type T) "__getitem__" = pure (some (.builtin id))) (hT : ∀ (s : Shared) va, Rp F.X s.heap va a → s.TypeIs va T)
    (hg : ∀ s, F.Ok s → ∀ va sl vl vu vs, Rp F.X s.heap va a → s.heap.IsSliceOf sl vl vu vs → IsPart vl x → IsPart vu y → IsPart vs z → ∀ (Q : Value → Shared → Prop) (E : Value → Shared → Prop), (∀ v s', Kp s s' → Rp F.X s'.heap v d → Q v s') → wpAny (model F.prog F.w) F.A (getItem va (.ref sl)) Q E s) :
    Ev F (.Subscript v (.Slice lo hi st q) p) d := by
  intro s o Q E k
  refine Subscript_ (hv s o _ _ fun va s₁ k₁ r₁ => evalSlice h1 h2 h3 (o.keep k₁) fun s₂ sl vl vu vs k₂ hsl p₁ p₂ p₃ => ?_)
  have hsub : ∃ ops, subscripted (.Slice lo hi st q) false va (.ref sl) = operate ops (getItem va (.ref sl)) := by
    cases st <;> exact ⟨_, rfl⟩
  obtain ⟨ops, hsub⟩ := hsub
  refine tail_any (hT s₂ va (r₁.keep k₂.heap)) hl ?_ hsub
  exact hg s₂ ((o.keep k₁).keep k₂) va sl vl vu vs (r₁.keep k₂.heap) hsl p₁ p₂ p₃ Q E fun v s₃ k₃ r₃ => k v s₃ ((k₁.trans k₂).trans k₃) r₃

/-- a list's slice, by its own pick of places -/
theorem Ev.sliceL {v : Expr} {lo hi st : Option Expr} {p q : Pos} {ds es : List Dat} {x y z : Option Int} (hv : Ev F v (.list ds)) (h1 : EvP F lo x) (h2 : EvP F hi y) (h3 : EvP F st z) (h0 : z ≠ some 0) (hsz : ds.length ≤ sizeLine)
    (hpick : ∀ X h vs, RpAll X h vs ds → ∃ ws, slicePick vs.toArray x y z = ws.toArray ∧ RpAll X h ws es) : Ev F (.Subscript v (.Slice lo hi st q) p) (.list es) :=
  hv.sliced h1 h2 h3 list_getitem_lookup (fun s va r => r.typeList) fun s o va sl vl vu vs ra hsl p₁ p₂ p₃ Q E kk => by
    obtain ⟨l, vs, rfl, hl, ra⟩ := ra.isList
    obtain ⟨ws, e, rw'⟩ := hpick _ _ _ ra
    refine wpAny_getItem_list_slice hl hsl p₁ p₂ p₃ h0 ?_ (by simpa [ra.length] using hsz)
    rw [e]
    exact kk _ _ Kp.push (Rp.newList rw' o.live)
theorem Ev.sliceL_upto {v e : Expr} {p q : Pos} {ds : List Dat} {b : Nat} (hv : Ev F v (.list ds)) (h : Ev F e (.int b)) (hsz : ds.length ≤ sizeLine) : Ev F (.Subscript v (.Slice Option.none (Option.some e) Option.none q) p) (.list (ds.take b)) :=
  hv.sliceL EvP.no (EvP.so h) EvP.no (by intro h; cases h) hsz fun X h vs r => ⟨vs.take b, by rw [slicePick_upto'], r.take b⟩
theorem Ev.sliceL_from {v e : Expr} {p q : Pos} {ds : List Dat} {b : Nat} (hv : Ev F v (.list ds)) (h : Ev F e (.int b)) (hsz : ds.length ≤ sizeLine) : Ev F (.Subscript v (.Slice (Option.some e) Option.none Option.none q) p) (.list (ds.drop b)) :=
  hv.sliceL (EvP.so h) EvP.no EvP.no (by intro h; cases h) hsz fun X h vs r => ⟨vs.drop b, by rw [slicePick_from'], r.drop b⟩

/-- a call of a def of the text -/
noncomputable def Cn (prog : Program) (w : World) (T : TopT) (n : Nat) (f : Addr) (ds : List Dat) (d : Dat) : Prop :=
  ∀ A X s vs, AOk n A → T.In s.heap → (∀ a ∈ X, ∃ o, s.heap.get? a = some o) → RpAll X s.heap vs ds → ∀ (Q : Value → Shared → Prop) (E : Value → Shared → Prop),
    (∀ v s', Kp s s' → Rp X s'.heap v d → Q v s') → wpAny (model prog w) A (call (.ref f) vs) Q E s

theorem Ev.call {x : Str} {np p : Pos} {e : Expr} {es : List Expr} {f : Addr} {o : Obj} {fd : FuncData} {ds : List Dat} {d : Dat} (hx : F.T.G x = some (.ref f)) (hk : F.env.kindOf x = some .globalImplicit) (hd : (x == ("__debug__" : Str)) = false)
    (ho : (f, o) ∈ F.T.K) (hf : o.data = .func fd) (ha : EvL F p (e :: es) ds) (hc : Cn F.prog F.w F.T F.n f ds d) (hn : notStar e = true := by rfl) : Ev F (.Call (.Name x np) (e :: es) [] p) d := by
  intro s ok Q E k
  refine wpAny_Call_NameR (name_glob hx hk hd ok ?_)
  have he : starEach (e :: es) F.env = (false, eval e F.env) :: starEach es F.env := by
    cases e <;> first | (cases hn; done) | with_unfolding_all rfl | (simp only [starEach]; done)
  refine callWith_def hf (ha s ok _ _ fun vs s₁ k₁ r₁ => ⟨(ok.keep k₁).top.objs _ ho, ?_⟩) he
  exact hc F.A F.X s₁ vs ok.aok (ok.keep k₁).top (ok.keep k₁).live r₁ Q E fun v s₂ k₂ r₂ => k v s₂ (k₁.trans k₂) r₂

theorem callBuiltin {x : Str} {np p : Pos} {e : Expr} {es : List Expr} {id : String} {ds : List Dat} (hx : F.T.G x = some (.builtin id)) (hk : F.env.kindOf x = some .globalImplicit) (hd : (x == ("__debug__" : Str)) = false)
    (ha : EvL F p (e :: es) ds) (hn : notStar e = true) (hs : es.all notStar = true) {s : Shared} (ok : F.Ok s) {Q : Value → Shared → Prop} {E : Value → Shared → Prop}
    (hc : ∀ s' vs, Kp s s' → RpAll F.X s'.heap vs ds → wpAny (model F.prog F.w) F.A (PySem.call (.builtin id) vs) Q E s') : wpAny (model F.prog F.w) F.A (eval (.Call (.Name x np) (e :: es) [] p) F.env) Q E s := by
  refine wpAny_Call_NameR (name_glob hx hk hd ok ?_)
  have he : starEach (e :: es) F.env = (false, eval e F.env) :: starEach es F.env := by
    cases e <;> first | (cases hn; done) | with_unfolding_all rfl | (simp only [starEach]; done)
  have hp : (backTo p (starEach es F.env)).any (·.1) = false := by
    clear hc ha he
    induction es with
    | nil => rfl
    | cons y ys ih =>
      simp only [List.all_cons, Bool.and_eq_true] at hs
      have hy : starEach (y :: ys) F.env = (false, eval y F.env) :: starEach ys F.env := by
        have := hs.1
        cases y <;> first | (cases this; done) | with_unfolding_all rfl | (simp only [starEach]; done)
      rw [hy]
      exact ih hs.2
  exact callWith_builtin1 (ha s ok _ _ fun vs s₁ k₁ r₁ => hc s₁ vs k₁ r₁) he hp

theorem Ev.lenL {x : Str} {np p : Pos} {e : Expr} {ds : List Dat} (hx : F.T.G x = some (.builtin "len")) (hk : F.env.kindOf x = some .globalImplicit) (hd : (x == ("__debug__" : Str)) = false) (h : Ev F e (.list ds)) (hsz : ds.length ≤ sizeLine) (hn : notStar e = true := by rfl) :
    Ev F (.Call (.Name x np) [e] [] p) (.int ds.length) := fun s ok Q E k =>
  callBuiltin hx hk hd (EvL.cons h EvL.nil hn) hn rfl ok fun s₁ vs k₁ r₁ => by
    cases r₁ with
    | cons r r' =>
      cases r'
      obtain ⟨l, vs, rfl, hl, ra⟩ := r.isList
      refine Calls.call_len_list hl ?_ ?_
      · rw [List.size_toArray, ra.length]; exact Int.lt_of_le_of_lt (Int.ofNat_le.mpr hsz) (by decide)
      · rw [List.size_toArray, ra.length]; exact k _ _ (k₁.trans Kp.tok) (.int _ _)
theorem Ev.lenS {x : Str} {np p : Pos} {e : Expr} {y : Str} (hx : F.T.G x = some (.builtin "len")) (hk : F.env.kindOf x = some .globalImplicit) (hd : (x == ("__debug__" : Str)) = false) (h : Ev F e (.str y)) (hsz : y.length ≤ sizeLine) (hn : notStar e = true := by rfl) :
    Ev F (.Call (.Name x np) [e] [] p) (.int y.length) := fun s ok Q E k =>
  callBuiltin hx hk hd (EvL.cons h EvL.nil hn) hn rfl ok fun s₁ vs k₁ r₁ => by
    cases r₁ with
    | cons r r' =>
      cases r'
      cases r
      refine P.len_str ?_ (k _ _ (k₁.trans Kp.tok) (.int _ _))
      have : (y.length : Int) ≤ 2 ^ 24 := Int.ofNat_le.mpr hsz
      omega
end
end Mine

end

section
open PySem PySem.W PyProof.Rows
set_option Elab.async false
set_option linter.unusedVariables false
namespace Mine

noncomputable def upd {α : Type} (f : Str → Option α) (x : Str) (v : Option α) : Str → Option α := fun y => if y = x then v else f y
theorem upd_self {α : Type} {f : Str → Option α} {x : Str} {v : Option α} : upd f x v x = v := if_pos rfl
theorem upd_other {α : Type} {f : Str → Option α} {x y : Str} {v : Option α} (h : y ≠ x) : upd f x v y = f y := if_neg h

noncomputable def Fm.set (F : Fm) (x : Str) (d : Dat) : Fm := { F with ρ := upd F.ρ x (some d), mt := upd F.mt x none }
noncomputable def Fm.own (F : Fm) (x : Str) (a : Addr) (ds : List Dat) : Fm := { F with ρ := upd F.ρ x none, mt := upd F.mt x (some (a, ds)) }
noncomputable def Fm.addX (F : Fm) (a : Addr) : Fm := { F with X := a :: F.X }
noncomputable def Fm.app (F : Fm) (x : Str) (a : Addr) (ds : List Dat) : Fm := { F with mt := upd F.mt x (some (a, ds)) }

noncomputable def Stor (F : Fm) (x : Str) : Prop := F.env.kindOf x = some .local ∨ (F.env.kindOf x = some .cell ∧ x ∈ F.wc)

theorem ns_obj {h : Heap} {a : Addr} {m : Str → Option Value} (hn : h.Ns a m) : ∃ o es ep, h.get? a = some o ∧ o.data = .dict es ep := let ⟨o, es, ep, h1, h2, _⟩ := hn; ⟨o, es, ep, h1, h2⟩

theorem store_core {F : Fm} {s : Shared} (o : F.Ok s) {x : Str} {v : Value} (hx : Stor F x) {σ : Str → Option Value} (hσ : Sto F.env s.heap σ) {Q : Unit → Shared → Prop} {E : Value → Shared → Prop}
    (k : ∀ h' tk, Sto F.env h' (upd σ x (some v)) → (∀ b ob, s.heap.get? b = some ob → ((∃ z, F.base.heap.get? b = some z) ∨ Fx ob) → h'.get? b = some ob) → (∀ b ob, s.heap.get? b = some ob → ∃ ob', h'.get? b = some ob') → (∀ b ob, s.heap.get? b = some ob → b ≠ F.env.locals → (∀ y c, F.env.kindOf y = some .cell → F.env.cells.lookup y = some c → b ≠ c) → h'.get? b = some ob) →
      Q () { s with heap := h', toks := tk }) : wpAny (model F.prog F.w) F.A (storeName F.env x v) Q E s := by
  obtain ⟨⟨m, hn, hm⟩, hc⟩ := hσ
  obtain ⟨oL, es, ep, hL, hLd⟩ := ns_obj hn
  rcases hx with hl | ⟨hl, hw⟩
  · refine wpAny_storeName_local hl hn (fun h' hn' hs' => k h' _ ⟨⟨_, hn', fun y hy => ?_⟩, fun y c hy hyc => ?_⟩ (fun b ob e h => ?_) (fun b ob e => ?_) fun b ob e hb _ => (hs'.2 b hb).trans e) (by rw [o.wf.fn]; rfl)
    · by_cases hyx : y = x
      · simp [hyx, upd]
      · simp [hyx, upd, hm y hy]
    · have hyx : y ≠ x := by rintro rfl; rcases hy with hy | hy <;> rw [hl] at hy <;> cases hy
      rw [upd_other hyx]
      have := hc y c hy hyc
      refine this.sameBut hs' ?_
      rintro rfl
      obtain ⟨o', e1, e2⟩ := this
      rw [hL] at e1; cases e1
      rw [hLd] at e2; cases e2
    · have hb : b ≠ F.env.locals := by
        rintro rfl
        rcases h with ⟨z, hz⟩ | h
        · rw [o.off] at hz; cases hz
        · rw [hL] at e; cases e
          exact h.1 _ _ hLd
      exact (hs'.2 b hb).trans e
    · by_cases hb : b = F.env.locals
      · subst hb
        obtain ⟨o', _, _, e', _⟩ := ns_obj hn'
        exact ⟨o', e'⟩
      · exact ⟨ob, (hs'.2 b hb).trans e⟩
  · obtain ⟨c, hxc⟩ := o.wf.cl x (.inl hl)
    have hcx := hc x c (.inl hl) hxc
    obtain ⟨oc, hoc, hocd⟩ := id hcx
    have hLc : F.env.locals ≠ c := by
      intro h; rw [← h, hL] at hoc; cases hoc
      rw [hLd] at hocd; cases hocd
    refine wpAny_storeName_cell o.wf.fn hl hxc hcx fun h' hc' hs' => ?_
    have := k h' s.toks ⟨⟨m, hn.sameBut hs' hLc, fun y hy => ?_⟩, fun y c' hy hyc => ?_⟩ (fun b ob e h => ?_) (fun b ob e => ?_) (fun b ob e _ hb => (hs'.2 b (hb x c hl hxc)).trans e)
    · exact this
    · have hyx : y ≠ x := by rintro rfl; rw [hl] at hy; cases hy
      rw [upd_other hyx, hm y hy]
    · by_cases hyx : y = x
      · subst hyx
        rw [hxc] at hyc; cases hyc
        rw [upd_self]; exact hc'
      · rw [upd_other hyx]
        exact (hc y c' hy hyc).sameBut hs' fun e => hyx (name_of_addr o.wf.inj (mem_of_lookup hyc) (e ▸ mem_of_lookup hxc))
    · have hb : b ≠ c := by
        rintro rfl
        rcases h with ⟨z, hz⟩ | h
        · rw [o.cof x hw b hxc] at hz; cases hz
        · rw [hoc] at e; cases e
          exact h.2 _ hocd
      exact (hs'.2 b hb).trans e
    · by_cases hb : b = c
      · subst hb
        obtain ⟨o', e', _⟩ := hc'
        exact ⟨o', e'⟩
      · exact ⟨ob, (hs'.2 b hb).trans e⟩

theorem fx_tup (vs : List Value) (n : Nat) : Fx (tupO vs n) := ⟨(fun _ _ h => nomatch h), fun _ h => nomatch h⟩
theorem fx_lst (vs : List Value) (n : Nat) : Fx (lstO vs n) := ⟨(fun _ _ h => nomatch h), fun _ h => nomatch h⟩
theorem Seqy.fx {o : Obj} (h : Seqy o) : Fx o := by
  rcases h with ⟨vs, n, rfl⟩ | ⟨vs, n, rfl⟩
  · exact fx_tup vs n
  · exact fx_lst vs n

/-- a name takes a datum -/
theorem store_set' {F : Fm} {s : Shared} (o : F.Ok s) {x : Str} {v : Value} {d : Dat} (hx : Stor F x) (hv : Rp F.X s.heap v d) {Q : Unit → Shared → Prop} {E : Value → Shared → Prop}
    (k : ∀ s', (F.set x d).Ok s' → (∀ b ob, s.heap.get? b = some ob → b ≠ F.env.locals → (∀ y c, F.env.kindOf y = some .cell → F.env.cells.lookup y = some c → b ≠ c) → s'.heap.get? b = some ob) → (∀ b ob, s.heap.get? b = some ob → Fx ob → s'.heap.get? b = some ob) → Q () s') : wpAny (model F.prog F.w) F.A (storeName F.env x v) Q E s := by
  obtain ⟨σ, h1, h2, h3, h4⟩ := o.sto
  refine store_core o hx h1 fun h' tk hs hk hl hoth => k _ ?_ hoth fun b ob e h => hk b ob e (.inr h)
  have mono : ∀ b ob, b ∉ F.X → Seqy ob → s.heap.get? b = some ob → h'.get? b = some ob := fun b ob _ hq e => hk b ob e (.inr hq.fx)
  refine ⟨o.aok, o.wf, o.off, o.cof, ⟨fun b ob e => hk b ob (o.kp.heap b ob e) (.inl ⟨ob, e⟩), o.kp.gens, o.kp.os⟩, o.top0, fun a ha => ?_, fun p hp => ⟨hk _ _ (o.pins p hp).1 (.inr (o.pins p hp).2.2), (o.pins p hp).2⟩, o.gpins, upd σ x (some v), hs, fun y e hy => ?_, fun y a ds hy => ?_, fun y z a ds es hy hz => ?_⟩
  · obtain ⟨ob, e⟩ := o.live a ha
    exact hl a ob e
  · by_cases hyx : y = x
    · subst hyx
      have : some d = some e := by rw [← hy]; exact upd_self.symm
      cases this
      exact ⟨v, upd_self, hv.mono mono⟩
    · have hy' : F.ρ y = some e := by rw [← hy]; exact (upd_other hyx).symm
      obtain ⟨u, e1, e2⟩ := h2 y e hy'
      exact ⟨u, by rw [upd_other hyx]; exact e1, e2.mono mono⟩
  · by_cases hyx : y = x
    · subst hyx
      have : (none : Option (Addr × List Dat)) = some (a, ds) := by rw [← hy]; exact upd_self.symm
      cases this
    · have hy' : F.mt y = some (a, ds) := by rw [← hy]; exact (upd_other hyx).symm
      obtain ⟨e1, e2, e3, vs, n, e4, e5⟩ := h3 y a ds hy'
      exact ⟨by rw [upd_other hyx]; exact e1, e2, e3, vs, n, hk _ _ e4 (.inr (fx_lst vs n)), e5.mono mono⟩
  · have f : ∀ {y a ds}, (F.set x d).mt y = some (a, ds) → F.mt y = some (a, ds) := fun {y a ds} hy => by
      by_cases hyx : y = x
      · subst hyx
        have : (none : Option (Addr × List Dat)) = some (a, ds) := by rw [← hy]; exact upd_self.symm
        cases this
      · rw [← hy]; exact (upd_other hyx).symm
    exact h4 y z a ds es (f hy) (f hz)

theorem store_set {F : Fm} {s : Shared} (o : F.Ok s) {x : Str} {v : Value} {d : Dat} (hx : Stor F x) (hv : Rp F.X s.heap v d) {Q : Unit → Shared → Prop} {E : Value → Shared → Prop}
    (k : ∀ s', (F.set x d).Ok s' → Q () s') : wpAny (model F.prog F.w) F.A (storeName F.env x v) Q E s := store_set' o hx hv fun s' o' _ _ => k s' o'

/-- a name takes a list that it may change -/
theorem store_own {F : Fm} {s : Shared} (o : F.Ok s) {x : Str} {a : Addr} {vs : List Value} {n : Nat} {ds : List Dat} (hx : Stor F x) (ha : s.heap.get? a = some (lstO vs n)) (hb : F.base.heap.get? a = none) (haX : a ∈ F.X)
    (hno : ∀ y es, F.mt y ≠ some (a, es)) (hvs : RpAll F.X s.heap vs ds) {Q : Unit → Shared → Prop} {E : Value → Shared → Prop}
    (k : ∀ s', (F.own x a ds).Ok s' → Q () s') : wpAny (model F.prog F.w) F.A (storeName F.env x (.ref a)) Q E s := by
  obtain ⟨σ, h1, h2, h3, h4⟩ := o.sto
  refine store_core o hx h1 fun h' tk hs hk hl hoth => k _ ?_
  have mono : ∀ b ob, b ∉ F.X → Seqy ob → s.heap.get? b = some ob → h'.get? b = some ob := fun b ob _ hq e => hk b ob e (.inr hq.fx)
  refine ⟨o.aok, o.wf, o.off, o.cof, ⟨fun b ob e => hk b ob (o.kp.heap b ob e) (.inl ⟨ob, e⟩), o.kp.gens, o.kp.os⟩, o.top0, fun b hb' => ?_, fun p hp => ⟨hk _ _ (o.pins p hp).1 (.inr (o.pins p hp).2.2), (o.pins p hp).2⟩, o.gpins, upd σ x (some (.ref a)), hs, fun y e hy => ?_, fun y b es hy => ?_, fun y z b es fs hy hz => ?_⟩
  · obtain ⟨ob, e⟩ := o.live b hb'
    exact hl b ob e
  · have hyx : y ≠ x := by
      rintro rfl
      have : (none : Option Dat) = some e := by rw [← hy]; exact upd_self.symm
      cases this
    have hy' : F.ρ y = some e := by rw [← hy]; exact (upd_other hyx).symm
    obtain ⟨u, e1, e2⟩ := h2 y e hy'
    exact ⟨u, by rw [upd_other hyx]; exact e1, e2.mono mono⟩
  · by_cases hyx : y = x
    · subst hyx
      have : some (a, ds) = some (b, es) := by rw [← hy]; exact upd_self.symm
      cases this
      exact ⟨upd_self, haX, fun _ => hb, vs, n, hk _ _ ha (.inr (fx_lst vs n)), hvs.mono mono⟩
    · have hy' : F.mt y = some (b, es) := by rw [← hy]; exact (upd_other hyx).symm
      obtain ⟨e1, e2, e3, ws, m, e4, e5⟩ := h3 y b es hy'
      exact ⟨by rw [upd_other hyx]; exact e1, e2, e3, ws, m, hk _ _ e4 (.inr (fx_lst ws m)), e5.mono mono⟩
  · have f : ∀ {y b es}, (F.own x a ds).mt y = some (b, es) → (y = x ∧ b = a) ∨ (y ≠ x ∧ F.mt y = some (b, es)) := fun {y b es} hy => by
      by_cases hyx : y = x
      · subst hyx
        have : some (a, ds) = some (b, es) := by rw [← hy]; exact upd_self.symm
        cases this
        exact .inl ⟨rfl, rfl⟩
      · exact .inr ⟨hyx, by rw [← hy]; exact (upd_other hyx).symm⟩
    rcases f hy with ⟨rfl, rfl⟩ | ⟨_, hy'⟩ <;> rcases f hz with ⟨rfl, hz'⟩ | ⟨_, hz'⟩
    · rfl
    · exact absurd hz' (hno z fs)
    · exact absurd (hz' ▸ hy') (hno y es)
    · exact h4 y z b es fs hy' hz'

/-- one more address that no datum passes -/
theorem Fm.Ok.addX {F : Fm} {s : Shared} (o : F.Ok s) (ob : Obj) (hf : ob.isFreed = false := by rfl) : (F.addX s.heap.objs.size).Ok { s with heap := s.heap.push ob } := by
  obtain ⟨σ, h1, h2, h3, h4⟩ := o.sto
  have hk : ∀ b o', s.heap.get? b = some o' → (s.heap.push ob).get? b = some o' := fun b o' e => Heap.get?_push_of_some _ e
  refine ⟨o.aok, o.wf, o.off, o.cof, o.kp.trans Kp.push, o.top0, fun a ha => ?_, fun p hp => ⟨hk _ _ (o.pins p hp).1, fun hm => ?_, (o.pins p hp).2.2⟩, o.gpins, σ, h1.keep hk, fun x d e => ?_, fun x a ds e => ?_, h4⟩
  · rcases List.mem_cons.mp ha with rfl | ha
    · exact ⟨ob, Heap.get?_push_size _ hf⟩
    · obtain ⟨o', e⟩ := o.live a ha
      exact ⟨o', hk _ _ e⟩
  · rcases List.mem_cons.mp hm with e | hm
    · have := Heap.lt_size (o.pins p hp).1
      rw [e] at this; exact Nat.lt_irrefl _ this
    · exact (o.pins p hp).2.1 hm
  · obtain ⟨v, e1, e2⟩ := h2 x d e
    exact ⟨v, e1, (e2.fresh (fresh_none _)).keep hk⟩
  · obtain ⟨e1, e2, e3, vs, n, e4, e5⟩ := h3 x a ds e
    exact ⟨e1, List.mem_cons_of_mem _ e2, e3, vs, n, hk _ _ e4, (e5.fresh (fresh_none _)).keep hk⟩
theorem Fm.Ok.base_none {F : Fm} {s : Shared} (o : F.Ok s) {a : Addr} (h : s.heap.get? a = none) : F.base.heap.get? a = none := by
  cases e : F.base.heap.get? a with
  | none => rfl
  | some ob => rw [o.kp.heap _ _ e] at h; cases h

section
variable {F : Fm} {rest : List Stmt} {Q : Flow → Shared → Prop} {E : Value → Shared → Prop} {s : Shared}

theorem ex_assign {x : Str} {px p : Pos} {value : Expr} {d : Dat} (o : F.Ok s) (hv : Ev F value d) (hx : Stor F x) (hs : swapsWith value (some (.Name x px)) p.line F.env = pure false)
    (k : ∀ s', (F.set x d).Ok s' → wpAny (model F.prog F.w) F.A (execs rest F.env) Q E s') : wpAny (model F.prog F.w) F.A (execs (.Assign [.Name x px] value p :: rest) F.env) Q E s :=
  wpAny_execs_cons (wpAny_Assign_Name (hv s o _ _ fun v s₁ k₁ r₁ => store_set (o.keep k₁) hx r₁ fun s₂ o₂ => k s₂ o₂) hs)

/-- x = [] -/
theorem ex_nil {x : Str} {px p q : Pos} (o : F.Ok s) (hx : Stor F x)
    (k : ∀ s' a, F.base.heap.get? a = none → ((F.addX a).own x a []).Ok s' → wpAny (model F.prog F.w) F.A (execs rest F.env) Q E s') : wpAny (model F.prog F.w) F.A (execs (.Assign [.Name x px] (.List [] q) p :: rest) F.env) Q E s := by
  refine wpAny_execs_cons (wpAny_Assign_Name (wpAny_List (Calls.spliced_nil ⟨Nat.zero_le _, ?_⟩)) rfl)
  have o' := o.addX (lstO [] 0)
  have hno : ∀ y es, F.mt y ≠ some (s.heap.objs.size, es) := fun y es hy => by
    obtain ⟨σ, _, _, h3, _⟩ := o.sto
    obtain ⟨_, _, _, vs, n, e, _⟩ := h3 y _ es hy
    exact Nat.lt_irrefl _ (Heap.lt_size e)
  refine store_own (F := F.addX s.heap.objs.size) o' (vs := []) (n := 0) hx (Heap.get?_push_size _ rfl) (o.base_none (fresh_none _)) List.mem_cons_self hno .nil fun s₂ o₂ => k s₂ _ (o.base_none (fresh_none _)) o₂

theorem ex_aug {x : Str} {px p : Pos} {op : Operator} {value : Expr} {a b d : Dat} (o : F.Ok s) (hn : Ev F (.Name x px) a) (hl : ∀ s, F.Ok s → ∀ (Q : Value → Shared → Prop) (E : Value → Shared → Prop), (∀ v, Rp F.X s.heap v a → Q v s) → wpAny (model F.prog F.w) F.A (loadName F.env x) Q E s)
    (hv : Ev F value b) (hx : Stor F x)
    (hop : ∀ s, F.Ok s → ∀ va vb, Rp F.X s.heap va a → Rp F.X s.heap vb b → ∀ (Q : Value → Shared → Prop) (E : Value → Shared → Prop), (∀ v s', Kp s s' → Rp F.X s'.heap v d → Q v s') → wpAny (model F.prog F.w) F.A (inplaceOp op va vb) Q E s)
    (k : ∀ s', (F.set x d).Ok s' → wpAny (model F.prog F.w) F.A (execs rest F.env) Q E s') : wpAny (model F.prog F.w) F.A (execs (.AugAssign (.Name x px) op value p :: rest) F.env) Q E s := by
  refine wpAny_execs_cons (wpAny_AugAssign_Name (hl s o _ _ fun va ra => hv s o _ _ fun vb s₁ k₁ r₁ => hop s₁ (o.keep k₁) va vb (ra.keep k₁.heap) r₁ _ _ fun v s₂ k₂ r₂ => ?_))
  exact store_set ((o.keep k₁).keep k₂) hx r₂ fun s₃ o₃ => k s₃ o₃

theorem ex_if {t : Expr} {b : Bool} {xs ys : List Stmt} {p : Pos} (o : F.Ok s) (ht : Tst F t b)
    (k : ∀ s', F.Ok s' → wpAny (model F.prog F.w) F.A (execs (if b then xs else ys) F.env) (fun f s₂ => match f with | .next => wpAny (model F.prog F.w) F.A (execs rest F.env) Q E s₂ | f => Q f s₂) E s') :
    wpAny (model F.prog F.w) F.A (execs (.If t xs ys p :: rest) F.env) Q E s := by
  refine wpAny_execs_cons (wpAny_If (ht s o _ _ fun s₁ k₁ => ?_))
  have := k s₁ (o.keep k₁)
  cases b <;> exact this

theorem ex_ret {e : Expr} {p : Pos} {d : Dat} (o : F.Ok s) (he : Ev F e d) (k : ∀ v s', Kp s s' → F.Ok s' → Rp F.X s'.heap v d → Q (.ret v) s') : wpAny (model F.prog F.w) F.A (execs (.Return (some e) p :: rest) F.env) Q E s :=
  wpAny_execs_cons (wpAny_Return_some (he s o _ _ fun v s₁ k₁ r₁ => k v s₁ k₁ (o.keep k₁) r₁))
end
end Mine

end

section
open PySem PySem.W PyProof.Rows
set_option Elab.async false
set_option linter.unusedVariables false
namespace Mine

theorem starEach_cons {e : Expr} (hn : notStar e = true) (es : List Expr) (env : Env) : starEach (e :: es) env = (false, eval e env) :: starEach es env := by
  cases e <;> first | (cases hn; done) | with_unfolding_all rfl | (simp only [starEach]; done)
theorem star_plain {p : Pos} {env : Env} : ∀ {es : List Expr}, es.all notStar = true → (backTo p (starEach es env)).any (·.1) = false ∧ (backTo p (starEach es env)).all (fun x => !x.1) = true
  | [], _ => ⟨rfl, rfl⟩
  | y :: ys, hs => by
    simp only [List.all_cons, Bool.and_eq_true] at hs
    rw [starEach_cons hs.1]
    have := star_plain (p := p) (env := env) hs.2
    exact ⟨this.1, this.2⟩

section
variable {F : Fm} {Q : Value → Shared → Prop} {E : Value → Shared → Prop} {s : Shared}

theorem meth_wp {o : Expr} {name : Str} {apos pos : Pos} {e : Expr} {es : List Expr} {T id : String} (hbase : attributeBase o name F.env (eval o F.env) = eval o F.env) (hline : (apos.endLine == pos.line) = true)
    (pa : PlainAttrs T) (slot : Slot T name id) (hty : typeOf (.builtin id) = pure (.type "method_descriptor")) (hs : (e :: es).all notStar = true) (hlen : es.length < 20)
    (h : wpAny (model F.prog F.w) F.A (eval o F.env) (fun ov s₁ => s₁.TypeIs ov T ∧ (∀ a, ov = .ref a → ∃ ob, s₁.heap.get? a = some ob ∧ ob.dict = none) ∧
      wpAny (model F.prog F.w) F.A (spliced (backTo pos (starEach (e :: es) F.env))) (fun vs s₂ => wpAny (model F.prog F.w) F.A (PySem.call (.builtin id) (ov :: vs)) Q E s₂) E s₁) E s) :
    wpAny (model F.prog F.w) F.A (eval (.Call (.Attribute o name apos) (e :: es) [] pos) F.env) Q E s := by
  have hs' := hs
  simp only [List.all_cons, Bool.and_eq_true] at hs'
  refine wpAny_Call_method hbase ?_ hline pa slot hty (wpAny_mono h (fun ov s₁ h₁ => ⟨h₁.1, h₁.2.1, ?_⟩) fun _ _ x => x)
  · rw [(star_plain hs).2, Bool.true_and, Bool.and_eq_true]
    exact ⟨rfl, by simp; omega⟩
  · exact callWith_method1 h₁.2.2 (starEach_cons hs'.1 _ _) (star_plain hs'.2).1

theorem Ev.meth {o : Expr} {name : Str} {apos pos : Pos} {e : Expr} {es : List Expr} {T id : String} {a d : Dat} {ds : List Dat} (ho : Ev F o a) (hbase : attributeBase o name F.env (eval o F.env) = eval o F.env) (hline : (apos.endLine == pos.line) = true)
    (pa : PlainAttrs T) (slot : Slot T name id) (hty : typeOf (.builtin id) = pure (.type "method_descriptor")) (hs : (e :: es).all notStar = true) (hlen : es.length < 20)
    (hT : ∀ (s : Shared) va, Rp F.X s.heap va a → s.TypeIs va T ∧ (∀ b, va = .ref b → ∃ ob, s.heap.get? b = some ob ∧ ob.dict = none))
    (ha : EvL F pos (e :: es) ds)
    (hc : ∀ s, F.Ok s → ∀ va vs, Rp F.X s.heap va a → RpAll F.X s.heap vs ds → ∀ (Q : Value → Shared → Prop) (E : Value → Shared → Prop), (∀ v s', Kp s s' → Rp F.X s'.heap v d → Q v s') → wpAny (model F.prog F.w) F.A (PySem.call (.builtin id) (va :: vs)) Q E s) :
    Ev F (.Call (.Attribute o name apos) (e :: es) [] pos) d := fun s ok Q E k =>
  meth_wp hbase hline pa slot hty hs hlen (ho s ok _ _ fun ov s₁ k₁ r₁ => ⟨(hT s₁ ov r₁).1, (hT s₁ ov r₁).2, ha s₁ (ok.keep k₁) _ _ fun vs s₂ k₂ r₂ =>
    hc s₂ ((ok.keep k₁).keep k₂) ov vs (r₁.keep k₂.heap) r₂ Q E fun v s₃ k₃ r₃ => k v s₃ ((k₁.trans k₂).trans k₃) r₃⟩)

theorem strObj {X : List Addr} {x : Str} (s : Shared) (va : Value) (r : Rp X s.heap va (.str x)) : s.TypeIs va "str" ∧ (∀ b, va = .ref b → ∃ ob, s.heap.get? b = some ob ∧ ob.dict = none) := by
  cases r; exact ⟨typeIs_str _ _ _, fun b h => nomatch h⟩
end

theorem dropValue_none {e : Expr} {pos : Pos} : dropValue e pos .none = pure .next := dropValue_plain fun _ h => nomatch h

section
variable {F : Fm} {s : Shared}
theorem append_core' {x : Str} {a : Addr} {ds : List Dat} {v : Value} {d : Dat} (o₁ : F.Ok s) (hx : F.mt x = some (a, ds)) (hwm : x ∈ F.wm) (r₁ : Rp F.X s.heap v d) (hsz : ds.length < sizeLine) {Q : Value → Shared → Prop} {E : Value → Shared → Prop}
    (k : ∀ s', (F.app x a (ds ++ [d])).Ok s' → (∀ b ob, b ≠ a → s.heap.get? b = some ob → s'.heap.get? b = some ob) → Q .none s') : wpAny (model F.prog F.w) F.A (PySem.call (.builtin "list.append") [.ref a, v]) Q E s := by
  obtain ⟨σ, h1, h2, h3, h4⟩ := o₁.sto
  obtain ⟨g1, g2, g3', vs, n, e2, r1⟩ := h3 x a ds hx
  have g3 := g3' hwm
  have hsz' : vs.toArray.size ≤ sizeLine := by rw [List.size_toArray, r1.length]; omega
  refine wpAny_list_append_plain (items := vs.toArray) ⟨n, e2⟩ (fun h' hpl hs' => ?_) hsz'
  obtain ⟨n', hpl⟩ := hpl
  refine k _ ?_ fun b ob hb e => (hs'.2 b hb).trans e
  have hne : ∀ b ob, s.heap.get? b = some ob → ((∃ z, F.base.heap.get? b = some z) ∨ b ∉ F.X ∨ (∀ es ep, ob ≠ lstO es ep)) → h'.get? b = some ob := fun b ob e h => by
    have hb : b ≠ a := by
      rintro rfl
      rcases h with ⟨z, hz⟩ | h | h
      · rw [g3] at hz; cases hz
      · exact h g2
      · rw [e2] at e; cases e; exact h _ _ rfl
    exact (hs'.2 b hb).trans e
  have mono : ∀ b ob, b ∉ F.X → Seqy ob → s.heap.get? b = some ob → h'.get? b = some ob := fun b ob hb _ e => hne b ob e (.inr (.inl hb))
  refine ⟨o₁.aok, o₁.wf, o₁.off, o₁.cof, ⟨fun b ob e => hne b ob (o₁.kp.heap b ob e) (.inl ⟨ob, e⟩), o₁.kp.gens, o₁.kp.os⟩, o₁.top0, fun b hb => ?_, fun p hp => ⟨hne _ _ (o₁.pins p hp).1 (.inr (.inl (o₁.pins p hp).2.1)), (o₁.pins p hp).2⟩, o₁.gpins, σ, ?_, fun y e hy => ?_, fun y b es hy => ?_, fun y z b es fs hy hz => ?_⟩
  · by_cases hba : b = a
    · subst hba; exact ⟨_, hpl⟩
    · obtain ⟨ob, e⟩ := o₁.live b hb
      exact ⟨ob, (hs'.2 b hba).trans e⟩
  · obtain ⟨⟨m, g4, g5⟩, g6⟩ := h1
    refine ⟨⟨m, g4.sameBut hs' ?_, g5⟩, fun y c hy hc => (g6 y c hy hc).sameBut hs' ?_⟩
    · rintro h
      obtain ⟨oL, es, ep, hL, hLd⟩ := ns_obj g4
      rw [h, e2] at hL; cases hL; cases hLd
    · rintro rfl
      obtain ⟨o', e', hd'⟩ := g6 y c hy hc
      rw [e2] at e'; cases e'; cases hd'
  · obtain ⟨u, f1, f2⟩ := h2 y e hy
    exact ⟨u, f1, f2.mono mono⟩
  · by_cases hyx : y = x
    · subst hyx
      have : some (a, ds ++ [d]) = some (b, es) := by rw [← hy]; exact upd_self.symm
      cases this
      refine ⟨g1, g2, g3', vs ++ [v], n', by rw [hpl]; simp, ?_⟩
      exact (r1.append (.one r₁)).mono mono
    · have hy' : F.mt y = some (b, es) := by rw [← hy]; exact (upd_other hyx).symm
      obtain ⟨f1, f2, f3, ws, m, f4, f5⟩ := h3 y b es hy'
      have hba : b ≠ a := by rintro rfl; exact hyx (h4 y x _ _ _ hy' hx)
      exact ⟨f1, f2, f3, ws, m, (hs'.2 b hba).trans f4, f5.mono mono⟩
  · have f : ∀ {y b es}, (F.app x a (ds ++ [d])).mt y = some (b, es) → ∃ es', F.mt y = some (b, es') := fun {y b es} hy => by
      by_cases hyx : y = x
      · subst hyx
        have : some (a, ds ++ [d]) = some (b, es) := by rw [← hy]; exact upd_self.symm
        cases this
        exact ⟨_, hx⟩
      · exact ⟨es, by rw [← hy]; exact (upd_other hyx).symm⟩
    obtain ⟨_, hy'⟩ := f hy
    obtain ⟨_, hz'⟩ := f hz
    exact h4 y z b _ _ hy' hz'
theorem append_core {x : Str} {a : Addr} {ds : List Dat} {v : Value} {d : Dat} (o₁ : F.Ok s) (hx : F.mt x = some (a, ds)) (hwm : x ∈ F.wm) (r₁ : Rp F.X s.heap v d) (hsz : ds.length < sizeLine) {Q : Value → Shared → Prop} {E : Value → Shared → Prop}
    (k : ∀ s', (F.app x a (ds ++ [d])).Ok s' → Q .none s') : wpAny (model F.prog F.w) F.A (PySem.call (.builtin "list.append") [.ref a, v]) Q E s := append_core' o₁ hx hwm r₁ hsz fun s' o _ => k s' o
end

section
variable {F : Fm} {rest : List Stmt} {Q : Flow → Shared → Prop} {E : Value → Shared → Prop} {s : Shared}
/-- x.append(e), of a list that the name may change -/
theorem ex_append {x : Str} {np apos p q : Pos} {e : Expr} {a : Addr} {ds : List Dat} {d : Dat} (o : F.Ok s) (hx : F.mt x = some (a, ds)) (hwm : x ∈ F.wm)
    (hl : F.env.kindOf x = some .local ∨ F.env.kindOf x = some .cell ∨ F.env.kindOf x = some .free) (hd : (x == ("__debug__" : Str)) = false) (hn : (x == ("__classdict__" : Str)) = false)
    (he : Ev F e d) (hsz : ds.length < sizeLine) (hi : interactive F.env = false) (hline : (apos.endLine == p.line) = true) (hst : notStar e = true)
    (k : ∀ s', (F.app x a (ds ++ [d])).Ok s' → wpAny (model F.prog F.w) F.A (execs rest F.env) Q E s') :
    wpAny (model F.prog F.w) F.A (execs (.Expr (.Call (.Attribute (.Name x np) (Str.ofString "append") apos) [e] [] p) q :: rest) F.env) Q E s := by
  refine wpAny_execs_cons (wpAny_Expr ?_ hi rfl)
  refine meth_wp (T := "list") (id := "list.append") rfl hline PySem.F.plainAttrs_list PySem.F.slot_list_append PySem.F.type_list_append (by simp [hst]) (by decide) ?_
  refine name_mut hx hl hd hn o fun vs n e1 r1 => ⟨⟨_, e1, rfl⟩, fun b hb => by cases hb; exact ⟨_, e1, rfl⟩, ?_⟩
  refine EvL.cons he EvL.nil hst s o _ _ fun ws s₁ k₁ r₁ => ?_
  cases r₁ with
  | cons r₁ r' =>
    cases r'
    exact append_core (o.keep k₁) hx hwm r₁ hsz k
end
end Mine

end

section
open PySem PySem.W PyProof.Rows
set_option Elab.async false
set_option linter.unusedVariables false
namespace Mine

theorem AOk.deeper {n : Nat} {A : Around} (a : AOk (n + 1) A) (env : Env) : AOk n (A.deeper env) := by
  obtain ⟨h1, h2, h3⟩ := a
  refine ⟨h1, ?_, ?_⟩
  · show A.depth + 1 + n < 900; omega
  · show A.units + 3 + 10 * n + 200 < 9900; omega
theorem AOk.less {n m : Nat} {A : Around} (a : AOk n A) (h : m ≤ n) : AOk m A := by
  obtain ⟨h1, h2, h3⟩ := a
  exact ⟨h1, by omega, by omega⟩

theorem cells_lookup : ∀ (names : List (Str × NameKind)) (n : Nat) (acc : List (Str × Addr)) (x : Str), (names.lookup x = some .cell ∨ ∃ c, acc.lookup x = some c) → ∃ c, (cellsFrom n names acc).lookup x = some c
  | [], n, acc, x, h => by
    rcases h with h | h
    · cases h
    · exact h
  | (y, k) :: r, n, acc, x, h => by
    unfold cellsFrom
    split
    · refine cells_lookup r (n + 1) ((y, n) :: acc) x ?_
      rw [List.lookup_cons]
      cases hxy : x == y with
      | true => exact .inr ⟨n, rfl⟩
      | false =>
        rcases h with h | h
        · rw [List.lookup_cons, hxy] at h; exact .inl h
        · exact .inr h
    · rename_i hk
      refine cells_lookup r n acc x ?_
      rcases h with h | h
      · rw [List.lookup_cons] at h
        cases hxy : x == y with
        | true => rw [hxy] at h; cases h; exact absurd rfl hk
        | false => rw [hxy] at h; exact .inl h
      · exact .inr h

theorem bindL_at {kindOf : Str → Option NameKind} : ∀ {names : List Str} {vals : List Value} {m : Str → Option Value} {x : Str}, names.Nodup → kindOf x = some .local →
    bindL kindOf (names.zip vals) m x = ((names.zip vals).lookup x).or (m x)
  | [], _, m, x, _, _ => by simp [bindL]
  | _ :: _, [], m, x, _, _ => by simp [bindL]
  | y :: ys, v :: vs, m, x, hn, hx => by
    have hn' := List.nodup_cons.mp hn
    rw [List.zip_cons_cons, bindL, bindL_at hn'.2 hx, List.lookup_cons]
    cases hxy : x == y with
    | true =>
      have e : x = y := beq_iff_eq.mp hxy
      subst e
      have hno : (ys.zip vs).lookup x = none := by
        rw [List.lookup_eq_none_iff]
        intro p hp
        have := (List.of_mem_zip (a := p.1) (b := p.2) hp).1
        have hne : x ≠ p.1 := by rintro rfl; exact hn'.1 this
        simpa using hne
      rw [hno, if_pos hx]
      simp
    | false =>
      have e : x ≠ y := beq_eq_false_iff_ne.mp hxy
      split
      · simp [e]
      · rfl
theorem bindC_at {kindOf : Str → Option NameKind} : ∀ {names : List Str} {vals : List Value} {m : Str → Option Value} {x : Str}, names.Nodup → kindOf x ≠ some .local →
    bindC kindOf (names.zip vals) m x = ((names.zip vals).lookup x).or (m x)
  | [], _, m, x, _, _ => by simp [bindC]
  | _ :: _, [], m, x, _, _ => by simp [bindC]
  | y :: ys, v :: vs, m, x, hn, hx => by
    have hn' := List.nodup_cons.mp hn
    rw [List.zip_cons_cons, bindC, bindC_at hn'.2 hx, List.lookup_cons]
    cases hxy : x == y with
    | true =>
      have e : x = y := beq_iff_eq.mp hxy
      subst e
      have hno : (ys.zip vs).lookup x = none := by
        rw [List.lookup_eq_none_iff]
        intro p hp
        have := (List.of_mem_zip (a := p.1) (b := p.2) hp).1
        have hne : x ≠ p.1 := by rintro rfl; exact hn'.1 this
        simpa using hne
      rw [hno, if_neg hx]
      simp
    | false =>
      have e : x ≠ y := beq_eq_false_iff_ne.mp hxy
      split
      · rfl
      · simp [e]

theorem zip_get {X : List Addr} {h : Heap} : ∀ {names : List Str} {vals : List Value} {ds : List Dat} {x : Str} {d : Dat}, RpAll X h vals ds → (names.zip ds).lookup x = some d → ∃ v, (names.zip vals).lookup x = some v ∧ Rp X h v d
  | [], _, _, x, d, _, e => by simp at e
  | y :: ys, _, _, x, d, .nil, e => by simp at e
  | y :: ys, _, _, x, d, .cons a r, e => by
    rw [List.zip_cons_cons, List.lookup_cons] at e ⊢
    cases hxy : x == y with
    | true => rw [hxy] at e; cases e; exact ⟨_, rfl, a⟩
    | false => rw [hxy] at e; exact zip_get r e

/-- the frame that a call starts with -/
noncomputable def frame0 (prog : Program) (w : World) (T : TopT) (n : Nat) (A : Around) (fd : FuncData) (f : Addr) (s : Shared) (X : List Addr) (names : List Str) (ds : List Dat) (wc wm : List Str) : Fm :=
  { prog := prog, w := w, T := T, n := n, A := A.deeper (callEnvC fd s.heap.objs.size f), env := callEnvC fd s.heap.objs.size f, base := s, X := X, ρ := fun x => (names.zip ds).lookup x, mt := fun _ => none, wc := wc, wm := wm, pin := [], gpin := [] }

structure FnOk (T : TopT) (f : Addr) (fd : FuncData) (body : List Stmt) (names : List Str) : Prop where
  obj : ∃ o, (f, o) ∈ T.K ∧ o.data = .func fd
  body : fd.body = .stmts body
  code : ∀ h, T.In h → h.CodeRec fd.code fd.qualname
  binds : ∀ vals, vals.length = names.length → bindArgs fd ⟨vals, []⟩ = pure (names.zip vals)
  clo : fd.closure = []
  kinds : ∀ x ∈ names, fd.scope.names.lookup x = some .local ∨ fd.scope.names.lookup x = some .cell
  nodup : names.Nodup
  nofree : ∀ x, fd.scope.names.lookup x ≠ some .free
  kind : fd.scope.kind = .function
  gl : fd.globals = mainGlobals
  bi : fd.builtins = builtinsNs

theorem call_in {prog : Program} {w : World} {T : TopT} {n : Nat} {f : Addr} {fd : FuncData} {body : List Stmt} {names : List Str} (K : FnOk T f fd body names) (hco : fd.scope.isCoroutine = false) (hgen : fd.scope.isGenerator = false) (wc wm : List Str)
    {A : Around} {X : List Addr} {s : Shared} {vals : List Value} {ds : List Dat} (ha : AOk (n + 1) A) (ht : T.In s.heap) (live : ∀ a ∈ X, ∃ o, s.heap.get? a = some o) (hv : RpAll X s.heap vals ds) (hlen : ds.length = names.length)
    {Q : Value → Shared → Prop} {E : Value → Shared → Prop}
    (h : ∀ s₁, (frame0 prog w T n A fd f s X names ds wc wm).Ok s₁ → wpAny (model prog w) (A.deeper (callEnvC fd s.heap.objs.size f)) (execs body (callEnvC fd s.heap.objs.size f)) (fun fl s' => ∃ v, fl = .ret v ∧ Q v s') (fun _ _ => False) s₁) :
    wpAny (model prog w) A (call (.ref f) vals) Q E s := by
  obtain ⟨o, hK, ho⟩ := K.obj
  have hvl : vals.length = names.length := hv.length.trans hlen
  refine wpAny_call (codeAny_call_cells (binds := names.zip vals) (by have := ha.depth; show A.depth < 1000; omega) (ht.objs _ hK) ho ht.lim (K.code _ ht) K.body (K.binds vals hvl) K.clo (fun x hx => ?_) (fun s₁ ic => ?_) hco hgen K.kind)
  · have := (List.of_mem_zip (a := x.1) (b := x.2) hx).1
    rcases K.kinds _ this with h | h
    · exact .inl h
    · refine .inr ⟨h, ?_⟩
      obtain ⟨c, hc⟩ := cells_lookup fd.scope.names (s.heap.objs.size + 1) [] x.1 (.inl h)
      rw [hc]; rfl
  · refine wpAny_mono (h s₁ ?_) (fun fl s' ⟨v, e, q⟩ => by subst e; exact q) fun _ _ x => x.elim
    obtain ⟨h₁, tk, e⟩ := ic.toInCall.same
    have hk := ic.toInCall.keep
    have hcell : ∀ x, (callEnvC fd s.heap.objs.size f).kindOf x = some .cell ∨ (callEnvC fd s.heap.objs.size f).kindOf x = some .free → (callEnvC fd s.heap.objs.size f).kindOf x = some .cell := fun x hx => by
      rcases hx with hx | hx
      · exact hx
      · exact absurd hx (K.nofree x)
    refine ⟨ha.deeper _, ⟨K.kind, K.gl, K.bi, fun x hx => cells_lookup _ _ _ _ (.inl (hcell x hx)), ic.apart⟩, fresh_none _, fun x _ c hc => ?_, ?_, ht, fun a ha => ?_, (fun p hp => nomatch hp), (fun p hp => nomatch hp),
      fun x => if (callEnvC fd s.heap.objs.size f).kindOf x = some .local then (bindL (callEnvC fd s.heap.objs.size f).kindOf (names.zip vals) fun _ => none) x else (bindC (callEnvC fd s.heap.objs.size f).kindOf (names.zip vals) fun _ => none) x,
      ⟨⟨_, ic.toInCall.ns, fun x hx => (if_pos (show (callEnvC fd s.heap.objs.size f).kindOf x = some .local from hx)).symm⟩, fun x c hx hc => ?_⟩, fun x d hd => ?_, (fun x a ds h => nomatch h), (fun x y a ds es h => nomatch h)⟩
    · have := ic.above x c (mem_of_lookup hc)
      cases e' : s.heap.get? c with
      | none => exact e'
      | some ob =>
        have h1 := Heap.lt_size e'
        exact absurd (Nat.lt_trans h1 this) (Nat.lt_irrefl _)
    · rw [e]
      refine Kp.of_heap fun b ob eb => ?_
      have := hk b ob eb
      rw [e] at this; exact this
    · obtain ⟨ob, eb⟩ := live a ha
      exact ⟨ob, hk _ _ eb⟩
    · have hl := hcell x hx
      have hne : ¬ (callEnvC fd s.heap.objs.size f).kindOf x = some .local := by rw [hl]; decide
      simp only [if_neg hne]
      exact ic.cell x c hc
    · obtain ⟨v, e1, e2⟩ := zip_get hv hd
      refine ⟨v, ?_, e2.keep hk⟩
      by_cases hl : (callEnvC fd s.heap.objs.size f).kindOf x = some .local
      · simp only [if_pos hl]
        rw [bindL_at K.nodup hl, e1]; rfl
      · simp only [if_neg hl]
        rw [bindC_at K.nodup hl, e1]; rfl

theorem Cn.intro {prog : Program} {w : World} {T : TopT} {n : Nat} {f : Addr} {fd : FuncData} {body : List Stmt} {names : List Str} (K : FnOk T f fd body names) (hco : fd.scope.isCoroutine = false) (hgen : fd.scope.isGenerator = false) (wc wm : List Str) {ds : List Dat} {d : Dat} (hlen : ds.length = names.length)
    (h : ∀ F : Fm, F.prog = prog → F.w = w → F.T = T → F.n = n → (∀ x, F.env.kindOf x = fd.scope.names.lookup x) → F.env.scope = fd.scope → F.env.code = fd.code → (∀ x, F.ρ x = (names.zip ds).lookup x) → (∀ x, F.mt x = none) → F.wc = wc → F.wm = wm → F.pin = [] → F.gpin = [] →
      ∀ s, F.Ok s → wpAny (model F.prog F.w) F.A (execs body F.env) (fun fl s' => ∃ v, fl = .ret v ∧ Kp F.base s' ∧ Rp F.X s'.heap v d) (fun _ _ => False) s) :
    Cn prog w T (n + 1) f ds d := by
  intro A X s vs ha ht live hv Q E k
  refine call_in K hco hgen wc wm ha ht live hv hlen fun s₁ o => ?_
  exact wpAny_mono (h _ rfl rfl rfl rfl (fun x => rfl) rfl rfl (fun x => rfl) (fun x => rfl) rfl rfl rfl rfl s₁ o) (fun fl s' ⟨v, e, q1, q2⟩ => ⟨v, e, k v s' q1 q2⟩) fun _ _ x => x
end Mine

end

section
open PySem PySem.W PyProof.Rows
set_option Elab.async false
set_option linter.unusedVariables false
namespace Mine

noncomputable def Fm.addPin (F : Fm) (p : Addr × Obj) : Fm := { F with pin := p :: F.pin }

/-- the frames share all but what a statement may turn -/
structure Like (F G : Fm) : Prop where
  prog : G.prog = F.prog
  w : G.w = F.w
  T : G.T = F.T
  n : G.n = F.n
  A : G.A = F.A
  env : G.env = F.env
  base : G.base = F.base
  wc : G.wc = F.wc
  wm : G.wm = F.wm
  pin : G.pin = F.pin
  gpin : G.gpin = F.gpin
theorem Like.refl (F : Fm) : Like F F := ⟨rfl, rfl, rfl, rfl, rfl, rfl, rfl, rfl, rfl, rfl, rfl⟩

noncomputable abbrev rangeItO (x left step : Int) : Obj := { cls := .type "range_iterator", dict := none, data := .fields #[rawInt x, rawInt left, rawInt step], slots := #[] }
theorem fx_rangeIt (x left step : Int) : Fx (rangeItO x left step) := ⟨(fun _ _ h => nomatch h), fun _ h => nomatch h⟩

theorem Fm.Ok.pinIt {F : Fm} {s : Shared} (o : F.Ok s) {p : Addr × Obj} (h1 : s.heap.get? p.1 = some p.2) (h2 : p.1 ∉ F.X) (h3 : Fx p.2) : (F.addPin p).Ok s := by
  refine ⟨o.aok, o.wf, o.off, o.cof, o.kp, o.top0, o.live, fun q hq => ?_, o.gpins, o.sto⟩
  rcases List.mem_cons.mp hq with rfl | hq
  · exact ⟨h1, h2, h3⟩
  · exact o.pins q hq
theorem Fm.Ok.unpin {F : Fm} {s : Shared} {p : Addr × Obj} (o : (F.addPin p).Ok s) : F.Ok s := ⟨o.aok, o.wf, o.off, o.cof, o.kp, o.top0, o.live, (fun q hq => o.pins q (List.mem_cons_of_mem _ hq)), o.gpins, o.sto⟩

/-- an object that is no datum, no name's place and not of the base changes -/
theorem Fm.Ok.turned {F : Fm} {s : Shared} (o : F.Ok s) {a : Addr} {oa : Obj} (ha : s.heap.get? a = some oa) (hb : F.base.heap.get? a = none) (hfx : Fx oa) (hns : ¬ Seqy oa) (hpin : ∀ p ∈ F.pin, p.1 ≠ a) {h' : Heap} {tk : Nat}
    (hk : ∀ b ob, b ≠ a → s.heap.get? b = some ob → h'.get? b = some ob) (haX : a ∉ F.X) : F.Ok { s with heap := h', toks := tk } := by
  obtain ⟨σ, h1, h2, h3, h4⟩ := o.sto
  have mono : ∀ b ob, b ∉ F.X → Seqy ob → s.heap.get? b = some ob → h'.get? b = some ob := fun b ob _ hq e => hk b ob (by rintro rfl; rw [ha] at e; cases e; exact hns hq) e
  refine ⟨o.aok, o.wf, o.off, o.cof, ⟨fun b ob e => hk b ob (by rintro rfl; rw [hb] at e; cases e) (o.kp.heap b ob e), o.kp.gens, o.kp.os⟩, o.top0, fun b hb' => ?_, fun p hp => ⟨hk _ _ (hpin p hp) (o.pins p hp).1, (o.pins p hp).2⟩, o.gpins, σ, ?_, fun x d e => ?_, fun x b ds e => ?_, h4⟩
  · obtain ⟨ob, e⟩ := o.live b hb'
    exact ⟨ob, hk b ob (by rintro rfl; exact haX hb') e⟩
  · obtain ⟨⟨m, g4, g5⟩, g6⟩ := h1
    refine ⟨⟨m, g4.at' fun ob e => hk _ ob ?_ e, g5⟩, fun y c hy hc => ?_⟩
    · intro h
      obtain ⟨oL, es, ep, hL, hLd⟩ := ns_obj g4
      rw [h, ha] at hL; cases hL; exact hfx.1 _ _ hLd
    · obtain ⟨o', e', hd'⟩ := g6 y c hy hc
      exact ⟨o', hk c o' (by rintro rfl; rw [ha] at e'; cases e'; exact hfx.2 _ hd') e', hd'⟩
  · obtain ⟨v, e1, e2⟩ := h2 x d e
    exact ⟨v, e1, e2.mono mono⟩
  · obtain ⟨e1, e2, e3, vs, n, e4, e5⟩ := h3 x b ds e
    exact ⟨e1, e2, e3, vs, n, hk _ _ (by rintro rfl; rw [ha] at e4; cases e4; exact hns (.inr ⟨_, _, rfl⟩)) e4, e5.mono mono⟩

section
variable {F : Fm} {rest : List Stmt} {Q : Flow → Shared → Prop} {s : Shared}

theorem rangeIt_ns (x left step : Int) : ¬ Seqy (rangeItO x left step) := by
  rintro (⟨vs, n, h⟩ | ⟨vs, n, h⟩) <;> exact absurd (congrArg Obj.cls h) (by show ¬ (Value.type _ = Value.type _); intro h; injection h with h; revert h; decide)

/-- for x in range(e): the body, from the family's frames of turn i to those of turn i + 1 -/
theorem ex_for_range {x rn : Str} {px np p q : Pos} {e : Expr} {body : List Stmt} {n : Nat} (Fam : Nat → Fm → Prop) (hlike : ∀ i G, Fam i G → Like F G) (o : F.Ok s)
    (hr : F.T.G rn = some (.type "range")) (hrk : F.env.kindOf rn = some .globalImplicit) (hrd : (rn == ("__debug__" : Str)) = false) (he : Ev F e (.int n)) (hn : n < 2 ^ 62) (hst : notStar e = true)
    (hx : Stor F x) (h0 : Fam 0 F) (hf : ∀ v, foldedSetIterable (.Call (.Name rn np) [e] [] q) F.env v = pure v)
    (turn : ∀ i G pp, i < n → Fam i G → F.base.heap.get? pp.1 = none → ∀ s, ((G.addPin pp).set x (.int i)).Ok s → wpAny (model F.prog F.w) F.A (execs body F.env) (fun f s' => match f with | .next => ∃ G', Fam (i + 1) G' ∧ (G'.addPin pp).Ok s' | .ret v => Q (.ret v) s' | _ => False) (fun _ _ => False) s)
    (done : ∀ G s, Fam n G → G.Ok s → wpAny (model F.prog F.w) F.A (execs rest F.env) Q (fun _ _ => False) s) :
    wpAny (model F.prog F.w) F.A (execs (.For (.Name x px) (.Call (.Name rn np) [e] [] q) body [] p :: rest) F.env) Q (fun _ _ => False) s := by
  refine wpAny_execs_cons (wpAny_For ?_ hf)
  refine wpAny_Call_NameR (name_glob hr hrk hrd o ?_)
  refine callWith_type1 (EvL.cons he EvL.nil hst s o _ _ fun vs s₁ k₁ r₁ => ?_) (starEach_cons hst _ _) rfl
  cases r₁ with
  | cons r₁ r' =>
    cases r'; cases r₁
    rename_i t0
    refine call_range_1 ?_
    have small : Builtin.Range.small 0 n 1 = true := small_one (by decide) (by decide) (by omega) (by omega)
    refine wpAny_pyIter_range (IsRange.new ..) small ?_
    have hsz : Builtin.Range.rangeSize 0 n 1 = n := by
      rw [rangeSize_one]; split <;> omega
    rw [hsz]
    generalize hI : (s₁.heap.push { cls := .type "range", data := .fields #[.int 0 s₁.toks,   .int (n : Int) t0, .int 1 (s₁.toks + 1)] }).objs.size = I
    have o₁ := o.keep k₁
    have o₂ := o₁.keep (s' := { s₁ with heap := (s₁.heap.push { cls := .type "range", data := .fields #[.int 0 s₁.toks,   .int (n : Int) t0, .int 1 (s₁.toks + 1)] }), toks := s₁.toks + 1 + 1 }) (Kp.of_heap fun _ _ e => Heap.get?_push_of_some _ e)
    have hIb : F.base.heap.get? I = none := o₂.base_none (by rw [← hI]; exact fresh_none _)
    have hIX : I ∉ F.X := by rw [← hI]; exact fresh_not_in o₂.live
    have hIp : ∀ p ∈ F.pin, p.1 ≠ I := fun p hp e => by
      have := Heap.lt_size (o₂.pins p hp).1
      rw [e, ← hI] at this; exact Nat.lt_irrefl _ this
    have o₃ := o₂.keep (Kp.push (o := rangeItO 0 n 1))
    refine codeAny_forLoop (fun m s => ∃ i G, i ≤ n ∧ m = n - i ∧ Fam i G ∧ G.Ok s ∧ s.heap.get? I = some (rangeItO i (n - i) 1) ∧ I ∉ G.X) ?_ n ⟨0, F, Nat.zero_le _, rfl, h0, o₃, ?_, hIX⟩
    · rintro m s₅ ⟨i, G, hi, rfl, hG, oG, hit, hX⟩
      have L := hlike i G hG
      have hb : G.base.heap.get? I = none := by rw [L.base]; exact hIb
      have hp : ∀ p ∈ G.pin, p.1 ≠ I := by rw [L.pin]; exact hIp
      rcases Nat.lt_or_ge i n with hlt | hge
      · refine wpAny_pyNext_range_item hit (by omega) fun h' hit' hs' => ?_
        have og : G.Ok { s₅ with heap := h', toks := s₅.toks + 1 } := oG.turned hit hb (fx_rangeIt _ _ _) (rangeIt_ns _ _ _) hp (fun b ob hne e => (hs'.2 b hne).trans e) hX
        have e1 : (i : Int) + 1 = ((i + 1 : Nat) : Int) := by omega
        have e2 : (n : Int) - i - 1 = (n : Int) - ((i + 1 : Nat) : Int) := by omega
        rw [e1, e2] at hit'
        have op := og.pinIt (p := (I, rangeItO ((i + 1 : Nat) : Int) ((n : Int) - ((i + 1 : Nat) : Int)) 1)) hit' hX (fx_rangeIt _ _ _)
        have hx' : Stor (G.addPin (I, rangeItO ((i + 1 : Nat) : Int) ((n : Int) - ((i + 1 : Nat) : Int)) 1)) x := by
          unfold Stor; show G.env.kindOf x = _ ∨ (G.env.kindOf x = _ ∧ x ∈ G.wc); rw [L.env, L.wc]; exact hx
        refine wpAny_assign_Name ?_
        have st := store_set (Q := fun _ s₂ => wpAny (model F.prog F.w) F.A (execs body F.env) (fun f s₃ => match f with
          | .next | .cont => ∃ m, m < n - i ∧ ∃ i G, i ≤ n ∧ m = n - i ∧ Fam i G ∧ G.Ok s₃ ∧ s₃.heap.get? I = some (rangeItO i (n - i) 1) ∧ I ∉ G.X
          | .brk => False
          | .ret v => Q (.ret v) s₃) (fun _ _ => False) s₂) (E := fun _ _ => False) op hx' (.int (i : Int) s₅.toks) fun s₆ o₆ => ?_
        · have e3 : (G.addPin (I, rangeItO ((i + 1 : Nat) : Int) ((n : Int) - ((i + 1 : Nat) : Int)) 1)).prog = F.prog := L.prog
          have e4 : (G.addPin (I, rangeItO ((i + 1 : Nat) : Int) ((n : Int) - ((i + 1 : Nat) : Int)) 1)).w = F.w := L.w
          have e5 : (G.addPin (I, rangeItO ((i + 1 : Nat) : Int) ((n : Int) - ((i + 1 : Nat) : Int)) 1)).A = F.A := L.A
          have e6 : (G.addPin (I, rangeItO ((i + 1 : Nat) : Int) ((n : Int) - ((i + 1 : Nat) : Int)) 1)).env = F.env := L.env
          rw [e3, e4, e5, e6] at st
          exact wpAny_mono st (fun _ s₆ h => wpAny_mono h (fun f s₇ h' => by cases f <;> first | exact h' | exact h'.elim) fun _ _ x => x.elim) fun _ _ x => x.elim
        · refine wpAny_mono (turn i G _ hlt hG hIb s₆ o₆) (fun f s₇ h => ?_) fun _ _ x => x
          cases f with
          | next =>
            obtain ⟨G', hG', o'⟩ := h
            have hpin := o'.pins _ List.mem_cons_self
            exact ⟨n - (i + 1), by omega, i + 1, G', hlt, rfl, hG', o'.unpin, hpin.1, hpin.2.1⟩
          | ret v => exact h
          | brk => exact h.elim
          | cont => exact h.elim
      · have hin : i = n := by omega
        subst hin
        refine wpAny_pyNext_range_end (by rw [← L.A]; exact oG.aok.handled) hit (by omega) fun h' hs' => ?_
        have og : G.Ok { s₅ with heap := h', toks := s₅.toks } := oG.turned hit hb (fx_rangeIt _ _ _) (rangeIt_ns _ _ _) hp (fun b ob hne e => hs' b ob hne e) hX
        exact wpAny_execs_nil (wpAny_mono (done G _ hG og) (fun _ _ x => x) fun _ _ x => x.elim)
    · have := Heap.get?_push_size (s₁.heap.push { cls := .type "range", data := .fields #[.int 0 s₁.toks,   .int (n : Int) t0, .int 1 (s₁.toks + 1)] }) (o := rangeItO 0 n 1) rfl
      rw [hI] at this
      simpa using this
end
end Mine

end

section
open PySem PySem.W PyProof.Rows
set_option Elab.async false
set_option linter.unusedVariables false
namespace Mine

noncomputable def scal : Dat → Bool
  | .tuple _ => false
  | .list _ => false
  | _ => true
theorem Rp.scal {X Y : List Addr} {h h' : Heap} {v : Value} {d : Dat} (r : Rp X h v d) (hs : scal d = true) : Rp Y h' v d := by
  cases r <;> first | (cases hs; done) | constructor

theorem Ev.name {F : Fm} {x : Str} {p : Pos} {d : Dat} (hv : F.ρ x = some d) (hl : F.env.kindOf x = some .local ∨ F.env.kindOf x = some .cell ∨ F.env.kindOf x = some .free) (hd : (x == ("__debug__" : Str)) = false) (hn : (x == ("__classdict__" : Str)) = false) : Ev F (.Name x p) d := by
  rcases hl with hl | hl | hl
  · exact Ev.name_local hv hl hd
  · exact Ev.name_cell hv hl hd
  · exact Ev.name_free hv hl hd hn

noncomputable def closL (cells : List (Str × Addr)) : List (Str × NameKind) → List (Str × Addr) → List (Str × Addr)
  | [], acc => acc
  | (n, k) :: r, acc => if k == .free then closL cells r ((n, (cells.lookup n).getD 0) :: acc) else closL cells r acc
theorem closL_loop {env : Env} (f : Str × NameKind → List (Str × Addr) → Sem (ForInStep (List (Str × Addr))))
    (hf : ∀ name kind cs, f (name, kind) cs = if kind == .free then (do let a ← cellOf env name; pure (.yield ((name, a) :: cs))) else pure (.yield cs)) :
    ∀ (l : List (Str × NameKind)) (acc : List (Str × Addr)), (∀ x ∈ l, x.2 = .free → ∃ c, env.cells.lookup x.1 = some c) → forIn l acc f = pure (closL env.cells l acc)
  | [], acc, _ => rfl
  | (n, k) :: l, acc, hl => by
    rw [List.forIn_cons, hf]
    unfold closL
    by_cases hk : k = .free
    · subst hk
      obtain ⟨c, hc⟩ := hl (n, .free) List.mem_cons_self rfl
      have e : cellOf env n = pure c := by unfold cellOf; rw [hc]
      simp only [e, hc, beq_self_eq_true, if_true, Option.getD_some]
      exact closL_loop f hf l _ fun x hx => hl x (List.mem_cons_of_mem _ hx)
    · have hb : (k == NameKind.free) = false := by simpa using hk
      simp only [hb, Bool.false_eq_true, if_false]
      exact closL_loop f hf l _ fun x hx => hl x (List.mem_cons_of_mem _ hx)
theorem closureFor_is {scope : Scope} {env : Env} (h : ∀ x ∈ scope.names, x.2 = .free → ∃ c, env.cells.lookup x.1 = some c) : closureFor scope env = pure (closL env.cells scope.names []) := by
  simp only [closureFor]
  rw [closL_loop (env := env) _ (fun name kind cs => by cases hk : kind == NameKind.free <;> simp [hk]) scope.names [] h]
  rfl

theorem closL_lookup {cells : List (Str × Addr)} : ∀ {names : List (Str × NameKind)} {acc : List (Str × Addr)} {x : Str} {c : Addr}, cells.lookup x = some c → ((names.lookup x = some .free) ∨ acc.lookup x = some c) →
    (closL cells names acc).lookup x = some c
  | [], acc, x, c, hc, h => by
    rcases h with h | h
    · cases h
    · exact h
  | (y, k) :: r, acc, x, c, hc, h => by
    unfold closL
    split
    · rename_i hk
      refine closL_lookup hc ?_
      rw [List.lookup_cons]
      cases hxy : x == y with
      | true => have : x = y := beq_iff_eq.mp hxy
                subst this; rw [hc]; exact .inr rfl
      | false =>
        rcases h with h | h
        · rw [List.lookup_cons, hxy] at h; exact .inl h
        · exact .inr h
    · rename_i hk
      refine closL_lookup hc ?_
      rcases h with h | h
      · rw [List.lookup_cons] at h
        cases hxy : x == y with
        | true => rw [hxy] at h; cases h; exact absurd rfl hk
        | false => rw [hxy] at h; exact .inl h
      · exact .inr h
theorem closL_ok {cells : List (Str × Addr)} : ∀ {names : List (Str × NameKind)} {acc : List (Str × Addr)}, (∀ p ∈ acc, cells.lookup p.1 = some p.2) → (names.map (·.1) ++ acc.map (·.1)).Nodup → (∀ x ∈ names, x.2 = .free → ∃ c, cells.lookup x.1 = some c) →
    (∀ p ∈ closL cells names acc, cells.lookup p.1 = some p.2) ∧ ((closL cells names acc).map (·.1)).Nodup
  | [], acc, h, hn, _ => ⟨h, by simpa [closL] using hn⟩
  | (y, k) :: r, acc, h, hn, hf => by
    unfold closL
    rw [List.map_cons, List.cons_append, List.nodup_cons] at hn
    split
    · rename_i hk
      obtain ⟨c, hc⟩ := hf (y, k) List.mem_cons_self (beq_iff_eq.mp hk)
      refine closL_ok (fun p hp => ?_) ?_ fun x hx => hf x (List.mem_cons_of_mem _ hx)
      · rcases List.mem_cons.mp hp with rfl | hp
        · simp only [hc, Option.getD_some]
        · exact h p hp
      · rw [List.map_cons]
        exact (List.perm_middle.nodup_iff).mpr (List.nodup_cons.mpr hn)
    · exact closL_ok h hn.2 fun x hx => hf x (List.mem_cons_of_mem _ hx)
theorem pairwise_addr {cells : List (Str × Addr)} (hp : cells.Pairwise fun x y => x.2 ≠ y.2) : ∀ {l : List (Str × Addr)}, (∀ p ∈ l, cells.lookup p.1 = some p.2) → (l.map (·.1)).Nodup → l.Pairwise fun x y => x.2 ≠ y.2
  | [], _, _ => List.Pairwise.nil
  | x :: r, h, hn => by
    rw [List.map_cons, List.nodup_cons] at hn
    refine List.pairwise_cons.mpr ⟨fun y hy e => ?_, pairwise_addr hp (fun p hp' => h p (List.mem_cons_of_mem _ hp')) hn.2⟩
    have h1 := mem_of_lookup (h x List.mem_cons_self)
    have h2 := mem_of_lookup (h y (List.mem_cons_of_mem _ hy))
    rw [← e] at h2
    have := name_of_addr hp h1 h2
    exact hn.1 (this ▸ List.mem_map_of_mem hy)
theorem cells_pairwise : ∀ (names : List (Str × NameKind)) (n : Nat) (acc : List (Str × Addr)), (∀ p ∈ acc, p.2 < n) → (acc.Pairwise fun x y => x.2 ≠ y.2) → (cellsFrom n names acc).Pairwise fun x y => x.2 ≠ y.2
  | [], n, acc, _, h => h
  | (y, k) :: r, n, acc, ha, h => by
    unfold cellsFrom
    split
    · refine cells_pairwise r (n + 1) _ (fun p hp => ?_) (List.pairwise_cons.mpr ⟨fun p hp e => ?_, h⟩)
      · rcases List.mem_cons.mp hp with rfl | hp
        · exact Nat.lt_succ_self _
        · exact Nat.lt_succ_of_lt (ha p hp)
      · have := ha p hp
        rw [← e] at this; exact Nat.lt_irrefl _ this
    · exact cells_pairwise r n acc ha h
theorem cells_new : ∀ (names : List (Str × NameKind)) (h : Heap) (acc : List (Str × Addr)) (x : Str) (c : Addr), (cellsFrom h.objs.size names acc).lookup x = some c → acc.lookup x = some c ∨ ((pushCells h names).IsCell c none ∧ h.objs.size ≤ c ∧ ∃ k, (x, k) ∈ names ∧ k = .cell)
  | [], h, acc, x, c, e => .inl e
  | (y, k) :: r, h, acc, x, c, e => by
    unfold cellsFrom at e
    unfold pushCells
    split at e
    · rename_i hk
      rw [if_pos hk]
      have := cells_new r (h.push { cls := .type "cell", data := .cell none }) ((y, h.objs.size) :: acc) x c (by rw [Heap.size_push]; exact e)
      rcases this with t | ⟨t1, t2, k', t3, t4⟩
      · rw [List.lookup_cons] at t
        cases hxy : x == y with
        | true =>
          rw [hxy] at t; cases t
          refine .inr ⟨⟨_, pushCells_keeps r _ _ _ (Heap.get?_push_size _ rfl), rfl⟩, Nat.le_refl _, k, ?_, beq_iff_eq.mp hk⟩
          rw [beq_iff_eq.mp hxy]; exact List.mem_cons_self
        | false => rw [hxy] at t; exact .inl t
      · rw [Heap.size_push] at t2
        exact .inr ⟨t1, by omega, k', List.mem_cons_of_mem _ t3, t4⟩
    · rename_i hk
      rw [if_neg hk]
      rcases cells_new r h acc x c e with t | ⟨t1, t2, k', t3, t4⟩
      · exact .inl t
      · exact .inr ⟨t1, t2, k', List.mem_cons_of_mem _ t3, t4⟩

section
variable {M : Model} {A : Around} {E : Value → Shared → Prop} {s : Shared}
theorem newCompEnv {scope : Scope} {globals : Addr} {cl : List (Str × Addr)} {qual : Str} {outer : Env} {Q : Env → Shared → Prop}
    (h : Q (newEnv scope s.heap.objs.size globals (cellsFrom (s.heap.objs.size + 1) scope.names cl) qual none .none (some outer) builtinsNs) { s with heap := pushCells (s.heap.push { cls := .type "dict", data := .dict #[] }) scope.names }) :
    wpAny M A (newFunctionEnv scope globals cl [] qual none .none (some outer)) Q E s := by
  simp only [newFunctionEnv, Option.isSome_some, if_true]
  refine wpAny_bind (wpAny_alloc ?_)
  refine wpAny_bind (wpAny_layCells _ (fun name kind cells => by cases hkc : kind == NameKind.cell <;> simp [hkc]) _ _ _ _ ?_)
  rw [show ({ s with heap := s.heap.push { cls := .type "dict", data := .dict #[] } } : Shared).heap.objs.size = s.heap.objs.size + 1 from Heap.size_push ..]
  exact wpAny_bind (wpAny_pure (wpAny_pure h))
end
end Mine

end

section
open PySem PySem.W PyProof.Rows
set_option Elab.async false
set_option linter.unusedVariables false
namespace Mine

noncomputable def accN : Str := Str.ofString ""
noncomputable def Fm.sets (F : Fm) : List Str → List Dat → Fm
  | x :: xs, d :: ds => (F.set x d).sets xs ds
  | _, _ => F

theorem relabel_lookup {env : Env} : ∀ {names : List (Str × NameKind)} {x : Str},
    (names.map fun (n, k) => if (k == NameKind.free && env.scope.kind == .function && env.kindOf n == some .cell) then (n, NameKind.cell) else (n, k)).lookup x =
      (names.lookup x).map fun k => if (k == NameKind.free && env.scope.kind == .function && env.kindOf x == some .cell) then NameKind.cell else k
  | [], _ => rfl
  | (n, k) :: r, x => by
    have ih := @relabel_lookup env r x
    show List.lookup x ((if (k == NameKind.free && env.scope.kind == .function && env.kindOf n == some .cell) = true then (n, NameKind.cell) else (n, k)) :: _) = _
    cases hx : x == n with
    | true =>
      have e : x = n := beq_iff_eq.mp hx
      subst e
      by_cases hc : (k == NameKind.free && env.scope.kind == .function && env.kindOf x == some .cell) = true
      · rw [if_pos hc]; simp only [List.lookup_cons, hx, Option.map_some, hc, if_true]
      · rw [if_neg hc]; simp only [List.lookup_cons, hx, Option.map_some, hc]; rfl
    | false =>
      by_cases hc : (k == NameKind.free && env.scope.kind == .function && env.kindOf n == some .cell) = true
      · rw [if_pos hc]; simp only [List.lookup_cons, hx]; exact ih
      · rw [if_neg hc]; simp only [List.lookup_cons, hx]; exact ih

theorem comp_kind {scope : Scope} {cl : List (Str × Addr)} {C : Addr} {env : Env} {x : Str} :
    (compEnvC scope cl C env).kindOf x = (scope.names.lookup x).map fun k => if (k == NameKind.free && env.scope.kind == .function && env.kindOf x == some .cell) then NameKind.cell else k := relabel_lookup
theorem comp_kind_plain {scope : Scope} {cl : List (Str × Addr)} {C : Addr} {env : Env} {x : Str} {k : NameKind} (h : scope.names.lookup x = some k) (hk : k ≠ .free) : (compEnvC scope cl C env).kindOf x = some k := by
  rw [comp_kind, h]
  have : (k == NameKind.free) = false := by simpa using hk
  simp only [Option.map_some, this, Bool.false_and, Bool.false_eq_true, if_false]
theorem comp_kind_free {scope : Scope} {cl : List (Str × Addr)} {C : Addr} {env : Env} {x : Str} (h : scope.names.lookup x = some .free) : (compEnvC scope cl C env).kindOf x = some .cell ∨ (compEnvC scope cl C env).kindOf x = some .free := by
  rw [comp_kind, h]
  simp only [Option.map_some]
  split
  · exact .inl rfl
  · exact .inr rfl
theorem comp_kind_back {scope : Scope} {cl : List (Str × Addr)} {C : Addr} {env : Env} {x : Str} (h : (compEnvC scope cl C env).kindOf x = some .cell ∨ (compEnvC scope cl C env).kindOf x = some .free) : scope.names.lookup x = some .cell ∨ scope.names.lookup x = some .free := by
  rw [comp_kind] at h
  cases hl : scope.names.lookup x with
  | none => rw [hl] at h; simp at h
  | some k =>
    rw [hl] at h
    simp only [Option.map_some] at h
    by_cases hk : k = .free
    · exact .inr (by rw [hk])
    · have : (k == NameKind.free) = false := by simpa using hk
      simp only [this, Bool.false_and, Bool.false_eq_true, if_false, Option.some.injEq] at h
      rcases h with h | h
      · exact .inl (by rw [h])
      · exact absurd h hk

/-- the scope of a comprehension, as it lies in the frame -/
structure ScOk (F : Fm) (scope : Scope) (names : List Str) : Prop where
  kind : scope.kind = .function
  nodup : (scope.names.map (·.1)).Nodup
  free : ∀ x, scope.names.lookup x = some .free → F.env.kindOf x = some .cell ∨ F.env.kindOf x = some .free
  names : ∀ x ∈ names, scope.names.lookup x = some .local ∨ scope.names.lookup x = some .cell
  acc : scope.names.lookup accN = none

theorem lookup_of_mem {names : List (Str × NameKind)} (hn : (names.map (·.1)).Nodup) {x : Str} {k : NameKind} (h : (x, k) ∈ names) : names.lookup x = some k := by
  induction names with
  | nil => cases h
  | cons y r ih =>
    obtain ⟨n, j⟩ := y
    rw [List.map_cons, List.nodup_cons] at hn
    rw [List.lookup_cons]
    rcases List.mem_cons.mp h with e | h'
    · cases e; simp
    · have : (x == n) = false := by
        rw [beq_eq_false_iff_ne]
        rintro rfl
        exact hn.1 (List.mem_map_of_mem (f := (·.1)) h')
      rw [this]; exact ih hn.2 h'

noncomputable def compFm (F : Fm) (s : Shared) (scope : Scope) (cells : List (Str × Addr)) (ex : List Addr) (C D : Addr) (ys : List Dat) : Fm :=
  { prog := F.prog, w := F.w, T := F.T, n := F.n, A := F.A, env := compEnvC scope cells C F.env, base := s, X := D :: (ex ++ F.X),
    ρ := fun x => if scope.names.lookup x = some .free then F.ρ x else none
    mt := fun x => if x = accN then some (D, ys) else if scope.names.lookup x = some .free then F.mt x else none
    wc := (scope.names.filter (fun x => x.2 == .cell)).map (·.1), wm := [accN], pin := [], gpin := [] }

theorem Rp.freshL {X : List Addr} {h : Heap} {v : Value} {d : Dat} (r : Rp X h v d) : ∀ {ex : List Addr}, (∀ a ∈ ex, h.get? a = Option.none) → Rp (ex ++ X) h v d
  | [], _ => r
  | a :: ex, he => (Rp.freshL r fun b hb => he b (List.mem_cons_of_mem _ hb)).fresh (he a List.mem_cons_self)
theorem RpAll.freshL {X : List Addr} {h : Heap} {v : List Value} {d : List Dat} (r : RpAll X h v d) : ∀ {ex : List Addr}, (∀ a ∈ ex, h.get? a = none) → RpAll (ex ++ X) h v d
  | [], _ => r
  | a :: ex, he => (RpAll.freshL r fun b hb => he b (List.mem_cons_of_mem _ hb)).fresh (he a List.mem_cons_self)

theorem closL_free {cells : List (Str × Addr)} : ∀ {names : List (Str × NameKind)} {acc : List (Str × Addr)} {p : Str × Addr}, p ∈ closL cells names acc → (p.1, NameKind.free) ∈ names ∨ p ∈ acc
  | [], acc, p, h => .inr h
  | (y, k) :: r, acc, p, h => by
    unfold closL at h
    split at h
    · rename_i hk
      rcases closL_free h with h | h
      · exact .inl (List.mem_cons_of_mem _ h)
      · rcases List.mem_cons.mp h with e | h
        · refine .inl ?_
          rw [e, ← beq_iff_eq.mp hk]; exact List.mem_cons_self
        · exact .inr h
    · rcases closL_free h with h | h
      · exact .inl (List.mem_cons_of_mem _ h)
      · exact .inr h

theorem comp_start {F : Fm} {s s₂ : Shared} {scope : Scope} {names : List Str} (o : F.Ok s) (k₂ : Kp s s₂) (S : ScOk F scope names) {ex : List Addr} (hex : ∀ a ∈ ex, s.heap.get? a = none ∧ ∃ o, s₂.heap.get? a = some o) :
    let D := s₂.heap.objs.size
    let s₃ : Shared := { s₂ with heap := s₂.heap.push { cls := .type "list", data := .seq #[] } }
    let C := s₃.heap.objs.size
    let cells := cellsFrom (C + 1) scope.names (closL F.env.cells scope.names [])
    (compFm F s scope cells ex C D []).Ok { s₃ with heap := pushCells (s₃.heap.push { cls := .type "dict", data := .dict #[] }) scope.names } := by
  intro D s₃ C cells
  have hkD : ∀ b ob, s₂.heap.get? b = some ob → (s₂.heap.push { cls := .type "list", data := .seq #[] }).get? b = some ob := fun b ob e => Heap.get?_push_of_some _ e
  have hk3 : ∀ b ob, s₃.heap.get? b = some ob → (pushCells (s₃.heap.push { cls := .type "dict", data := .dict #[] }) scope.names).get? b = some ob := fun b ob e => pushCells_keeps _ _ _ _ (Heap.get?_push_of_some _ e)
  have hk : ∀ b ob, s.heap.get? b = some ob → (pushCells (s₃.heap.push { cls := .type "dict", data := .dict #[] }) scope.names).get? b = some ob := fun b ob e => hk3 _ _ (hkD _ _ (k₂.heap _ _ e))
  have hsz : C = s₂.heap.objs.size + 1 := Heap.size_push ..
  have old : ∀ b, (s.heap.get? b).isSome = true → b < s₂.heap.objs.size := fun b hb => by
    obtain ⟨ob, e⟩ := Option.isSome_iff_exists.mp hb
    exact Heap.lt_size (k₂.heap _ _ e)
  have none_of : ∀ b, s₂.heap.objs.size ≤ b → s.heap.get? b = none := fun b hb => by
    cases e : s.heap.get? b with
    | none => rfl
    | some ob => exact absurd (old b (by rw [e]; rfl)) (Nat.not_lt.mpr hb)
  obtain ⟨σ, h1, h2, h3, h4⟩ := o.sto
  have hfree : ∀ x ∈ scope.names, x.2 = .free → ∃ c, F.env.cells.lookup x.1 = some c := fun x hx hf => by
    obtain ⟨n, k⟩ := x
    simp only at hf; subst hf
    rcases S.free n (lookup_of_mem S.nodup hx) with h | h
    · exact o.wf.cl n (.inl h)
    · exact o.wf.cl n (.inr h)
  obtain ⟨cl1, cl2⟩ := closL_ok (cells := F.env.cells) (names := scope.names) (acc := []) (fun p hp => nomatch hp) (by simpa using S.nodup) hfree
  have kF : ∀ x, scope.names.lookup x = some .free → F.env.kindOf x = some .cell ∨ F.env.kindOf x = some .free := S.free
  have clFree : ∀ x c, (closL F.env.cells scope.names []).lookup x = some c → scope.names.lookup x = some .free := fun x c hc => by
    rcases closL_free (mem_of_lookup hc) with h | h
    · exact lookup_of_mem S.nodup h
    · cases h
  have clCell : ∀ x c, (closL F.env.cells scope.names []).lookup x = some c → s.heap.IsCell c (σ x) := fun x c hc => by
    have e := cl1 _ (mem_of_lookup hc)
    exact h1.2 x c (kF x (clFree x c hc)) e
  have hpc : (s₃.heap.push { cls := .type "dict", data := .dict #[] }).objs.size = C + 1 := Heap.size_push ..
  have newc : ∀ x c, cells.lookup x = some c → (closL F.env.cells scope.names []).lookup x = some c ∨ ((pushCells (s₃.heap.push { cls := .type "dict", data := .dict #[] }) scope.names).IsCell c none ∧ C + 1 ≤ c ∧ scope.names.lookup x = some .cell) := fun x c hc => by
    have := cells_new scope.names (s₃.heap.push { cls := .type "dict", data := .dict #[] }) (closL F.env.cells scope.names []) x c (by rw [hpc]; exact hc)
    rcases this with h | ⟨h, h', k, hm, rfl⟩
    · exact .inl h
    · exact .inr ⟨h, by rw [hpc] at h'; exact h', lookup_of_mem S.nodup hm⟩
  refine ⟨o.aok, ⟨S.kind, o.wf.gl, o.wf.bi, fun x hx => ?_, ?_⟩, none_of C (by omega), fun x hx c hc => ?_, ?_, o.top, fun a ha => ?_, (fun p hp => nomatch hp), (fun p hp => nomatch hp),
    (fun x => if x = accN then some (.ref D) else if scope.names.lookup x = some .free then σ x else none), ⟨⟨fun _ => none, (Heap.Ns.new s₃.heap (.type "dict")).keeps (pushCells_keeps _ _), fun x hx => ?_⟩, fun x c hx hc => ?_⟩, fun x d hd => ?_, fun x a ds hd => ?_, fun x y a ds es hx hy => ?_⟩
  · rcases comp_kind_back hx with h | h
    · exact cells_lookup _ _ _ _ (.inl h)
    · refine cells_lookup _ _ _ _ (.inr ?_)
      have : ∃ c, F.env.cells.lookup x = some c := by
        rcases kF x h with h' | h'
        · exact o.wf.cl x (.inl h')
        · exact o.wf.cl x (.inr h')
      obtain ⟨c, hc⟩ := this
      exact ⟨c, closL_lookup hc (.inl h)⟩
  · refine cells_pairwise _ _ _ (fun p hp => ?_) (pairwise_addr o.wf.inj cl1 cl2)
    have e := cl1 p hp
    have hf : scope.names.lookup p.1 = some .free := by
      rcases closL_free hp with h | h
      · exact lookup_of_mem S.nodup h
      · cases h
    obtain ⟨ob, e1, _⟩ := h1.2 p.1 p.2 (kF _ hf) e
    have := old p.2 (by rw [e1]; rfl)
    exact Nat.lt_of_lt_of_le this (by rw [hsz]; omega)
  · have hm : scope.names.lookup x = some .cell := by
      obtain ⟨p, hp, rfl⟩ := List.mem_map.mp hx
      obtain ⟨hp1, hp2⟩ := List.mem_filter.mp hp
      have : p.2 = .cell := by simpa using hp2
      exact lookup_of_mem S.nodup (by rw [← this]; exact hp1)
    rcases newc x c hc with h | ⟨_, h, _⟩
    · have := clFree x c h
      rw [hm] at this; cases this
    · exact none_of c (by omega)
  · exact k₂.trans (Kp.trans (Kp.push (s := s₂) (o := { cls := .type "list", data := .seq #[] })) ⟨hk3, ⟨[], by simp [s₃], fun _ h => nomatch h⟩, rfl⟩)
  · rcases List.mem_cons.mp ha with rfl | ha
    · exact ⟨_, hk3 _ _ (Heap.get?_push_size _ rfl)⟩
    · rcases List.mem_append.mp ha with ha | ha
      · obtain ⟨_, ob, e⟩ := hex a ha
        exact ⟨ob, hk3 _ _ (hkD _ _ e)⟩
      · obtain ⟨ob, e⟩ := o.live a ha
        exact ⟨ob, hk _ _ e⟩
  · have hne : x ≠ accN := by
      rintro rfl
      have hx' : (compEnvC scope cells C F.env).kindOf accN = some .local := hx
      rw [comp_kind, S.acc] at hx'; cases hx'
    have hnf : scope.names.lookup x ≠ some .free := fun h => by
      have hx' : (compEnvC scope cells C F.env).kindOf x = some .local := hx
      rcases comp_kind_free (cl := cells) (C := C) (env := F.env) h with h' | h' <;> rw [h'] at hx' <;> cases hx'
    simp [hne, hnf]
  · have hne : x ≠ accN := by
      rintro rfl
      rcases comp_kind_back hx with h | h <;> rw [S.acc] at h <;> cases h
    simp only [hne, if_false]
    rcases newc x c hc with h | ⟨h, _, h'⟩
    · rw [if_pos (clFree x c h)]
      exact (clCell x c h).keeps hk
    · rw [if_neg (by rw [h']; decide)]; exact h
  · have hd' : (if scope.names.lookup x = some .free then F.ρ x else none) = some d := hd
    split at hd'
    · rename_i hf
      obtain ⟨v, e1, e2⟩ := h2 x d hd'
      have hne : x ≠ accN := by rintro rfl; rw [S.acc] at hf; cases hf
      refine ⟨v, by simp [hne, hf, e1], ?_⟩
      exact ((e2.freshL fun a ha => (hex a ha).1).fresh (none_of D (Nat.le_refl _))).keep hk
    · cases hd'
  · have hd' : (if x = accN then some (D, []) else if scope.names.lookup x = some .free then F.mt x else none) = some (a, ds) := hd
    split at hd'
    · rename_i hx
      cases hd'
      exact ⟨by simp [hx], List.mem_cons_self, fun _ => none_of D (Nat.le_refl _), [], 0, hk3 _ _ (Heap.get?_push_size _ rfl), .nil⟩
    · rename_i hx
      split at hd'
      · rename_i hf
        obtain ⟨e1, e2, e3, vs, n, e4, e5⟩ := h3 x a ds hd'
        refine ⟨by simp [hx, hf, e1], List.mem_cons_of_mem _ (List.mem_append.mpr (.inr e2)), fun hm => absurd (List.mem_singleton.mp hm) hx, vs, n, hk _ _ e4, ((e5.freshL fun a ha => (hex a ha).1).fresh (none_of D (Nat.le_refl _))).keep hk⟩
      · cases hd'
  · have f : ∀ {x a ds}, (compFm F s scope cells ex C D []).mt x = some (a, ds) → (x = accN ∧ a = D) ∨ (F.mt x = some (a, ds)) := fun {x a ds} hd => by
      have hd' : (if x = accN then some (D, []) else if scope.names.lookup x = some .free then F.mt x else none) = some (a, ds) := hd
      split at hd'
      · cases hd'; exact .inl ⟨by assumption, rfl⟩
      · split at hd'
        · exact .inr hd'
        · cases hd'
    have nD : ∀ {x ds}, F.mt x ≠ some (D, ds) := fun {x ds} h => by
      obtain ⟨_, _, _, vs, n, e4, _⟩ := h3 x D ds h
      have := old D (by rw [e4]; rfl)
      exact Nat.lt_irrefl _ this
    rcases f hx with ⟨rfl, rfl⟩ | hx' <;> rcases f hy with ⟨rfl, h'⟩ | hy'
    · rfl
    · exact absurd hy' nD
    · subst h'; exact absurd hx' nD
    · exact h4 x y a ds es hx' hy'
end Mine

end

section
open PySem PySem.W PyProof.Rows
set_option Elab.async false
set_option linter.unusedVariables false
namespace Mine

theorem Fm.Ok.sub {F : Fm} {s : Shared} (o : F.Ok s) {ρ' : Str → Option Dat} {mt' : Str → Option (Addr × List Dat)} (hρ : ∀ x d, ρ' x = some d → F.ρ x = some d) (hm : ∀ x p, mt' x = some p → F.mt x = some p) : ({ F with ρ := ρ', mt := mt' } : Fm).Ok s := by
  obtain ⟨σ, h1, h2, h3, h4⟩ := o.sto
  exact ⟨o.aok, o.wf, o.off, o.cof, o.kp, o.top0, o.live, o.pins, o.gpins, σ, h1, fun x d e => h2 x d (hρ x d e), fun x a ds e => h3 x a ds (hm x _ e), fun x y a ds es e1 e2 => h4 x y a ds es (hm x _ e1) (hm y _ e2)⟩

theorem sets_eq : ∀ (xs : List Str) (ds : List Dat) (G : Fm), ∃ ρ' mt', G.sets xs ds = { G with ρ := ρ', mt := mt' } ∧ (∀ x ∉ xs, ρ' x = G.ρ x) ∧ (∀ x ∉ xs, mt' x = G.mt x) ∧ (∀ x p, mt' x = some p → G.mt x = some p) ∧
    (xs.Nodup → ∀ (i : Nat) x d, xs[i]? = some x → ds[i]? = some d → ρ' x = some d)
  | [], ds, G => ⟨G.ρ, G.mt, by cases ds <;> rfl, fun _ _ => rfl, fun _ _ => rfl, fun _ _ h => h, fun _ i x d h => by simp at h⟩
  | x :: xs, [], G => ⟨G.ρ, G.mt, rfl, fun _ _ => rfl, fun _ _ => rfl, fun _ _ h => h, fun _ i y d h h' => by simp at h'⟩
  | x :: xs, d :: ds, G => by
    obtain ⟨ρ', mt', e, h1, h2, h3, h4⟩ := sets_eq xs ds (G.set x d)
    refine ⟨ρ', mt', e, fun y hy => ?_, fun y hy => ?_, fun y p hp => ?_, fun hn i y e' hi hd => ?_⟩
    · rw [List.mem_cons, not_or] at hy
      rw [h1 y hy.2]; exact upd_other hy.1
    · rw [List.mem_cons, not_or] at hy
      rw [h2 y hy.2]; exact upd_other hy.1
    · have := h3 y p hp
      by_cases hyx : y = x
      · subst hyx
        have h' : (none : Option (Addr × List Dat)) = some p := by rw [← this]; exact upd_self.symm
        cases h'
      · rw [← this]; exact (upd_other hyx).symm
    · rw [List.nodup_cons] at hn
      cases i with
      | zero =>
        simp at hi hd; subst hi hd
        rw [h1 x hn.1]; exact upd_self
      | succ i =>
        simp only [List.getElem?_cons_succ] at hi hd
        exact h4 hn.2 i y e' hi hd

theorem compFm_acc {F : Fm} {s : Shared} {scope : Scope} {cells : List (Str × Addr)} {ex : List Addr} {C D : Addr} {ys : List Dat} : (compFm F s scope cells ex C D ys).mt accN = some (D, ys) := by
  simp only [compFm, if_true]

structure CompLike (F : Fm) (s : Shared) (fp ex : List Addr) (names : List Str) (G : Fm) : Prop where
  prog : G.prog = F.prog
  w : G.w = F.w
  A : G.A = F.A
  base : G.base = s
  X : ∃ D, D ∉ fp ∧ G.X = D :: (ex ++ F.X)
  pin : G.pin = []
  stor : ∀ x ∈ names, Stor G x

noncomputable def CSrc (F : Fm) (s s₂ : Shared) (it : Value) (target : Expr) (names : List Str) (dss : List (List Dat)) : Prop :=
  Kp s s₂ ∧ ∃ (St : Nat → Heap → Prop) (fp ex wr : List Addr), St 0 s₂.heap ∧ (∀ i h, St i h → ∀ b ∈ wr, b ∈ fp ∧ ∃ o, h.get? b = some o ∧ Fx o ∧ (¬ Seqy o ∨ b ∈ ex)) ∧ (∀ b ∈ wr, s.heap.get? b = none) ∧ (∀ b ∈ fp, b < s₂.heap.objs.size) ∧ (∀ a ∈ ex, s.heap.get? a = none ∧ ∃ o, s₂.heap.get? a = some o) ∧
    (∀ i h h', St i h → (∀ b ∈ fp, ∀ o, h.get? b = some o → h'.get? b = some o) → St i h') ∧
    (∀ i s' (Q : Value → Shared → Prop) (E : Value → Shared → Prop), St i s'.heap → Q it s' → wpAny (model F.prog F.w) F.A (pyIter it) Q E s') ∧
    (∀ i ds, dss[i]? = some ds → ∀ G : Fm, CompLike F s fp ex names G → ∀ s' (Q : Unit → Shared → Prop) (E : Value → Shared → Prop), G.Ok s' → St i s'.heap → (∀ s'', (G.sets names ds).Ok s'' → St (i + 1) s''.heap → Q () s'') →
      wpAny (model F.prog F.w) F.A (pyNext it) (fun r s₃ => match r with | none => False | some v => wpAny (model F.prog F.w) F.A (letOwnedTupleGo target it v) (fun _ s₄ => wpAny (model F.prog F.w) F.A (assign target G.env v) Q E s₄) E s₃) E s') ∧
    (∀ s' (Q : Option Value → Shared → Prop) (E : Value → Shared → Prop), St dss.length s'.heap → (∀ h' tk, (∀ b o, b ∉ wr → s'.heap.get? b = some o → h'.get? b = some o) → Q none { s' with heap := h', toks := tk }) → wpAny (model F.prog F.w) F.A (pyNext it) Q E s')

structure CompFr (F : Fm) (scope : Scope) (names : List Str) (ds : List Dat) (H : Fm) : Prop where
  prog : H.prog = F.prog
  w : H.w = F.w
  T : H.T = F.T
  n : H.n = F.n
  A : H.A = F.A
  kind : ∀ x k, scope.names.lookup x = some k → k ≠ .free → H.env.kindOf x = some k
  free : ∀ x, scope.names.lookup x = some .free → H.env.kindOf x = some .cell ∨ H.env.kindOf x = some .free
  tgt : ∀ (i : Nat) x d, names[i]? = some x → ds[i]? = some d → H.ρ x = some d
  fr : ∀ x, scope.names.lookup x = some .free → H.ρ x = F.ρ x
  fm : ∀ x, scope.names.lookup x = some .free → H.mt x = F.mt x

noncomputable def TL (H : Fm) (ifs : List Expr) (b : Bool) : Prop := (ifs = [] ∧ b = true) ∨ ∃ c, ifs = [c] ∧ Tst H c b

theorem compLoop_any {prog : Program} {w : World} {A : Around} {R : Result → Shared → Prop} {s : Shared} {elt target iter : Expr} {ifs : List Expr} {scope : Scope} {pos : Pos} {it acc : Value} {env : Env} (I : Nat → Shared → Prop)
    (turn : ∀ n s, I n s → wpAny (model prog w) A (pyNext it) (fun r s₁ => match r with
      | none => R (.ok .next) s₁
      | some v => wpAny (model prog w) A (letOwnedTupleGo target it v) (fun _ s₁' => wpAny (model prog w) A (assign target env v) (fun _ s₂ =>
          wpAny (model prog w) A (forIn ifs true fun c r => if r = true then do let ok ← isTrue c env (eval c env); pure (ForInStep.yield ok) else pure (ForInStep.yield r)) (fun ok s₃ =>
            if ok = true then wpAny (model prog w) A (eval elt env) (fun x s₄ =>
              wpAny (model prog w) A (call (.builtin "list.append") [acc, x]) (fun _ s₅ => ∃ m, m < n ∧ I m s₅) (fun _ _ => False) s₄) (fun _ _ => False) s₃
            else ∃ m, m < n ∧ I m s₃) (fun _ _ => False) s₂) (fun _ _ => False) s₁') (fun _ _ => False) s₁) (fun _ _ => False) s)
    (n : Nat) (h : I n s) :
    codeAny (model prog w) A (.compLoop (.ListComp elt [⟨target, iter, ifs, 0⟩] scope pos) 0 it acc env) R s := by
  refine codeAny_loop rfl I (fun n s hI => ?_) n h
  show wpAny _ A ((compTurn (.ListComp elt [⟨target, iter, ifs, 0⟩] scope pos) 0 it acc env).onRaise (fun x => do noteFrame x env; theTreesLotGoes x)) _ _ s
  refine wpAny_noted ?_
  rw [compTurn_list]
  refine wpAny_bind (wpAny_standAt (wpAny_bind (wpAny_mono (turn n s hI) (fun r s₁ h₁ => ?_) fun _ _ h' => h'.elim)))
  cases r with
  | none => exact wpAny_pure h₁
  | some v =>
    refine wpAny_bind (wpAny_mono h₁ (fun _ s₁' h₁' => ?_) fun _ _ h' => h'.elim)
    refine wpAny_bind (wpAny_mono h₁' (fun _ s₂ h₂ => wpAny_bind (wpAny_mono h₂ (fun ok s₃ h₃ => ?_) fun _ _ h' => h'.elim)) fun _ _ h' => h'.elim)
    cases ok with
    | false => exact wpAny_pure ⟨rfl, h₃⟩
    | true =>
      exact wpAny_bind (wpAny_bind (wpAny_mono h₃ (fun x s₄ h₄ => wpAny_bind (wpAny_mono h₄ (fun _ s₅ h₅ => wpAny_pure (wpAny_pure ⟨rfl, h₅⟩)) fun _ _ h' => h'.elim)) fun _ _ h' => h'.elim))

theorem comp_wp {F : Fm} {s : Shared} (o : F.Ok s) {elt target iter : Expr} {ifs : List Expr} {scope : Scope} {pos pos' : Pos} {names : List Str} {dss : List (List Dat)} {keep : List Dat → Bool} {fn : List Dat → Dat} {use : Option (Value → Sem Unit)} {Q : Value → Shared → Prop} {E : Value → Shared → Prop}
    (S : ScOk F scope names) (hnd : names.Nodup) (hsz : dss.length < sizeLine) (hs : ∀ x, foldedSetIterable iter F.env x = pure x)
    (hsrc : ∀ (Q : Value → Shared → Prop) (E : Value → Shared → Prop), (∀ it s₂, CSrc F s s₂ it target names dss → Q it s₂) → wpAny (model F.prog F.w) F.A (eval iter F.env) (fun x s₁ => wpAny (model F.prog F.w) F.A (pyIter x) Q E s₁) E s)
    (hturn : ∀ ds ∈ dss, ∀ H, CompFr F scope names ds H → TL H ifs (keep ds) ∧ (keep ds = true → Ev H elt (fn ds)))
    (hfin : ∀ C D s' vs k, Kp s s' → s'.heap.get? D = some (lstO vs k) → RpAll F.X s'.heap vs ((dss.filter keep).map fn) → s.heap.get? D = none → D ∉ F.X → s.heap.get? C = none → (∃ m, s'.heap.Ns C m) → compPost (model F.prog F.w) F.A E use Q (.ref D) C (.ok .next) s') :
    wpAny (model F.prog F.w) F.A (comprehension (.ListComp elt [⟨target, iter, ifs, 0⟩] scope pos) scope F.env pos' (newList []) false (eval iter F.env) use) Q E s := by
  have hfree : ∀ x ∈ scope.names, x.2 = .free → ∃ c, F.env.cells.lookup x.1 = some c := fun x hx hf => by
    obtain ⟨n, k⟩ := x
    simp only at hf; subst hf
    rcases S.free n (lookup_of_mem S.nodup hx) with h | h
    · exact o.wf.cl n (.inl h)
    · exact o.wf.cl n (.inr h)
  refine wpAny_comprehension_free (g := ⟨target, iter, ifs, 0⟩) (gs := []) rfl hs (closureFor_is hfree) S.kind (fun x hx hl => by rw [← hl]; exact lookup_of_mem S.nodup hx) (hsrc _ _ fun it s₂ src => ?_)
  obtain ⟨k₂, St, fp, ex, wr, st0, hwr, hwrN, hfp, hex, hframe, hself, hstep, hdone⟩ := src
  refine wpAny_newObj_type ?_
  refine newCompEnv ?_
  have G0 := comp_start (names := names) o k₂ S hex
  simp only at G0
  have hsz3 : (s₂.heap.push { cls := .type "list", data := .seq #[] }).objs.size = s₂.heap.objs.size + 1 := Heap.size_push ..
  have keepAll : ∀ b ob, s₂.heap.get? b = some ob → (pushCells ((s₂.heap.push { cls := .type "list", data := .seq #[] }).push { cls := .type "dict", data := .dict #[] }) scope.names).get? b = some ob := fun b ob e => pushCells_keeps _ _ _ _ (Heap.get?_push_of_some _ (Heap.get?_push_of_some _ e))
  have st4 : St 0 (pushCells ((s₂.heap.push { cls := .type "list", data := .seq #[] }).push { cls := .type "dict", data := .dict #[] }) scope.names) := hframe 0 _ _ st0 fun b _ ob e => keepAll b ob e
  have hD : s.heap.get? s₂.heap.objs.size = none := by
    cases e : s.heap.get? s₂.heap.objs.size with
    | none => rfl
    | some ob => exact absurd (Heap.lt_size (k₂.heap _ _ e)) (Nat.lt_irrefl _)
  have hC : s.heap.get? (s₂.heap.push { cls := .type "list", data := .seq #[] }).objs.size = none := by
    rw [hsz3]
    cases e : s.heap.get? (s₂.heap.objs.size + 1) with
    | none => rfl
    | some ob => exact absurd (Heap.lt_size (k₂.heap _ _ e)) (Nat.not_lt.mpr (Nat.le_succ _))
  have hDX : s₂.heap.objs.size ∉ F.X := fun hm => by
    obtain ⟨ob, e⟩ := o.live _ hm
    rw [hD] at e; cases e
  have hfpD : ∀ b ∈ fp, b ≠ s₂.heap.objs.size := fun b hb => Nat.ne_of_lt (hfp b hb)
  generalize (s₂.heap.objs.size) = D at G0 hD hDX hfpD ⊢
  generalize (s₂.heap.push { cls := .type "list", data := .seq #[] }).objs.size = C at G0 hC ⊢
  generalize hcells : cellsFrom (C + 1) scope.names (closL F.env.cells scope.names []) = cells at G0 ⊢
  show codeAny _ _ (.compStart _ 0 it (.ref D) (compEnvC scope cells C F.env)) (compPost _ _ _ use Q (.ref D) C) _
  have like : ∀ ys, CompLike F s fp ex names (compFm F s scope cells ex C D ys) := fun ys => ⟨rfl, rfl, rfl, rfl, ⟨D, fun hm => hfpD D hm rfl, rfl⟩, rfl, fun x hx => by
    rcases S.names x hx with h | h
    · exact .inl (comp_kind_plain h (by decide))
    · exact .inr ⟨comp_kind_plain h (by decide), List.mem_map.mpr ⟨(x, .cell), List.mem_filter.mpr ⟨mem_of_lookup h, rfl⟩, rfl⟩⟩⟩
  have hacc : accN ∉ names := fun hm => by
    rcases S.names _ hm with h | h <;> rw [S.acc] at h <;> cases h
  have hfn : ∀ x, scope.names.lookup x = some .free → x ∉ names := fun x hf hm => by
    rcases S.names _ hm with h | h <;> rw [hf] at h <;> cases h
  have hfa : ∀ x, scope.names.lookup x = some .free → x ≠ accN := fun x hf => by rintro rfl; rw [S.acc] at hf; cases hf
  have loop : ∀ s₄ : Shared, (compFm F s scope cells ex C D []).Ok s₄ → St 0 s₄.heap → codeAny (model F.prog F.w) F.A (.compLoop (.ListComp elt [⟨target, iter, ifs, 0⟩] scope pos) 0 it (.ref D) (compEnvC scope cells C F.env)) (compPost (model F.prog F.w) F.A E use Q (.ref D) C) s₄ := by
    intro s₄ o₄ st₄
    refine compLoop_any (fun m s' => ∃ i, i ≤ dss.length ∧ m = dss.length - i ∧ (compFm F s scope cells ex C D (((dss.take i).filter keep).map fn)).Ok s' ∧ St i s'.heap) ?_ dss.length ⟨0, Nat.zero_le _, rfl, by simpa using o₄, st₄⟩
    rintro m s' ⟨i, hi, rfl, oi, sti⟩
    rcases Nat.lt_or_ge i dss.length with hlt | hge
    · have hds : dss[i]? = some dss[i] := List.getElem?_eq_getElem hlt
      have hmem : dss[i] ∈ dss := List.getElem_mem hlt
      generalize dss[i] = ds at hds hmem
      have htake : dss.take (i + 1) = dss.take i ++ [ds] := by rw [List.take_add_one, hds]; rfl
      refine wpAny_mono (hstep i ds hds _ (like _) s' (fun _ s₅ => wpAny (model F.prog F.w) F.A (forIn ifs true fun c r => if r = true then do let ok ← isTrue c (compEnvC scope cells C F.env) (eval c (compEnvC scope cells C F.env)); pure (ForInStep.yield ok) else pure (ForInStep.yield r)) (fun ok s₃ =>
            if ok = true then wpAny (model F.prog F.w) F.A (eval elt (compEnvC scope cells C F.env)) (fun x s₄ =>
              wpAny (model F.prog F.w) F.A (PySem.call (.builtin "list.append") [.ref D, x]) (fun _ s₅ => ∃ m, m < dss.length - i ∧ ∃ i, i ≤ dss.length ∧ m = dss.length - i ∧ (compFm F s scope cells ex C D (((dss.take i).filter keep).map fn)).Ok s₅ ∧ St i s₅.heap) (fun _ _ => False) s₄) (fun _ _ => False) s₃
            else ∃ m, m < dss.length - i ∧ ∃ i, i ≤ dss.length ∧ m = dss.length - i ∧ (compFm F s scope cells ex C D (((dss.take i).filter keep).map fn)).Ok s₃ ∧ St i s₃.heap) (fun _ _ => False) s₅) (fun _ _ => False) oi sti fun s₅ o₅ st₅ => ?_) (fun r s₆ h₆ => by cases r with | none => exact h₆.elim | some v => exact h₆) fun _ _ x => x
      obtain ⟨ρ', mt', e, e1, e2, e3, e4⟩ := sets_eq names ds (compFm F s scope cells ex C D (((dss.take i).filter keep).map fn))
      rw [e] at o₅
      have fr : CompFr F scope names ds { (compFm F s scope cells ex C D (((dss.take i).filter keep).map fn)) with ρ := ρ', mt := mt' } := by
        refine ⟨rfl, rfl, rfl, rfl, rfl, fun x k h hk => comp_kind_plain h hk, fun x h => comp_kind_free h, e4 hnd, fun x h => ?_, fun x h => ?_⟩
        · show ρ' x = F.ρ x
          rw [e1 x (hfn x h)]; exact if_pos h
        · show mt' x = F.mt x
          rw [e2 x (hfn x h)]
          show (if x = accN then _ else if scope.names.lookup x = some .free then F.mt x else none) = F.mt x
          rw [if_neg (hfa x h), if_pos h]
      obtain ⟨ht, he⟩ := hturn ds hmem _ fr
      have after : ∀ s₇ ok, ok = keep ds → Kp s₅ s₇ → (if ok = true then wpAny (model F.prog F.w) F.A (eval elt (compEnvC scope cells C F.env)) (fun x s₄ =>
              wpAny (model F.prog F.w) F.A (PySem.call (.builtin "list.append") [.ref D, x]) (fun _ s₅ => ∃ m, m < dss.length - i ∧ ∃ i, i ≤ dss.length ∧ m = dss.length - i ∧ (compFm F s scope cells ex C D (((dss.take i).filter keep).map fn)).Ok s₅ ∧ St i s₅.heap) (fun _ _ => False) s₄) (fun _ _ => False) s₇
            else ∃ m, m < dss.length - i ∧ ∃ i, i ≤ dss.length ∧ m = dss.length - i ∧ (compFm F s scope cells ex C D (((dss.take i).filter keep).map fn)).Ok s₇ ∧ St i s₇.heap) := by
        intro s₇ ok hok k₇
        have o₇ := o₅.keep k₇
        have st₇ := hframe _ _ _ st₅ fun b _ ob e => k₇.heap b ob e
        cases hk : keep ds with
        | false =>
          rw [hok, hk, if_neg (by decide)]
          refine ⟨dss.length - (i + 1), by omega, i + 1, hlt, rfl, ?_, st₇⟩
          rw [htake, List.filter_append, List.filter_cons_of_neg (by simp [hk]), List.filter_nil, List.append_nil]
          refine o₇.sub (fun x d h => ?_) fun x p h => ?_
          · have h' : (if scope.names.lookup x = some .free then F.ρ x else none) = some d := h
            split at h'
            · rename_i hf
              show ρ' x = some d
              rw [e1 x (hfn x hf)]; exact h
            · cases h'
          · have h' : (if x = accN then _ else if scope.names.lookup x = some .free then F.mt x else none) = some p := h
            show mt' x = some p
            rw [e2 x ?_]; exact h
            split at h'
            · rename_i hx; rw [hx]; exact hacc
            · split at h'
              · rename_i hf; exact hfn x hf
              · cases h'
        | true =>
          rw [hok, hk, if_pos rfl]
          refine he hk s₇ o₇ _ _ fun x s₈ k₈ r₈ => ?_
          have o₈ := o₇.keep k₈
          have st₈ := hframe _ _ _ st₇ fun b _ ob e => k₈.heap b ob e
          refine append_core' (F := { (compFm F s scope cells ex C D (((dss.take i).filter keep).map fn)) with ρ := ρ', mt := mt' }) o₈ (x := accN) (a := D) (ds := ((dss.take i).filter keep).map fn) ?_ List.mem_cons_self r₈ ?_ fun s₉ o₉ k₉ => ?_
          · show mt' accN = _
            rw [e2 accN hacc]; exact compFm_acc
          · rw [List.length_map]
            have := List.length_filter_le keep (dss.take i)
            rw [List.length_take] at this
            omega
          · refine ⟨dss.length - (i + 1), by omega, i + 1, hlt, rfl, ?_, hframe _ _ _ st₈ fun b hb ob e => k₉ b ob (hfpD b hb) e⟩
            rw [htake, List.filter_append, List.filter_cons_of_pos hk, List.filter_nil, List.map_append, List.map_cons, List.map_nil]
            refine o₉.sub (fun x d h => ?_) fun x p h => ?_
            · have h' : (if scope.names.lookup x = some .free then F.ρ x else none) = some d := h
              split at h'
              · rename_i hf
                show ρ' x = some d
                rw [e1 x (hfn x hf)]; exact h
              · cases h'
            · have h' : (if x = accN then _ else if scope.names.lookup x = some .free then F.mt x else none) = some p := h
              show upd mt' accN _ x = some p
              split at h'
              · rename_i hx; rw [hx, upd_self]; exact h'
              · rename_i hx
                rw [upd_other hx]
                split at h'
                · rename_i hf
                  rw [e2 x (hfn x hf)]
                  show (if x = accN then _ else if scope.names.lookup x = some .free then F.mt x else none) = some p
                  rw [if_neg hx, if_pos hf]; exact h'
                · cases h'
      rcases ht with ⟨rfl, hkt⟩ | ⟨c, rfl, hc⟩
      · exact wpAny_tests_nil (after s₅ true hkt.symm (Kp.refl _))
      · exact wpAny_tests_one (hc s₅ o₅ _ _ fun s₇ k₇ => after s₇ _ rfl k₇)
    · have hin : i = dss.length := by omega
      subst hin
      refine hdone s' _ _ sti fun h' tk hk' => ?_
      rw [List.take_length] at oi
      obtain ⟨σ, h1, h2, h3, h4⟩ := oi.sto
      obtain ⟨_, _, _, vs, k, g1, g2⟩ := h3 accN D ((dss.filter keep).map fn) compFm_acc
      obtain ⟨⟨m, hns, _⟩, _⟩ := h1
      have hDw : D ∉ wr := fun hm => hfpD D (hwr _ _ sti D hm).1 rfl
      have hns' : h'.Ns C m := hns.at' fun ob e => hk' _ ob (fun hm => by
        obtain ⟨_, o', e', hf, _⟩ := hwr _ _ sti _ hm
        obtain ⟨oL, es, ep, hL, hLd⟩ := ns_obj hns
        rw [hL] at e'; cases e'
        exact hf.1 _ _ hLd) e
      refine hfin C D _ vs k ⟨fun b ob e => hk' b ob (fun hm => by rw [hwrN b hm] at e; cases e) (oi.kp.heap b ob e), oi.kp.gens, oi.kp.os⟩ (hk' _ _ hDw g1) ?_ hD hDX hC ⟨m, hns'⟩
      refine RpAll.weaken (fun a ha => List.mem_cons_of_mem _ (List.mem_append.mpr (.inr ha))) (g2.mono fun b ob hbX hq e => hk' b ob (fun hm => ?_) e)
      obtain ⟨_, o', e', _, hf⟩ := hwr _ _ sti _ hm
      rw [e] at e'; cases e'
      rcases hf with hf | hf
      · exact hf hq
      · exact hbX (List.mem_cons_of_mem _ (List.mem_append.mpr (.inl hf)))
  exact codeAny_compStart_list (loop _ G0 st4) (hself 0 _ _ _ st4 (loop _ G0 st4))
end Mine

end

section
open PySem PySem.W PyProof.Rows
set_option Elab.async false
set_option linter.unusedVariables false
namespace Mine

/-- objects that are no datum, no name's place and not of the base change -/
theorem Fm.Ok.turnedS {F : Fm} {s : Shared} (o : F.Ok s) {wr : List Addr} (hw : ∀ b ∈ wr, ∃ ob, s.heap.get? b = some ob ∧ Fx ob ∧ (¬ Seqy ob ∨ b ∈ F.X)) (hb : ∀ b ∈ wr, F.base.heap.get? b = none) (hpin : ∀ p ∈ F.pin, p.1 ∉ wr)
    (hm : ∀ x a ds, F.mt x = some (a, ds) → a ∉ wr) {h' : Heap} {tk : Nat}
    (hk : ∀ b ob, b ∉ wr → s.heap.get? b = some ob → h'.get? b = some ob) (hlive : ∀ b ∈ wr, b ∈ F.X → ∃ ob, h'.get? b = some ob) : F.Ok { s with heap := h', toks := tk } := by
  obtain ⟨σ, h1, h2, h3, h4⟩ := o.sto
  have mono : ∀ b ob, b ∉ F.X → Seqy ob → s.heap.get? b = some ob → h'.get? b = some ob := fun b ob hX hq e => hk b ob (fun hm => by
    obtain ⟨ob', e', _, h⟩ := hw b hm
    rw [e] at e'; cases e'
    rcases h with h | h
    · exact h hq
    · exact hX h) e
  refine ⟨o.aok, o.wf, o.off, o.cof, ⟨fun b ob e => hk b ob (fun hm => by rw [hb b hm] at e; cases e) (o.kp.heap b ob e), o.kp.gens, o.kp.os⟩, o.top0, fun b hb' => ?_, fun p hp => ⟨hk _ _ (hpin p hp) (o.pins p hp).1, (o.pins p hp).2⟩, o.gpins, σ, ?_, fun x d e => ?_, fun x b ds e => ?_, h4⟩
  · by_cases hbw : b ∈ wr
    · exact hlive b hbw hb'
    · obtain ⟨ob, e⟩ := o.live b hb'
      exact ⟨ob, hk b ob hbw e⟩
  · obtain ⟨⟨m, g4, g5⟩, g6⟩ := h1
    refine ⟨⟨m, g4.at' fun ob e => hk _ ob (fun hm => ?_) e, g5⟩, fun y c hy hc => ?_⟩
    · obtain ⟨oL, es, ep, hL, hLd⟩ := ns_obj g4
      obtain ⟨ob', e', hfx, _⟩ := hw _ hm
      rw [hL] at e'; cases e'; exact hfx.1 _ _ hLd
    · obtain ⟨o', e', hd'⟩ := g6 y c hy hc
      exact ⟨o', hk c o' (fun hm => by
        obtain ⟨ob', e'', hfx, _⟩ := hw _ hm
        rw [e'] at e''; cases e''; exact hfx.2 _ hd') e', hd'⟩
  · obtain ⟨v, e1, e2⟩ := h2 x d e
    exact ⟨v, e1, e2.mono mono⟩
  · obtain ⟨e1, e2, e3, vs, n, e4, e5⟩ := h3 x b ds e
    exact ⟨e1, e2, e3, vs, n, hk _ _ (hm x b ds e) e4, e5.mono mono⟩

theorem csrc_walks {F : Fm} {s s₂ : Shared} {I : Addr} {fp wr : List Addr} {n : Nat} {P : Nat → Value → Prop} {St : Nat → Heap → Prop} {x : Str} {px : Pos} {ds : List Dat} (k₂ : Kp s s₂) (W : Walks F.prog F.w F.A I fp wr n P St) (st0 : St 0 s₂.heap) (hfp : ∀ b ∈ fp, b < s₂.heap.objs.size)
    (hwr : ∀ b ∈ wr, s.heap.get? b = none) (hwX : ∀ b ∈ wr, b ∉ F.X) (hob : ∀ i h, St i h → ∀ b ∈ fp, ∃ o, h.get? b = some o ∧ Fx o ∧ (b ∈ wr → ¬ Seqy o)) (hlen : ds.length = n)
    (hP : ∀ i v d, P i v → ds[i]? = some d → ∀ X h, Rp X h v d) : CSrc F s s₂ (.ref I) (.Name x px) [x] (ds.map fun d => [d]) := by
  refine ⟨k₂, St, fp, [], wr, st0, (fun i h st b hb => ⟨W.sub b hb, let ⟨o, e1, e2, e3⟩ := hob i h st b (W.sub b hb); ⟨o, e1, e2, .inl (e3 hb)⟩⟩), hwr, hfp, (fun a ha => nomatch ha), W.frame, fun i s' Q E st q => W.self i s' Q E st q, ?_, ?_⟩
  · intro i ds' hds G L s' Q E oG st k
    obtain ⟨d, hd, rfl⟩ : ∃ d, ds[i]? = some d ∧ ds' = [d] := by
      rw [List.getElem?_map] at hds
      cases e : ds[i]? with
      | none => rw [e] at hds; cases hds
      | some d => rw [e] at hds; cases hds; exact ⟨d, rfl, rfl⟩
    have hin : i < n := by rw [← hlen]; exact (List.getElem?_eq_some_iff.mp hd).1
    refine W.item i s' _ _ hin st fun v h' tk hPv st' hk => ?_
    obtain ⟨D, hD, hX⟩ := L.X
    have og : G.Ok { s' with heap := h', toks := tk } := by
      refine oG.turnedS (wr := wr) (fun b hb => ?_) (fun b hb => by rw [L.base]; exact hwr b hb) (fun p hp => by rw [L.pin] at hp; cases hp) (fun y a es hy hm => ?_) hk (fun b hb hbX => ?_)
      · obtain ⟨ob, e1, e2, e3⟩ := hob i _ st b (W.sub b hb)
        exact ⟨ob, e1, e2, .inl (e3 hb)⟩
      · obtain ⟨σ, _, _, h3, _⟩ := oG.sto
        obtain ⟨_, _, _, vs, m, e4, _⟩ := h3 y a es hy
        obtain ⟨ob, e1, _, e3⟩ := hob i _ st a (W.sub a hm)
        rw [e4] at e1; cases e1
        exact e3 hm (.inr ⟨_, _, rfl⟩)
      · rw [hX] at hbX
        rcases List.mem_cons.mp hbX with e | hbX
        · subst e; exact absurd (W.sub _ hb) hD
        · exact absurd hbX (hwX b hb)
    show wpAny _ _ (letOwnedTupleGo (.Name x px) (.ref I) v) _ _ _
    refine wpAny_pure (wpAny_assign_Name ?_)
    have := store_set' (Q := Q) (E := E) og (L.stor x List.mem_cons_self) (hP i v d hPv hd G.X h') fun s'' o'' _ hfx => k s'' o'' (W.frame _ _ _ st' fun b hb ob e => ?_)
    · rw [L.prog, L.w, L.A] at this; exact this
    · obtain ⟨ob', e1, e2, _⟩ := hob _ _ st' b hb
      have e1' : ob' = ob := Option.some.inj (e1.symm.trans e)
      exact hfx b ob e (e1' ▸ e2)
  · intro s' Q E st k
    rw [List.length_map, hlen] at st
    exact W.done s' Q E st k

/-- what a comprehension goes over -/
noncomputable def Src (F : Fm) (iter target : Expr) (names : List Str) (dss : List (List Dat)) : Prop := ∀ s, F.Ok s → ∀ (Q : Value → Shared → Prop) (E : Value → Shared → Prop),
  (∀ it s₂, CSrc F s s₂ it target names dss → Q it s₂) → wpAny (model F.prog F.w) F.A (eval iter F.env) (fun x s₁ => wpAny (model F.prog F.w) F.A (pyIter x) Q E s₁) E s

theorem fields_fx {o : Obj} {vs : Array Value} (h : o.data = .fields vs) : Fx o ∧ ¬ Seqy o := by
  refine ⟨⟨(fun _ _ e => by rw [h] at e; cases e), fun _ e => by rw [h] at e; cases e⟩, ?_⟩
  rintro (⟨vs, n, rfl⟩ | ⟨vs, n, rfl⟩) <;> cases h
theorem seq_fx {o : Obj} {vs : Array Value} {n : Nat} (h : o.data = .seq vs n) : Fx o := ⟨(fun _ _ e => by rw [h] at e; cases e), fun _ e => by rw [h] at e; cases e⟩

theorem scals_get {X : List Addr} {h : Heap} {vs : List Value} {ds : List Dat} (r : RpAll X h vs ds) (hs : ds.all scal = true) {i : Nat} {v : Value} {d : Dat} (hv : vs[i]? = some v) (hd : ds[i]? = some d) (Y : List Addr) (h' : Heap) : Rp Y h' v d := by
  obtain ⟨v', e1, e2⟩ := r.get hd
  rw [hv] at e1; cases e1
  exact e2.scal (List.all_eq_true.mp hs d (List.mem_of_getElem? hd))

theorem Src.list {F : Fm} {iter : Expr} {x : Str} {px : Pos} {ds : List Dat} (h : Ev F iter (.list ds)) (hs : ds.all scal = true) : Src F iter (.Name x px) [x] (ds.map fun d => [d]) := by
  intro s o Q E k
  refine h s o _ _ fun v s₁ k₁ r => ?_
  cases r with
  | list e hX ra =>
    rename_i l vs n
    refine wpAny_pyIter_list ⟨_, e, rfl, _, rfl⟩ (k _ _ ?_)
    have hne : l ≠ s₁.heap.objs.size := Nat.ne_of_lt (Heap.lt_size e)
    refine csrc_walks (k₁.trans Kp.push) (Walks.list o.aok.handled s₁.heap.objs.size l hne vs.toArray) ⟨⟨_, Heap.get?_push_size _ rfl, rfl, rfl⟩, ⟨_, Heap.get?_push_of_some _ e, rfl, _, rfl⟩⟩ (fun b hb => ?_) (fun b hb => ?_) (fun b hb => ?_) ?_ (by rw [List.size_toArray, ra.length]) ?_
    · show b < (s₁.heap.push _).objs.size
      rw [Heap.size_push]
      simp only [List.mem_cons, List.not_mem_nil, or_false] at hb
      rcases hb with rfl | rfl
      · exact Nat.lt_succ_self _
      · exact Nat.lt_succ_of_lt (Heap.lt_size e)
    · rw [List.mem_singleton.mp hb]
      cases e' : s.heap.get? s₁.heap.objs.size with
      | none => rfl
      | some ob => exact absurd (Heap.lt_size (k₁.heap _ _ e')) (Nat.lt_irrefl _)
    · rw [List.mem_singleton.mp hb]; exact fresh_not_in (o.keep k₁).live
    · intro i h st b hb
      simp only [List.mem_cons, List.not_mem_nil, or_false] at hb
      rcases hb with rfl | rfl
      · obtain ⟨o', e1, _, e2⟩ := st.1
        exact ⟨o', e1, (fields_fx e2).1, fun _ => (fields_fx e2).2⟩
      · obtain ⟨o', e1, _, n', e2⟩ := st.2
        exact ⟨o', e1, seq_fx e2, fun hm => absurd (List.mem_singleton.mp hm) hne⟩
    · intro i v d hv hd X h'
      exact scals_get ra hs (by simpa using hv) hd X h'
theorem Src.tuple {F : Fm} {iter : Expr} {x : Str} {px : Pos} {ds : List Dat} (h : Ev F iter (.tuple ds)) (hs : ds.all scal = true) : Src F iter (.Name x px) [x] (ds.map fun d => [d]) := by
  intro s o Q E k
  refine h s o _ _ fun v s₁ k₁ r => ?_
  cases r with
  | tuple e hX ra =>
    rename_i l vs n
    refine wpAny_pyIter_tuple ⟨_, e, rfl, _, rfl⟩ (k _ _ ?_)
    have hne : l ≠ s₁.heap.objs.size := Nat.ne_of_lt (Heap.lt_size e)
    refine csrc_walks (k₁.trans Kp.push) (Walks.tuple o.aok.handled s₁.heap.objs.size l hne vs.toArray) ⟨⟨_, Heap.get?_push_size _ rfl, rfl, rfl⟩, ⟨_, Heap.get?_push_of_some _ e, rfl, _, rfl⟩⟩ (fun b hb => ?_) (fun b hb => ?_) (fun b hb => ?_) ?_ (by rw [List.size_toArray, ra.length]) ?_
    · show b < (s₁.heap.push _).objs.size
      rw [Heap.size_push]
      simp only [List.mem_cons, List.not_mem_nil, or_false] at hb
      rcases hb with rfl | rfl
      · exact Nat.lt_succ_self _
      · exact Nat.lt_succ_of_lt (Heap.lt_size e)
    · rw [List.mem_singleton.mp hb]
      cases e' : s.heap.get? s₁.heap.objs.size with
      | none => rfl
      | some ob => exact absurd (Heap.lt_size (k₁.heap _ _ e')) (Nat.lt_irrefl _)
    · rw [List.mem_singleton.mp hb]; exact fresh_not_in (o.keep k₁).live
    · intro i h st b hb
      simp only [List.mem_cons, List.not_mem_nil, or_false] at hb
      rcases hb with rfl | rfl
      · obtain ⟨o', e1, _, e2⟩ := st.1
        exact ⟨o', e1, (fields_fx e2).1, fun _ => (fields_fx e2).2⟩
      · obtain ⟨o', e1, _, n', e2⟩ := st.2
        exact ⟨o', e1, seq_fx e2, fun hm => absurd (List.mem_singleton.mp hm) hne⟩
    · intro i v d hv hd X h'
      exact scals_get ra hs (by simpa using hv) hd X h'
theorem Src.range {F : Fm} {rn x : Str} {np px q : Pos} {e : Expr} {n : Nat} (hr : F.T.G rn = some (.type "range")) (hrk : F.env.kindOf rn = some .globalImplicit) (hrd : (rn == ("__debug__" : Str)) = false) (he : Ev F e (.int n)) (hn : n < 2 ^ 62) (hst : notStar e = true) :
    Src F (.Call (.Name rn np) [e] [] q) (.Name x px) [x] (((List.range n).map fun (i : Nat) => Dat.int i).map fun d => [d]) := by
  intro s o Q E k
  refine wpAny_Call_NameR (name_glob hr hrk hrd o ?_)
  refine callWith_type1 (EvL.cons he EvL.nil hst s o _ _ fun vs s₁ k₁ r₁ => ?_) (starEach_cons hst _ _) rfl
  cases r₁ with
  | cons r₁ r' =>
    cases r'; cases r₁
    rename_i t0
    refine call_range_1 ?_
    have small : Builtin.Range.small 0 n 1 = true := small_one (by decide) (by decide) (by omega) (by omega)
    refine wpAny_pyIter_range (IsRange.new ..) small (k _ _ ?_)
    have hsz : Builtin.Range.rangeSize 0 n 1 = n := by
      rw [rangeSize_one]; split <;> omega
    rw [hsz]
    have kk : Kp s { s₁ with heap := (s₁.heap.push { cls := .type "range", data := .fields #[.int 0 s₁.toks, .int (n : Int) t0, .int 1 (s₁.toks + 1)] }), toks := s₁.toks + 1 + 1 } := k₁.trans (Kp.of_heap fun _ _ e => Heap.get?_push_of_some _ e)
    have o₂ := o.keep kk
    generalize hI : (s₁.heap.push { cls := .type "range", data := .fields #[.int 0 s₁.toks, .int (n : Int) t0, .int 1 (s₁.toks + 1)] }).objs.size = I
    refine csrc_walks (kk.trans Kp.push) (Walks.range o.aok.handled I 0 1 n) ?_ (fun b hb => ?_) (fun b hb => ?_) (fun b hb => ?_) ?_ (by simp) ?_
    · have := Heap.get?_push_size (s₁.heap.push { cls := .type "range", data := .fields #[.int 0 s₁.toks, .int (n : Int) t0, .int 1 (s₁.toks + 1)] }) (o := rangeItO 0 n 1) rfl
      rw [hI] at this
      show _ = some _
      simpa using this
    · show b < ((s₁.heap.push _).push _).objs.size
      rw [Heap.size_push, hI, List.mem_singleton.mp hb]; exact Nat.lt_succ_self _
    · rw [List.mem_singleton.mp hb]
      cases e' : s.heap.get? I with
      | none => rfl
      | some ob => exact absurd (Heap.lt_size (kk.heap _ _ e')) (by rw [← hI]; exact Nat.lt_irrefl _)
    · rw [List.mem_singleton.mp hb, ← hI]; exact fresh_not_in o₂.live
    · intro i h st b hb
      rw [List.mem_singleton.mp hb]
      exact ⟨_, st, fx_rangeIt _ _ _, fun _ => rangeIt_ns _ _ _⟩
    · intro i v d hv hd X h'
      obtain ⟨t, rfl⟩ := hv
      have : d = Dat.int i := by
        rw [List.getElem?_map] at hd
        cases e' : (List.range n)[i]? with
        | none => rw [e'] at hd; cases hd
        | some j =>
          rw [e'] at hd; cases hd
          have := List.getElem?_eq_some_iff.mp e'
          obtain ⟨hlt, e2⟩ := this
          simp at e2; subst e2; rfl
      rw [this]
      have e3 : (0 : Int) + (i : Int) * 1 = i := by omega
      rw [e3]
      exact .int _ _

/-- a list comprehension's value -/
theorem Ev.comp {F : Fm} {elt target iter : Expr} {ifs : List Expr} {scope : Scope} {pos : Pos} {names : List Str} {dss : List (List Dat)} {keep : List Dat → Bool} {fn : List Dat → Dat}
    (src : Src F iter target names dss) (S : ScOk F scope names) (hnd : names.Nodup) (hsz : dss.length < sizeLine) (hs : ∀ x, foldedSetIterable iter F.env x = pure x)
    (hturn : ∀ ds ∈ dss, ∀ H, CompFr F scope names ds H → TL H ifs (keep ds) ∧ (keep ds = true → Ev H elt (fn ds))) : Ev F (.ListComp elt [⟨target, iter, ifs, 0⟩] scope pos) (.list ((dss.filter keep).map fn)) := by
  intro s o Q E k
  rw [eval_ListComp]
  refine comp_wp (use := none) o S hnd hsz hs (src s o) hturn fun C D s' vs kk k' hD r hDs hDX hC hns => ?_
  obtain ⟨m, hns⟩ := hns
  refine ⟨m, hns, fun h' hsb => k _ _ ?_ (.list (n := kk) ?_ hDX (r.mono fun b ob _ hq e => ?_))⟩
  · refine ⟨fun b ob e => (hsb.2 b ?_).trans (k'.heap b ob e), k'.gens, k'.os⟩
    rintro rfl; rw [hC] at e; cases e
  · refine (hsb.2 D ?_).trans hD
    rintro rfl
    obtain ⟨oL, es, ep, hL, hLd⟩ := ns_obj hns
    rw [hD] at hL; cases hL; cases hLd
  · refine (hsb.2 b ?_).trans e
    rintro rfl
    obtain ⟨oL, es, ep, hL, hLd⟩ := ns_obj hns
    rw [e] at hL; cases hL; exact hq.fx.1 _ _ hLd
end Mine

end

section
open PySem PySem.W PyProof.Rows
set_option Elab.async false
set_option linter.unusedVariables false
namespace Mine

theorem none_lt {s s₁ : Shared} (k : Kp s s₁) {b : Addr} (h : s₁.heap.objs.size ≤ b) : s.heap.get? b = none := by
  cases e : s.heap.get? b with
  | none => rfl
  | some ob => exact absurd (Heap.lt_size (k.heap _ _ e)) (Nat.not_lt.mpr h)

theorem tup_seqy {o : Obj} {a b : Value} (h : o = { cls := .type "tuple", data := .seq #[a, b] }) : Fx o := by subst h; exact ⟨(fun _ _ h => nomatch h), fun _ h => nomatch h⟩

/-- two names take the two items of a tuple -/
theorem assign_two {G : Fm} {s : Shared} (o : G.Ok s) {x y : Str} {px py tp : Pos} {tk : Nat} {T : Addr} {v1 v2 : Value} {d1 d2 : Dat} (ht : s.heap.IsTuple T #[v1, v2]) (h1 : Rp G.X s.heap v1 d1) (h2 : Rp G.X s.heap v2 d2) (hx : Stor G x) (hy : Stor G y)
    {Q : Unit → Shared → Prop} {E : Value → Shared → Prop} (k : ∀ s', ((G.set x d1).set y d2).Ok s' → (∀ b ob, s.heap.get? b = some ob → Fx ob → s'.heap.get? b = some ob) → Q () s') :
    wpAny (model G.prog G.w) G.A (assign (.Tuple [.Name x px, .Name y py] tk tp) G.env (.ref T)) Q E s := by
  refine wpAny_assign_Tuple o.aok.handled ht rfl rfl fun h' hext => ?_
  have kp : Kp s { s with heap := h' } := ⟨fun b ob e => hext b ob (Nat.ne_of_lt (Heap.lt_size e)) e, ⟨[], by simp, fun _ h => nomatch h⟩, rfl⟩
  have o' := o.keep kp
  show wpAny _ _ (assignInOrder [assign (.Name x px) G.env, assign (.Name y py) G.env] [v1, v2]) _ _ _
  refine wpAny_assignInOrder_more (wpAny_assign_Name (store_set' o' hx (h1.keep kp.heap) fun s₁ o₁ _ hfx => ?_))
  have r2 : Rp (G.set x d1).X s₁.heap v2 d2 := (h2.keep kp.heap).mono fun b ob _ hq e => hfx b ob e hq.fx
  refine wpAny_assignInOrder_more (wpAny_assign_Name (store_set' (F := G.set x d1) o₁ hy r2 fun s₂ o₂ _ hfx' => wpAny_pure (k s₂ o₂ fun b ob e hf => ?_)))
  exact hfx' b ob (hfx b ob (kp.heap b ob e) hf) hf

theorem Src.zip {F : Fm} {zn x y : Str} {np px py tp q : Pos} {tk : Nat} {a b : Expr} {d1 d2 : List Dat} (hz : F.T.G zn = some (.type "zip")) (hzk : F.env.kindOf zn = some .globalImplicit) (hzd : (zn == ("__debug__" : Str)) = false)
    (ha : Ev F a (.list d1)) (hb : Ev F b (.list d2)) (hsa : notStar a = true) (hsb : notStar b = true) (hs1 : d1.all scal = true) (hs2 : d2.all scal = true) :
    Src F (.Call (.Name zn np) [a, b] [] q) (.Tuple [.Name x px, .Name y py] tk tp) [x, y] ((d1.zip d2).map fun p => [p.1, p.2]) := by
  intro s o Q E k
  refine wpAny_Call_NameR (name_glob hz hzk hzd o ?_)
  refine callWith_type1 (EvL.cons ha (EvL.cons hb EvL.nil hsb) hsa s o _ _ fun vs s₁ k₁ r₁ => ?_) (starEach_cons hsa _ _) (by rw [starEach_cons hsb]; rfl)
  cases r₁ with
  | cons r1 r' =>
    cases r' with
    | cons r2 r'' =>
      cases r''
      cases r1 with
      | list e1 hX1 ra =>
        cases r2 with
        | list e2 hX2 rb =>
          rename_i l1 xs n1 l2 ys n2
          refine call_zip_2 ⟨_, e1, rfl, _, rfl⟩ ⟨_, e2, rfl, _, rfl⟩ fun h' z1 z2 z3 z4 z5 z6 z7 => ?_
          refine wpAny_pyIter_zip z1 (k _ _ ?_)
          have lt1 := Heap.lt_size e1
          have lt2 := Heap.lt_size e2
          generalize hN : s₁.heap.objs.size = N at *
          have D : ZipApart (N + 4) (N + 2) (N + 3) N (N + 1) l1 l2 := by constructor <;> (intro h; (first | exact absurd h (by simp) | (rw [h] at lt1; exact absurd lt1 (by simp)) | (rw [h] at lt2; exact absurd lt2 (by simp)) | (revert h; simp)))
          have W := WalksT.zip2 (prog := F.prog) (w := F.w) o.aok.handled (N + 4) (N + 2) (N + 3) N (N + 1) l1 l2 D xs.toArray ys.toArray
          have kk : Kp s { s₁ with heap := h' } := k₁.trans ⟨z7, ⟨[], by simp, fun _ h => nomatch h⟩, rfl⟩
          have nl : ∀ b, N ≤ b → s.heap.get? b = none := fun b hb => none_lt k₁ (by rw [hN]; exact hb)
          have hob : ∀ i h, (IsZip h (N + 4) (N + 2) (N + 3) .none ∧ IsPair h (N + 2) (.ref N) (.ref (N + 1)) ∧ (∃ a b, IsPair h (N + 3) a b) ∧ h.IsListIter N l1 i ∧ h.IsListIter (N + 1) l2 i ∧ h.IsList l1 xs.toArray ∧ h.IsList l2 ys.toArray) →
              ∀ b ∈ [N + 4, N + 2, N + 3, N, N + 1, l1, l2], ∃ ob, h.get? b = some ob ∧ Fx ob ∧ (b ∈ [N + 4, N + 3, N, N + 1] → ¬ Seqy ob ∨ b = N + 3) := by
            rintro i h ⟨g1, g2, ⟨a, b, g3⟩, ⟨o4, g4, _, g4'⟩, ⟨o5, g5, _, g5'⟩, ⟨o6, g6, _, n6, g6'⟩, ⟨o7, g7, _, n7, g7'⟩⟩ c hc
            simp only [List.mem_cons, List.not_mem_nil, or_false] at hc
            rcases hc with rfl | rfl | rfl | rfl | rfl | rfl | rfl
            · exact ⟨_, g1, (fields_fx rfl).1, fun _ => .inl (fields_fx rfl).2⟩
            · exact ⟨_, g2, seq_fx rfl, fun hm => by simp at hm⟩
            · exact ⟨_, g3, seq_fx rfl, fun hm => .inr rfl⟩
            · exact ⟨_, g4, (fields_fx g4').1, fun _ => .inl (fields_fx g4').2⟩
            · exact ⟨_, g5, (fields_fx g5').1, fun _ => .inl (fields_fx g5').2⟩
            · refine ⟨_, g6, seq_fx g6', fun hm => ?_⟩
              simp only [List.mem_cons, List.not_mem_nil, or_false] at hm
              rcases hm with h | h | h | h <;> (rw [h] at lt1; exact absurd lt1 (by simp))
            · refine ⟨_, g7, seq_fx g7', fun hm => ?_⟩
              simp only [List.mem_cons, List.not_mem_nil, or_false] at hm
              rcases hm with h | h | h | h <;> (rw [h] at lt2; exact absurd lt2 (by simp))
          have hturn : ∀ {i : Nat} {G : Fm} {s' : Shared} {h'' : Heap} {tk : Nat}, CompLike F s [N + 4, N + 2, N + 3, N, N + 1, l1, l2] [N + 3] [x, y] G → G.Ok s' →
              (IsZip s'.heap (N + 4) (N + 2) (N + 3) .none ∧ IsPair s'.heap (N + 2) (.ref N) (.ref (N + 1)) ∧ (∃ a b, IsPair s'.heap (N + 3) a b) ∧ s'.heap.IsListIter N l1 i ∧ s'.heap.IsListIter (N + 1) l2 i ∧ s'.heap.IsList l1 xs.toArray ∧ s'.heap.IsList l2 ys.toArray) →
              (∀ b o, b ∉ [N + 4, N + 3, N, N + 1] → s'.heap.get? b = some o → h''.get? b = some o) → (∃ ob, h''.get? (N + 3) = some ob) → G.Ok { s' with heap := h'', toks := tk } := by
            intro i G s' h'' tk L oG st hk hl
            obtain ⟨D', hD', hX⟩ := L.X
            refine oG.turnedS (wr := [N + 4, N + 3, N, N + 1]) (fun b hb => ?_) (fun b hb => ?_) (fun p hp => by rw [L.pin] at hp; cases hp) (fun z c es hz hm => ?_) hk (fun b hb hbX => ?_)
            · obtain ⟨ob, g1, g2, g3⟩ := hob i _ st b (W.sub b hb)
              refine ⟨ob, g1, g2, ?_⟩
              rcases g3 hb with h | h
              · exact .inl h
              · exact .inr (by rw [hX, h]; simp)
            · rw [L.base]
              simp only [List.mem_cons, List.not_mem_nil, or_false] at hb
              rcases hb with rfl | rfl | rfl | rfl <;> exact nl _ (by simp)
            · obtain ⟨σ, _, _, h3, _⟩ := oG.sto
              obtain ⟨_, _, _, vs, m, f4, _⟩ := h3 z c es hz
              obtain ⟨ob, g1, _, g3⟩ := hob i _ st c (W.sub c hm)
              rw [f4] at g1; cases g1
              rcases g3 hm with h | h
              · exact h (.inr ⟨_, _, rfl⟩)
              · subst h
                obtain ⟨_, _, ⟨a, b, g⟩, _⟩ := st
                have := congrArg Obj.cls (Option.some.inj (f4.symm.trans g))
                revert this; simp
            · rw [hX] at hbX
              simp only [List.mem_cons, List.not_mem_nil, or_false] at hb
              have live := oG.live b (by rw [hX]; exact hbX)
              rcases hb with rfl | rfl | rfl | rfl
              · rcases List.mem_cons.mp hbX with e | hbX
                · exact absurd (by rw [← e]; simp) hD'
                · rcases List.mem_append.mp hbX with h | h
                  · simp at h
                  · obtain ⟨ob, e⟩ := o.live _ h
                    rw [nl _ (by simp)] at e; cases e
              · exact hl
              · rcases List.mem_cons.mp hbX with e | hbX
                · exact absurd (by rw [← e]; simp) hD'
                · rcases List.mem_append.mp hbX with h | h
                  · simp at h
                  · obtain ⟨ob, e⟩ := o.live _ h
                    rw [nl _ (by simp)] at e; cases e
              · rcases List.mem_cons.mp hbX with e | hbX
                · exact absurd (by rw [← e]; simp) hD'
                · rcases List.mem_append.mp hbX with h | h
                  · simp at h
                  · obtain ⟨ob, e⟩ := o.live _ h
                    rw [nl _ (by simp)] at e; cases e
          refine ⟨kk, _, [N + 4, N + 2, N + 3, N, N + 1, l1, l2], [N + 3], [N + 4, N + 3, N, N + 1], ⟨z1, z2, ⟨_, _, z3⟩, z4, z5, ⟨_, z7 _ _ e1, rfl, _, rfl⟩, ⟨_, z7 _ _ e2, rfl, _, rfl⟩⟩, (fun i h st b hb => ⟨W.sub b hb, let ⟨ob, g1, g2, g3⟩ := hob i h st b (W.sub b hb); ⟨ob, g1, g2, (g3 hb).imp id fun e => by rw [e]; exact List.mem_cons_self⟩⟩), (fun b hb => by simp only [List.mem_cons, List.not_mem_nil, or_false] at hb; rcases hb with rfl | rfl | rfl | rfl <;> exact nl _ (by simp)), fun b hb => ?_, fun c hc => ?_, W.frame, fun i s' Q E st q => W.self i s' Q E st q, ?_, ?_⟩
          · show b < h'.objs.size
            rw [z6]
            simp only [List.mem_cons, List.not_mem_nil, or_false] at hb
            rcases hb with rfl | rfl | rfl | rfl | rfl | rfl | rfl <;> first | (exact Nat.lt_of_lt_of_le lt1 (by simp)) | (exact Nat.lt_of_lt_of_le lt2 (by simp)) | simp
          · rw [List.mem_singleton.mp hc]
            exact ⟨nl _ (by simp), _, z3⟩
          · intro i ds hds G L s' Q E oG st kont
            rw [List.getElem?_map] at hds
            cases ez : (d1.zip d2)[i]? with
            | none => rw [ez] at hds; cases hds
            | some p =>
              rw [ez] at hds; cases hds
              rw [List.getElem?_zip_eq_some] at ez
              obtain ⟨f1, f2⟩ := ez
              have hi1 : i < xs.length := by rw [ra.length]; exact (List.getElem?_eq_some_iff.mp f1).1
              have hi2 : i < ys.length := by rw [rb.length]; exact (List.getElem?_eq_some_iff.mp f2).1
              refine W.item i s' _ _ (by simp; omega) st fun T vals h'' tk' hPt hT hTup hMid hk => ?_
              obtain ⟨v1, v2, hv1, hv2, rfl⟩ := hPt
              have hTw := W.apart i T h'' hMid
              refine W.go _ _ _ i T _ _ _ hMid fun h3 st3 hk3 => ?_
              have og : G.Ok { s' with heap := h3, toks := tk' } := hturn L oG st (fun b ob hb e => hk3 b ob hb (hk b ob hb e)) (let ⟨_, _, ⟨a, b, g⟩, _⟩ := st3; ⟨_, g⟩)
              have hTup3 : h3.IsTuple T #[v1, v2] := let ⟨ot, g1, g2⟩ := hTup; ⟨ot, hk3 T ot hTw g1, g2⟩
              have R1 : Rp G.X h3 v1 p.1 := scals_get ra hs1 (by simpa using hv1) f1 _ _
              have R2 : Rp G.X h3 v2 p.2 := scals_get rb hs2 (by simpa using hv2) f2 _ _
              have := assign_two (tk := tk) (tp := tp) (px := px) (py := py) (Q := Q) (E := E) og hTup3 R1 R2 (L.stor x (by simp)) (L.stor y (by simp)) fun s4 o4 hfx => kont s4 o4 (W.frame _ _ _ st3 fun b hb ob e => ?_)
              · rw [L.prog, L.w, L.A] at this; exact this
              · obtain ⟨ob', g1, g2, _⟩ := hob _ _ st3 b hb
                have : ob' = ob := Option.some.inj (g1.symm.trans e)
                exact hfx b ob e (this ▸ g2)
          · intro s' Q E st kont
            have hmin : ((d1.zip d2).map fun p => [p.1, p.2]).length = min xs.toArray.size ys.toArray.size := by simp [ra.length, rb.length]
            rw [hmin] at st
            exact W.done s' Q E st kont
end Mine

end

section
open PySem PySem.W PyProof.Rows
set_option Elab.async false
set_option linter.unusedVariables false
namespace Mine

section
variable {F : Fm} {rest : List Stmt} {Q : Flow → Shared → Prop} {E : Value → Shared → Prop} {s : Shared}

/-- y = [comprehension], the store within -/
theorem ex_comp {y : Str} {py p : Pos} {elt target iter : Expr} {ifs : List Expr} {scope : Scope} {pos : Pos} {names : List Str} {dss : List (List Dat)} {keep : List Dat → Bool} {fn : List Dat → Dat} (o : F.Ok s)
    (hsw : swapsWith (.ListComp elt [⟨target, iter, ifs, 0⟩] scope pos) (some (.Name y py)) p.line F.env = pure true) (hy : Stor F y)
    (src : Src F iter target names dss) (S : ScOk F scope names) (hnd : names.Nodup) (hsz : dss.length < sizeLine) (hs : ∀ x, foldedSetIterable iter F.env x = pure x)
    (hturn : ∀ ds ∈ dss, ∀ H, CompFr F scope names ds H → TL H ifs (keep ds) ∧ (keep ds = true → Ev H elt (fn ds)))
    (k : ∀ s', (F.set y (.list ((dss.filter keep).map fn))).Ok s' → wpAny (model F.prog F.w) F.A (execs rest F.env) Q E s') :
    wpAny (model F.prog F.w) F.A (execs (.Assign [.Name y py] (.ListComp elt [⟨target, iter, ifs, 0⟩] scope pos) p :: rest) F.env) Q E s := by
  refine wpAny_execs_cons ?_
  rw [exec_Assign_Name_used _ _ _ _ hsw]
  refine wpAny_bind (wpAny_standAt (wpAny_bind ?_))
  show wpAny _ _ (do let _ ← comprehension (.ListComp elt [⟨target, iter, ifs, 0⟩] scope pos) scope F.env _ (newList []) false (eval iter F.env) (some (assign (.Name y py) F.env))) _ _ s
  refine wpAny_bind (wpAny_mono (comp_wp (use := some (assign (.Name y py) F.env)) (Q := fun _ s' => wpAny (model F.prog F.w) F.A (execs rest F.env) Q E s') o S hnd hsz hs (src s o) hturn fun C D s' vs kk k' hD r hDs hDX hC hns => ?_) (fun _ s' hq => wpAny_pure (wpAny_pure hq)) fun _ _ e => e)
  obtain ⟨m, hns⟩ := hns
  show wpAny _ _ (assign (.Name y py) F.env (.ref D)) _ _ _
  have o' := o.keep k'
  have hCL : C ≠ F.env.locals := by
    rintro rfl
    obtain ⟨σ, ⟨⟨m', g, _⟩, _⟩, _⟩ := o.sto
    obtain ⟨oL, _, _, e, _⟩ := ns_obj g
    rw [hC] at e; cases e
  refine wpAny_assign_Name (store_set' o' hy (.list (n := kk) hD hDX r) fun s₂ o₂ hoth hfx => ?_)
  have hns2 : s₂.heap.Ns C m := by
    refine hns.at' fun ob e => hoth C ob e hCL fun y c hk hc h => ?_
    subst h
    obtain ⟨σ, ⟨_, g⟩, _⟩ := o.sto
    obtain ⟨oc, e', _⟩ := g y _ (.inl hk) hc
    rw [hC] at e'; cases e'
  refine ⟨m, hns2, fun h' hsb => k _ ?_⟩
  -- the comprehension's names go
  obtain ⟨σ, h1, h2, h3, h4⟩ := o₂.sto
  obtain ⟨oC, esC, epC, hCo, hCd⟩ := ns_obj hns2
  have ne : ∀ b ob, s₂.heap.get? b = some ob → Fx ob → h'.get? b = some ob := fun b ob e hf => (hsb.2 b (by rintro rfl; rw [hCo] at e; cases e; exact hf.1 _ _ hCd)).trans e
  have hCX : C ∉ (F.set y (.list ((dss.filter keep).map fn))).X := fun hm => by
    obtain ⟨ob, e⟩ := o.live C hm
    rw [hC] at e; cases e
  have mono : ∀ b ob, b ∉ (F.set y (.list ((dss.filter keep).map fn))).X → Seqy ob → s₂.heap.get? b = some ob → h'.get? b = some ob := fun b ob _ hq e => ne b ob e hq.fx
  have hbase : F.base.heap.get? C = none := by
    cases e : F.base.heap.get? C with
    | none => rfl
    | some ob => rw [o.kp.heap _ _ e] at hC; cases hC
  refine ⟨o₂.aok, o₂.wf, o₂.off, o₂.cof, ⟨fun b ob e => (hsb.2 b (by rintro rfl; exact absurd (hbase.symm.trans e) (by simp))).trans (o₂.kp.heap b ob e), o₂.kp.gens, o₂.kp.os⟩, o₂.top0, fun b hb => ?_, fun p hp => ⟨ne _ _ (o₂.pins p hp).1 (o₂.pins p hp).2.2, (o₂.pins p hp).2⟩, o₂.gpins, σ, ?_, fun x d e => ?_, fun x a ds e => ?_, h4⟩
  · obtain ⟨ob, e⟩ := o₂.live b hb
    exact ⟨ob, (hsb.2 b (by rintro rfl; exact hCX hb)).trans e⟩
  · obtain ⟨⟨m', g4, g5⟩, g6⟩ := h1
    refine ⟨⟨m', g4.sameBut hsb (Ne.symm hCL), g5⟩, fun z c hz hc => (g6 z c hz hc).sameBut hsb ?_⟩
    rintro rfl
    obtain ⟨o', e', hd'⟩ := g6 z c hz hc
    rw [hCo] at e'; cases e'
    rw [hCd] at hd'; cases hd'
  · obtain ⟨v, e1, e2⟩ := h2 x d e
    exact ⟨v, e1, e2.mono mono⟩
  · obtain ⟨e1, e2, e3, ws, n, e4, e5⟩ := h3 x a ds e
    exact ⟨e1, e2, e3, ws, n, ne _ _ e4 (fx_lst ws n), e5.mono mono⟩

/-- x, y = e, a tuple of two -/
theorem ex_two {x y : Str} {px py tp p : Pos} {tk : Nat} {e : Expr} {d1 d2 : Dat} (o : F.Ok s) (he : Ev F e (.tuple [d1, d2])) (hx : Stor F x) (hy : Stor F y)
    (hs : swapsWithSole [.Tuple [.Name x px, .Name y py] tk tp] e p.line F.env = pure false) (hw : swappedStores [.Tuple [.Name x px, .Name y py] tk tp] e F.env = pure none)
    (k : ∀ s', ((F.set x d1).set y d2).Ok s' → wpAny (model F.prog F.w) F.A (execs rest F.env) Q E s') :
    wpAny (model F.prog F.w) F.A (execs (.Assign [.Tuple [.Name x px, .Name y py] tk tp] e p :: rest) F.env) Q E s := by
  refine wpAny_execs_cons (Assign_Tuple (he s o _ _ fun v s₁ k₁ r₁ => ?_) hs hw)
  cases r₁ with
  | tuple e hX r =>
    cases r with
    | cons r1 r =>
      cases r with
      | cons r2 r =>
        cases r
        exact assign_two (o.keep k₁) ⟨_, e, rfl, _, rfl⟩ r1 r2 hx hy fun s₂ o₂ _ => k s₂ o₂

/-- while -/
theorem ex_while {t : Expr} {body : List Stmt} {p : Pos} (Fam : Nat → Fm → Prop) (hlike : ∀ i G, Fam i G → Like F G) (o : F.Ok s) (n : Nat) (h0 : Fam n F)
    (turn : ∀ i G, Fam i G → ∃ b, Tst G t b ∧ (b = true → ∀ s, G.Ok s → wpAny (model F.prog F.w) F.A (execs body F.env) (fun f s' => match f with | .next => ∃ j G', j < i ∧ Fam j G' ∧ G'.Ok s' | .ret v => Q (.ret v) s' | _ => False) (fun _ _ => False) s) ∧
      (b = false → ∀ s, G.Ok s → wpAny (model F.prog F.w) F.A (execs rest F.env) Q (fun _ _ => False) s)) :
    wpAny (model F.prog F.w) F.A (execs (.While t body [] p :: rest) F.env) Q (fun _ _ => False) s := by
  refine wpAny_execs_cons (wpAny_While (codeAny_whileLoop (fun m s => ∃ G, Fam m G ∧ G.Ok s) ?_ n ⟨F, h0, o⟩))
  rintro m s₁ ⟨G, hG, oG⟩
  have L := hlike m G hG
  obtain ⟨b, ht, h1, h2⟩ := turn m G hG
  have := ht s₁ oG (fun b' s₂ => b' = b ∧ Kp s₁ s₂) (fun _ _ => False) fun s₂ k₂ => ⟨rfl, k₂⟩
  rw [L.prog, L.w, L.A, L.env] at this
  refine wpAny_mono this (fun b' s₂ h => ?_) fun _ _ x => x.elim
  obtain ⟨rfl, k₂⟩ := h
  have o₂ := oG.keep k₂
  cases hb : b' with
  | true =>
    simp only [if_true]
    refine wpAny_mono (h1 hb s₂ o₂) (fun f s₃ h => ?_) fun _ _ x => x.elim
    cases f with
    | next => obtain ⟨j, G', hj, hG', o'⟩ := h; exact ⟨j, hj, G', hG', o'⟩
    | ret v => exact h
    | brk => exact h.elim
    | cont => exact h.elim
  | false =>
    simp only [Bool.false_eq_true, if_false]
    exact wpAny_execs_nil (wpAny_mono (h2 hb s₂ o₂) (fun _ _ x => x) fun _ _ x => x.elim)
end
end Mine

end

section
open PySem PySem.W PyProof.Rows PyProof.V
set_option maxRecDepth 100000
set_option Elab.async false
set_option linter.unusedVariables false
namespace Mine

section
variable {F : Fm}

/-- an item of a list that the name may change -/
theorem Ev.itemM {x : Str} {np p : Pos} {i : Expr} {a : Addr} {ds : List Dat} {k : Int} {d : Dat} (hx : F.mt x = some (a, ds)) (hl : F.env.kindOf x = some .local ∨ F.env.kindOf x = some .cell ∨ F.env.kindOf x = some .free) (hd : (x == ("__debug__" : Str)) = false) (hn : (x == ("__classdict__" : Str)) = false)
    (hi : Ev F i (.int k)) (h0 : 0 ≤ k) (h1 : k < 2 ^ 63) (hk : ds[k.toNat]? = some d) (hs : notSlice i = true := by rfl) : Ev F (.Subscript (.Name x np) i p) d := by
  intro s o Q E kk
  refine Subscript_ (name_mut hx hl hd hn o fun vs n e r => hi s o _ _ fun vb s₂ k₂ r₂ => ?_)
  cases r₂
  have e2 := k₂.heap _ _ e
  refine tail_any (T := "list") ⟨_, e2, rfl⟩ list_getitem_lookup ?_ (subscripted_plain hs _ _)
  obtain ⟨w, f1, f2⟩ := r.get hk
  exact wpAny_getItem_list ⟨_, e2, rfl, _, rfl⟩ h0 h1 (by simpa using f1) (kk w s₂ k₂ (f2.keep k₂.heap))

theorem Ev.lenM {x y : Str} {np p q : Pos} {a : Addr} {ds : List Dat} (hx : F.T.G x = some (.builtin "len")) (hk : F.env.kindOf x = some .globalImplicit) (hd : (x == ("__debug__" : Str)) = false)
    (hy : F.mt y = some (a, ds)) (hl : F.env.kindOf y = some .local ∨ F.env.kindOf y = some .cell ∨ F.env.kindOf y = some .free) (hd' : (y == ("__debug__" : Str)) = false) (hn : (y == ("__classdict__" : Str)) = false) (hsz : ds.length ≤ sizeLine) :
    Ev F (.Call (.Name x np) [.Name y q] [] p) (.int ds.length) := by
  intro s ok Q E k
  refine wpAny_Call_NameR (name_glob hx hk hd ok ?_)
  refine callWith_builtin1 ?_ rfl rfl
  show wpAny _ _ (spliced [(false, eval (.Name y q) F.env)]) _ _ _
  refine Calls.spliced_cons (name_mut hy hl hd' hn ok fun vs n e r => Calls.spliced_nil ?_)
  refine Calls.call_len_list ⟨_, e, rfl, _, rfl⟩ ?_ ?_
  · rw [List.size_toArray, r.length]; exact Int.lt_of_le_of_lt (Int.ofNat_le.mpr hsz) (by decide)
  · rw [List.size_toArray, r.length]; exact k _ _ Kp.tok (.int _ _)

theorem RpAll.rep {X : List Addr} {h : Heap} {vs : List Value} {ds : List Dat} (r : RpAll X h vs ds) : ∀ n, RpAll X h (List.replicate n vs).flatten (List.replicate n ds).flatten
  | 0 => .nil
  | n + 1 => by
    rw [List.replicate_succ, List.replicate_succ, List.flatten_cons, List.flatten_cons]
    exact r.append (RpAll.rep r n)
theorem foldl_arr (items : Array Value) : ∀ (n : Nat) (acc : Array Value), List.foldl (fun x1 x2 => x1 ++ x2) acc (List.replicate n items) = acc ++ (List.replicate n items.toList).flatten.toArray
  | 0, acc => by simp
  | n + 1, acc => by
    rw [List.replicate_succ, List.foldl_cons, foldl_arr items n, List.replicate_succ, List.flatten_cons]
    apply Array.ext'
    simp

theorem mul_core {prog : Program} {w : World} {A : Around} {E : Value → Shared → Prop} {s : Shared} {l : Addr} {items : Array Value} {k : Nat} {x : Int} {u : Tok} {Q : Value → Shared → Prop}
    (hl : s.heap.get? l = some { cls := .type "list", dict := none, data := .seq items k, slots := #[] }) (hlo : -(2 ^ 63 : Int) ≤ x) (hhi : x < 2 ^ 63) (hsz : items.size * x.toNat ≤ 2 ^ 24)
    (h : Q (.ref s.heap.objs.size) { s with heap := s.heap.push { cls := .type "list", data := .seq (List.foldl (fun x1 x2 => x1 ++ x2) #[] (List.replicate (if items.isEmpty = true then 0 else x.toNat) items)) } }) :
    wpAny (model prog w) A (binaryOp .Mult (.ref l) (.int x u)) Q E s :=
  wpAny_binaryOp_repeat_ref (T := "list") (U := "int") (by decide) ⟨_, hl, rfl⟩ (fun s' => typeIs_int s' x u) noFill_list_mul PySem.F.fills_int_mul PySem.F.slot_int_rmul repeat_list PySem.F.slot_int_index.lookup
    (call_meets PySem.F.slot_int_rmul (typeIs_int s x u) PySem.F.entry_int_rmul (PySem.F.args_int_rmul_2 _ _) (int___rmul___int_list x u l items k)
      ⟨hl, rfl, ⟨_, hl, rfl⟩, call_meets PySem.F.slot_list_mul ⟨_, hl, rfl⟩ PySem.F.entry_list_mul (PySem.F.args_list_mul_2 _ _)
        (AutoListH.list___mul___list_int_3 l items k x u (by simp [Builtin.List.listFitsIndex]; omega) (by omega) (by simp [Builtin.List.listTooLong, sizeLine]; omega)) ⟨hl, h⟩⟩)

theorem Ev.mulL {l r : Expr} {p : Pos} {ds : List Dat} {n : Nat} (hl : Ev F l (.list ds)) (hr : Ev F r (.int n)) (hne : ds ≠ []) (hsz : ds.length * n ≤ 2 ^ 24) (hn : n < 2 ^ 62) : Ev F (.BinOp l .Mult r p) (.list (List.replicate n ds).flatten) :=
  hl.bin hr fun s o va vb ra rb Q E k => by
    cases ra with
    | list e hX ra =>
      rename_i a vs m
      cases rb
      rename_i u
      have hlen := ra.length
      have hvne : vs.toArray.isEmpty = false := by
        cases vs with
        | nil => cases ds with
          | nil => exact absurd rfl hne
          | cons => simp at hlen
        | cons => rfl
      have key : ((s.heap.push { cls := .type "list", data := .seq (List.foldl (fun x1 x2 => x1 ++ x2) #[] (List.replicate (if vs.toArray.isEmpty = true then 0 else (n : Int).toNat) vs.toArray)) }) : Heap) = s.heap.push { cls := .type "list", data := .seq (List.replicate n vs).flatten.toArray } := by
        rw [hvne, if_neg (by decide), foldl_arr]; simp
      have fin : Q (.ref s.heap.objs.size) { s with heap := s.heap.push { cls := .type "list", data := .seq (List.foldl (fun x1 x2 => x1 ++ x2) #[] (List.replicate (if vs.toArray.isEmpty = true then 0 else (n : Int).toNat) vs.toArray)) } } := by
        rw [key]
        exact k _ _ Kp.push (Rp.newList (ra.rep n) o.live)
      exact mul_core e (by omega) (by omega) (by rw [List.size_toArray, hlen]; simpa using hsz) fin

/-- the table of texts -/
noncomputable def TabOk (F : Fm) (d : Addr) (D : List (PyData × PyData)) : Prop := ∀ h, F.T.In h → StrTab F.prog F.w h d D

noncomputable def natD : PyData → Option Dat
  | .int i => some (.int i)
  | .none => some .none
  | _ => none
theorem flat_rp {v : Value} {dv : PyData} {d : Dat} (h : Flat v dv) (hd : natD dv = some d) (X : List Addr) (hp : Heap) : Rp X hp v d := by
  have r := h hp
  cases dv <;> simp [natD] at hd <;> subst hd <;> cases r <;> constructor

theorem CmpR.inTab {d : Addr} {D : List (PyData × PyData)} {x : Str} (T : TabOk F d D) {s : Shared} (o : F.Ok s) {va : Value} (ra : Rp F.X s.heap va (.str x)) {Q : Value → Shared → Prop} {E : Value → Shared → Prop}
    (k : ∀ s', Kp s s' → Q (.bool (Spec.lookup (.str x) D).isSome) s') : wpAny (model F.prog F.w) F.A (compareOp .In va (.ref d)) Q E s := by
  cases ra
  exact in_strTab (T _ o.top) (k _ Kp.tok)
theorem Tst.inTab {l : Expr} {tn : Str} {np p : Pos} {d : Addr} {D : List (PyData × PyData)} {x : Str} (T : TabOk F d D) (hx : F.T.G tn = some (.ref d)) (hk : F.env.kindOf tn = some .globalImplicit) (hd : (tn == ("__debug__" : Str)) = false) (hl : Ev F l (.str x)) :
    Tst F (.Compare l [.In] [.Name tn np] p) (Spec.lookup (.str x) D).isSome := by
  intro s o Q E k
  refine wpAny_isTrue_Compare1 (hl s o _ _ fun va s₁ k₁ r₁ => name_glob hx hk hd (o.keep k₁) (CmpR.inTab T (o.keep k₁) r₁ fun s₂ k₂ => wpAny_truthy_bool (k s₂ (k₁.trans k₂)))) (by with_unfolding_all rfl)
theorem Ev.itemTab {i : Expr} {tn : Str} {np p : Pos} {d : Addr} {D : List (PyData × PyData)} {x : Str} {dv : PyData} {e : Dat} (T : TabOk F d D) (hx : F.T.G tn = some (.ref d)) (hk : F.env.kindOf tn = some .globalImplicit) (hd : (tn == ("__debug__" : Str)) = false) (hi : Ev F i (.str x)) (hl : Spec.lookup (.str x) D = some dv) (hv : natD dv = some e)
    (hs : notSlice i = true := by rfl) : Ev F (.Subscript (.Name tn np) i p) e := by
  intro s o Q E k
  refine Subscript_ (name_glob hx hk hd o (hi s o _ _ fun vb s₂ k₂ r₂ => ?_))
  cases r₂
  exact item_strTab (T _ (o.keep k₂).top) hl (fun v hf => k v _ (k₂.trans Kp.tok) (flat_rp hf hv _ _)) (subscripted_plain hs _ _) (fun _ => rfl)
theorem Ev.getTab {n : Str} {i : Expr} {tn : Str} {np ap p : Pos} {d : Addr} {D : List (PyData × PyData)} {x : Str} {e : Dat} (T : TabOk F d D) (hx : F.T.G tn = some (.ref d)) (hk : F.env.kindOf tn = some .globalImplicit) (hd : (tn == ("__debug__" : Str)) = false) (hn : n = Str.ofString "get") (hline : (ap.endLine == p.line) = true) (hs : notStar i = true)
    (hi : Ev F i (.str x)) (hv : natD ((Spec.lookup (.str x) D).getD .none) = some e) : Ev F (.Call (.Attribute (.Name tn np) n ap) [i] [] p) e := by
  subst hn
  intro s o Q E k
  refine meth_wp (T := "dict") (id := "dict.get") rfl hline PySem.F.plainAttrs_dict PySem.F.slot_dict_get PySem.F.type_dict_get (by simp [hs]) (by decide) (name_glob hx hk hd o ?_)
  obtain ⟨lo, kvs, hdct, hf⟩ := T _ o.top
  refine ⟨hdct.typeIs, fun a ha => ?_, EvL.cons hi EvL.nil hs s o _ _ fun vs s₁ k₁ r₁ => ?_⟩
  · cases ha
    exact hdct.mapOf.noDict _ rfl
  · cases r₁ with
    | cons r r' =>
      cases r'; cases r
      exact call_get1_strTab (T _ (o.keep k₁).top) fun v hf => k v _ (k₁.trans Kp.tok) (flat_rp hf hv _ _)
theorem Ev.getTab2 {n : Str} {i j : Expr} {tn : Str} {np ap p : Pos} {d : Addr} {D : List (PyData × PyData)} {x : Str} {m : Int} {e : Dat} (T : TabOk F d D) (hx : F.T.G tn = some (.ref d)) (hk : F.env.kindOf tn = some .globalImplicit) (hd : (tn == ("__debug__" : Str)) = false) (hn : n = Str.ofString "get") (hline : (ap.endLine == p.line) = true) (hs : notStar i = true) (hs' : notStar j = true)
    (hi : Ev F i (.str x)) (hj : Ev F j (.int m)) (hv : natD ((Spec.lookup (.str x) D).getD (.int m)) = some e) : Ev F (.Call (.Attribute (.Name tn np) n ap) [i, j] [] p) e := by
  subst hn
  intro s o Q E k
  refine meth_wp (T := "dict") (id := "dict.get") rfl hline PySem.F.plainAttrs_dict PySem.F.slot_dict_get PySem.F.type_dict_get (by simp [hs, hs']) (by simp) (name_glob hx hk hd o ?_)
  obtain ⟨lo, kvs, hdct, hf⟩ := T _ o.top
  refine ⟨hdct.typeIs, fun a ha => ?_, EvL.cons hi (EvL.cons hj EvL.nil hs') hs s o _ _ fun vs s₁ k₁ r₁ => ?_⟩
  · cases ha
    exact hdct.mapOf.noDict _ rfl
  · cases r₁ with
    | cons r r' =>
      cases r' with
      | cons r2 r' =>
        cases r'; cases r; cases r2
        exact call_get2_strTab (T _ (o.keep k₁).top) (fun _ => Reads.int _ _) fun v hf => k v _ (k₁.trans Kp.tok) (flat_rp hf hv _ _)
end
end Mine

end

section
open PySem PySem.W PyProof.Rows
set_option Elab.async false
set_option linter.unusedVariables false
namespace Mine

theorem RpAll.pick {X : List Addr} {h : Heap} {vs : List Value} {ds : List Dat} (r : RpAll X h vs ds) : ∀ idx : List Nat, RpAll X h (idx.filterMap (vs[·]?)) (idx.filterMap (ds[·]?))
  | [] => .nil
  | i :: idx => by
    rw [List.filterMap_cons, List.filterMap_cons]
    cases hd : ds[i]? with
    | none =>
      have : vs[i]? = none := by rw [List.getElem?_eq_none_iff] at hd ⊢; rw [r.length]; exact hd
      rw [this]; exact RpAll.pick r idx
    | some d =>
      obtain ⟨v, e1, e2⟩ := r.get hd
      rw [e1]; exact .cons e2 (RpAll.pick r idx)

/-- a list's slice at the level of data -/
noncomputable def pickD (ds : List Dat) (lo hi st : Option Int) : List Dat := (sliceRange (sliceBounds lo hi st ds.length).1 (sliceBounds lo hi st ds.length).2.1 (sliceBounds lo hi st ds.length).2.2).filterMap (ds[·]?)

theorem str_idx_clip (a b n : Nat) : Builtin.Str.strSliceIndices (some (a : Int)) (some (b : Int)) 1 n = Builtin.Str.strSliceIndices (some ((min a n : Nat) : Int)) (some ((min b n : Nat) : Int)) 1 n := by
  have e1 : max 0 (min (a : Int) n) = max 0 (min ((min a n : Nat) : Int) n) := by omega
  have e2 : max 0 (min (b : Int) n) = max 0 (min ((min b n : Nat) : Int) n) := by omega
  have h1 : ¬ ((a : Int) < 0) := by omega
  have h2 : ¬ ((b : Int) < 0) := by omega
  have h3 : ¬ (((min a n : Nat) : Int) < 0) := by omega
  have h4 : ¬ (((min b n : Nat) : Int) < 0) := by omega
  simp only [Builtin.Str.strSliceIndices, h1, h2, h3, h4, if_false, show ((1 : Int) > 0) = True from by simp, if_true, e1, e2]
theorem str_idx_from (a n : Nat) : Builtin.Str.strSliceIndices (some (a : Int)) none 1 n = Builtin.Str.strSliceIndices (some (a : Int)) (some (n : Int)) 1 n := by
  have e2 : max 0 (min (n : Int) n) = n := by omega
  have h1 : ¬ ((n : Int) < 0) := by omega
  simp only [Builtin.Str.strSliceIndices, h1, if_false, show ((1 : Int) > 0) = True from by simp, if_true, e2]
theorem drop_take_min {α : Type} (l : List α) (a b : Nat) (hab : a ≤ b) : (l.drop (min a l.length)).take (min b l.length - min a l.length) = (l.drop a).take (b - a) := by
  rcases Nat.le_total a l.length with h | h
  · rw [Nat.min_eq_left h]
    rcases Nat.le_total b l.length with h' | h'
    · rw [Nat.min_eq_left h']
    · rw [Nat.min_eq_right h', List.take_of_length_le (by simp), List.take_of_length_le (by simp; omega)]
  · rw [Nat.min_eq_right h, List.drop_of_length_le (Nat.le_refl _), List.drop_of_length_le h]; simp
theorem str_idx_len (a b n : Nat) (hab : a ≤ b) : (Builtin.Str.strSliceIndices (some (a : Int)) (some (b : Int)) 1 n).length = min b n - min a n := by
  rw [str_idx_clip, StrLaws.strSliceIndices_plain (by omega) (by omega)]; simp
theorem txt_slice (x : Str) (a b : Nat) (hab : a ≤ b) : Txt.slice x (some (a : Int)) (some (b : Int)) = ⟨((x.cps.toList.drop a).take (b - a)).toArray⟩ := by
  have hlen : x.length = x.cps.toList.length := by simp [Str.length]
  have hl : (Builtin.Str.strSliceIndices (some (a : Int)) (some (b : Int)) 1 x.length).filterMap (x.cps[·]?) = (x.cps.toList.drop a).take (b - a) := by
    rw [str_idx_clip, StrLaws.sliced_plain x (by omega) (by omega)]
    rw [hlen]; exact drop_take_min _ a b hab
  unfold Txt.slice
  split
  · rename_i hw
    simp only [beq_self_eq_true, Bool.true_and, beq_iff_eq] at hw
    rw [str_idx_len a b _ hab, hlen] at hw
    obtain ⟨⟨l⟩⟩ := x
    simp only at hw ⊢
    congr 2
    rcases Nat.eq_zero_or_pos l.length with h | h
    · rw [List.length_eq_zero_iff.mp h]; simp
    · have ha : a = 0 := by omega
      subst ha
      rw [List.drop_zero, Nat.sub_zero, List.take_of_length_le (by omega)]
  · rw [hl]
theorem txt_slice_from (x : Str) (a : Nat) : Txt.slice x (some (a : Int)) none = ⟨(x.cps.toList.drop a).toArray⟩ := by
  have hlen : x.length = x.cps.toList.length := by simp [Str.length]
  rcases Nat.le_total a x.length with h | h
  · have : Txt.slice x (some (a : Int)) none = Txt.slice x (some (a : Int)) (some (x.length : Int)) := by
      unfold Txt.slice; rw [str_idx_from]
    rw [this, txt_slice x a x.length h, List.take_of_length_le (by rw [List.length_drop]; omega)]
  · have e : Builtin.Str.strSliceIndices (some (a : Int)) none 1 x.length = [] := by
      rw [str_idx_from, str_idx_clip, StrLaws.strSliceIndices_plain (by omega) (by omega)]
      have : min x.length x.length - min a x.length = 0 := by omega
      rw [this]; rfl
    unfold Txt.slice
    rw [e, List.drop_of_length_le (by omega)]
    split
    · rename_i hw
      simp only [beq_self_eq_true, Bool.true_and, beq_iff_eq, List.length_nil] at hw
      obtain ⟨⟨l⟩⟩ := x
      simp only [Str.length, List.size_toArray] at hw
      rw [List.length_eq_zero_iff.mp hw.symm]
    · rfl

section
variable {F : Fm}
theorem IsPart.val {v : Value} {k : Option Int} (h : IsPart v k) : ∃ t : Option (Int × Tok), v = partValue t ∧ t.map (·.1) = k := by
  cases h with
  | none => exact ⟨none, rfl, rfl⟩
  | int i t => exact ⟨some (i, t), rfl, rfl⟩
theorem Ev.sliceS {v : Expr} {lo hi : Option Expr} {p q : Pos} {x : Str} {a b : Option Int} (hv : Ev F v (.str x)) (h1 : EvP F lo a) (h2 : EvP F hi b) (hsz : x.length ≤ sizeLine) : Ev F (.Subscript v (.Slice lo hi Option.none q) p) (.str (Txt.slice x a b)) :=
  hv.sliced h1 h2 EvP.no PySem.F.slot_str_getitem.lookup (fun s va r => r.typeStr) fun s o va sl vl vu vs ra hsl p₁ p₂ p₃ Q E kk => by
    cases ra
    obtain ⟨t1, e1, f1⟩ := IsPart.val p₁
    obtain ⟨t2, e2, f2⟩ := IsPart.val p₂
    cases p₃
    subst e1 e2
    obtain ⟨ob, g1, g2, g3⟩ := hsl
    refine wpAny_getItem_str_slice (l := t1) (u := t2) (st := Option.none) ⟨ob, g1, g2, g3⟩ rfl ?_
    have hle := Txt.slice_le x a b
    unfold sliceMade slicePicked
    rw [f1, f2]
    show Made.post (if ((1 : Int) == 1 && (Builtin.Str.strSliceIndices a b 1 x.length).length == x.length) = true then _ else _) Q s
    unfold Txt.slice at kk hle
    split
    · rename_i hw
      rw [if_pos hw] at kk
      exact kk _ s (Kp.refl s) (.str _ _)
    · rename_i hw
      rw [if_neg hw] at kk hle
      exact ⟨Nat.le_trans hle hsz, kk _ _ Kp.tok (.str _ _)⟩

theorem Ev.sliceL_step {v e f : Expr} {p q : Pos} {ds : List Dat} {a c : Int} (hv : Ev F v (.list ds)) (h : Ev F e (.int a)) (h' : Ev F f (.int c)) (hc : c ≠ 0) (hsz : ds.length ≤ sizeLine) :
    Ev F (.Subscript v (.Slice (Option.some e) Option.none (Option.some f) q) p) (.list (pickD ds (some a) Option.none (some c))) :=
  hv.sliceL (EvP.so h) EvP.no (EvP.so h') (by intro h; cases h; exact hc rfl) hsz fun X h vs r => ⟨_, rfl, by
    have := r.pick (sliceRange (sliceBounds (some a) Option.none (some c) ds.length).1 (sliceBounds (some a) Option.none (some c) ds.length).2.1 (sliceBounds (some a) Option.none (some c) ds.length).2.2)
    simpa [pickD, r.length] using this⟩
theorem Ev.sliceL_mid {v e f : Expr} {p q : Pos} {ds : List Dat} {a b : Int} (hv : Ev F v (.list ds)) (h : Ev F e (.int a)) (h' : Ev F f (.int b)) (hsz : ds.length ≤ sizeLine) :
    Ev F (.Subscript v (.Slice (Option.some e) (Option.some f) Option.none q) p) (.list (pickD ds (some a) (some b) Option.none)) :=
  hv.sliceL (EvP.so h) (EvP.so h') EvP.no (by intro h; cases h) hsz fun X h vs r => ⟨_, rfl, by
    have := r.pick (sliceRange (sliceBounds (some a) (some b) Option.none ds.length).1 (sliceBounds (some a) (some b) Option.none ds.length).2.1 (sliceBounds (some a) (some b) Option.none ds.length).2.2)
    simpa [pickD, r.length] using this⟩
end
end Mine

end

section
open PySem PySem.W PyProof.Rows
set_option maxRecDepth 100000
set_option Elab.async false
set_option linter.unusedVariables false
namespace Mine

theorem preSum_list (ns : List Int) : ∀ k, k ≤ ns.length → preSum (fun i => (ns[i]?).getD 0) k = (ns.take k).sum
  | 0, _ => by simp [preSum]
  | k + 1, h => by
    have hk : k < ns.length := by omega
    rw [preSum, preSum_list ns k (by omega), List.take_add_one, List.getElem?_eq_getElem hk, Option.getD_some, Option.toList_some, List.sum_append, List.sum_cons, List.sum_nil, Int.add_zero]

section
variable {F : Fm}
theorem ints_get {X : List Addr} {h : Heap} {vs : List Value} {ns : List Int} (r : RpAll X h vs (ns.map Dat.int)) {i : Nat} {v : Value} (hv : vs[i]? = some v) : ∃ t, v = .int ((ns[i]?).getD 0) t := by
  have hi : i < ns.length := by
    have := (List.getElem?_eq_some_iff.mp hv).1
    rw [r.length] at this; simpa using this
  have hd : (ns.map Dat.int)[i]? = some (Dat.int ns[i]) := by simp [hi]
  obtain ⟨v', e1, e2⟩ := r.get hd
  rw [hv] at e1; cases e1
  cases e2
  rename_i t
  exact ⟨t, by simp [hi]⟩

theorem Ev.sum {x : Str} {np p : Pos} {e : Expr} {ns : List Int} (hx : F.T.G x = some (.builtin "sum")) (hk : F.env.kindOf x = some .globalImplicit) (hd : (x == ("__debug__" : Str)) = false) (h : Ev F e (.list (ns.map Dat.int))) (hn : notStar e = true) :
    Ev F (.Call (.Name x np) [e] [] p) (.int ns.sum) := fun s ok Q E k =>
  callBuiltin hx hk hd (EvL.cons h EvL.nil hn) hn rfl ok fun s₁ vs k₁ r₁ => by
    cases r₁ with
    | cons r r' =>
      cases r'
      cases r with
      | list e hX ra =>
        rename_i l vs n
        refine call_sum_walkAnyS (wpAny_pyIter_list ⟨_, e, rfl, _, rfl⟩ ?_)
        have hne : l ≠ s₁.heap.objs.size := Nat.ne_of_lt (Heap.lt_size e)
        refine ⟨_, _, _, _, _, _, _, (fun i => (ns[i]?).getD 0), rfl, (Walks.list (A := F.A.in1) ok.aok.handled s₁.heap.objs.size l hne vs.toArray).toS, ⟨⟨_, Heap.get?_push_size _ rfl, rfl, rfl⟩, ⟨_, Heap.get?_push_of_some _ e, rfl, _, rfl⟩⟩, fun b hb => ?_, fun i v hv => ints_get ra (by simpa using hv), fun s' t' hm => ?_⟩
        · show b < (s₁.heap.push _).objs.size
          rw [Heap.size_push]
          simp only [List.mem_cons, List.not_mem_nil, or_false] at hb
          rcases hb with rfl | rfl
          · exact Nat.lt_succ_self _
          · exact Nat.lt_succ_of_lt (Heap.lt_size e)
        · have hlen : vs.toArray.size = ns.length := by rw [List.size_toArray, ra.length, List.length_map]
          have : preSum (fun i => (ns[i]?).getD 0) vs.toArray.size = ns.sum := by rw [hlen, preSum_list ns _ (Nat.le_refl _), List.take_length]
          rw [this]
          refine k _ s' (k₁.trans ⟨fun b ob e' => hm.heap b ob (fun hm' => ?_) (Heap.get?_push_of_some _ e'), ⟨[], by rw [hm.gens]; simp, fun _ h => nomatch h⟩, hm.os⟩) (.int _ _)
          rw [List.mem_singleton.mp hm'] at e'
          exact absurd (Heap.lt_size e') (Nat.lt_irrefl _)

theorem ints_items {X : List Addr} {h : Heap} : ∀ {ns : List Int} {vs : List Value}, RpAll X h vs (ns.map Dat.int) → ∃ xs : List (Int × Tok), vs = xs.map (fun p => Value.int p.1 p.2) ∧ xs.map (·.1) = ns
  | [], _, r => by cases r; exact ⟨[], rfl, rfl⟩
  | m :: ns, _, r => by
    rw [List.map_cons] at r
    cases r with
    | cons a r =>
      cases a
      obtain ⟨xs, e1, e2⟩ := ints_items r
      exact ⟨(m, _) :: xs, by rw [List.map_cons, e1], by rw [List.map_cons, e2]⟩
theorem argBest_congr {f g : Nat → Nat → Bool} (h : ∀ i j, f i j = g i j) : ∀ n, argBest f n = argBest g n := fun n => by
  have : f = g := by funext i j; exact h i j
  rw [this]

theorem Ev.max {x : Str} {np p : Pos} {e : Expr} {ns : List Int} {m : Int} (hx : F.T.G x = some (.builtin "max")) (hk : F.env.kindOf x = some .globalImplicit) (hd : (x == ("__debug__" : Str)) = false) (h : Ev F e (.list (ns.map Dat.int))) (hn : notStar e = true) (hne : 0 < ns.length)
    (hm : (ns[argBest (fun i j => decide ((ns[i]?).getD 0 > (ns[j]?).getD 0)) (ns.length - 1)]?) = some m) : Ev F (.Call (.Name x np) [e] [] p) (.int m) := fun s ok Q E k =>
  callBuiltin hx hk hd (EvL.cons h EvL.nil hn) hn rfl ok fun s₁ vs k₁ r₁ => by
    cases r₁ with
    | cons r r' =>
      cases r'
      cases r with
      | list e hX ra =>
        rename_i l vs n
        obtain ⟨xs, e1, e2⟩ := ints_items ra
        have hlen : xs.length = ns.length := by rw [← e2, List.length_map]
        have hnum : ∀ i, numAt xs.toArray i = (ns[i]?).getD 0 := fun i => by
          rw [← e2]; simp [numAt]
        have hit : vs.toArray = intItems xs.toArray := by rw [e1]; simp [intItems]
        refine max_intList (xs := xs.toArray) ok.aok.handled ⟨_, e, rfl, n, by rw [← hit]⟩ (by simpa [hlen] using hne) fun v h' tk hv hkp => ?_
        rw [argBest_congr (fun i j => by rw [hnum i, hnum j])] at hv
        have hv' : (xs.map (fun p => Value.int p.1 p.2))[argBest (fun i j => decide ((ns[i]?).getD 0 > (ns[j]?).getD 0)) (ns.length - 1)]? = some v := by
          have : xs.toArray.size = ns.length := by simp [hlen]
          rw [this] at hv
          simpa [intItems] using hv
        rw [List.getElem?_map] at hv'
        have hm2 : (xs.map (·.1))[argBest (fun i j => decide ((ns[i]?).getD 0 > (ns[j]?).getD 0)) (ns.length - 1)]? = some m := by rw [e2]; exact hm
        rw [List.getElem?_map] at hm2
        cases hp : xs[argBest (fun i j => decide ((ns[i]?).getD 0 > (ns[j]?).getD 0)) (ns.length - 1)]? with
        | none => rw [hp] at hv'; cases hv'
        | some p =>
          rw [hp] at hv' hm2
          cases hv'; cases hm2
          exact k _ _ (k₁.trans (Kp.of_heap hkp)) (.int _ _)

/-- type(e) is not tuple -/
theorem Tst.notTuple {tn un : Str} {tp ep up p q : Pos} {e : Expr} {d : Dat} {b : Bool} (ht : F.T.G tn = some (.type "type")) (htk : F.env.kindOf tn = some .globalImplicit) (htd : (tn == ("__debug__" : Str)) = false) (hu : F.T.G un = some (.type "tuple")) (huk : F.env.kindOf un = some .globalImplicit) (hud : (un == ("__debug__" : Str)) = false)
    (he : Ev F e d) (hn : notStar e = true) (hb : (∃ ds, d = .tuple ds ∧ b = false) ∨ (∃ ds, d = .list ds ∧ b = true)) : Tst F (.Compare (.Call (.Name tn tp) [e] [] q) [.IsNot] [.Name un up] p) b := by
  intro s o Q E k
  refine wpAny_isTrue_Compare1 (wpAny_Call_NameR (name_glob ht htk htd o ?_)) (by with_unfolding_all rfl)
  refine callWith_type1 (EvL.cons he EvL.nil hn s o _ _ fun vs s₁ k₁ r₁ => ?_) (starEach_cons hn _ _) rfl
  cases r₁ with
  | cons r r' =>
    cases r'
    rcases hb with ⟨ds, rfl, rfl⟩ | ⟨ds, rfl, rfl⟩
    · refine call_type_of r.typeTuple (by decide) (name_glob hu huk hud (o.keep k₁) ?_)
      exact isnot_type_same (wpAny_truthy_bool (k s₁ k₁))
    · refine call_type_of r.typeList (by decide) (name_glob hu huk hud (o.keep k₁) ?_)
      exact isnot_type (by
        have : (!(Value.type "list" == Value.type "tuple")) = true := by decide
        rw [this]; exact wpAny_truthy_bool (k s₁ k₁))
end
end Mine

end

section
open PySem PySem.W PyProof.Rows
set_option maxRecDepth 100000
set_option Elab.async false
set_option linter.unusedVariables false
namespace Mine

theorem str_append_of {x y : Str} : (x.length == 0) = true → y = x ++ y := fun h => by
  have hx : x = Str.empty := by
    obtain ⟨⟨l⟩⟩ := x
    simp [Str.length] at h
    subst h; rfl
  rw [hx, Str.empty_append]
theorem str_append_of' {x y : Str} : (y.length == 0) = true → x = x ++ y := fun h => by
  obtain ⟨⟨l⟩⟩ := x
  obtain ⟨⟨m⟩⟩ := y
  simp [Str.length] at h
  subst h
  show Str.mk _ = Str.mk _
  congr 1

section
variable {F : Fm} {rest : List Stmt} {Q : Flow → Shared → Prop} {E : Value → Shared → Prop} {s : Shared}
theorem load_name {x : Str} {d : Dat} (hv : F.ρ x = some d) (hl : F.env.kindOf x = some .local ∨ F.env.kindOf x = some .cell) {s : Shared} (o : F.Ok s) {Q : Value → Shared → Prop} {E : Value → Shared → Prop} (k : ∀ v, Rp F.X s.heap v d → Q v s) :
    wpAny (model F.prog F.w) F.A (loadName F.env x) Q E s := by
  obtain ⟨σ, ⟨⟨m, h1, h2⟩, h2'⟩, h3, _⟩ := o.sto
  obtain ⟨v, e1, e2⟩ := h3 x d hv
  rcases hl with hl | hl
  · exact wpAny_loadName_local o.wf.fn hl h1 ((h2 x hl).trans e1) (k v e2)
  · obtain ⟨c, hc⟩ := o.wf.cl x (.inl hl)
    exact wpAny_loadName_cell o.wf.fn hl hc (e1 ▸ h2' x c (.inl hl) hc) (k v e2)

/-- x += e, texts -/
theorem ex_augS {x : Str} {px p : Pos} {value : Expr} {a b : Str} (o : F.Ok s) (hv : F.ρ x = some (.str a)) (hl : F.env.kindOf x = some .local ∨ F.env.kindOf x = some .cell) (he : Ev F value (.str b)) (hx : Stor F x) (hsz : a.length + b.length ≤ sizeLine)
    (k : ∀ s', (F.set x (.str (a ++ b))).Ok s' → wpAny (model F.prog F.w) F.A (execs rest F.env) Q E s') : wpAny (model F.prog F.w) F.A (execs (.AugAssign (.Name x px) .Add value p :: rest) F.env) Q E s := by
  refine wpAny_execs_cons (wpAny_AugAssign_Name (load_name hv hl o fun va ra => he s o _ _ fun vb s₁ k₁ r₁ => ?_))
  cases ra; cases r₁
  have fin : ∀ v s₂, Kp s₁ s₂ → Rp F.X s₂.heap v (.str (a ++ b)) → wpAny (model F.prog F.w) F.A (storeName F.env x v) (fun _ s' => wpAny (model F.prog F.w) F.A (execs rest F.env) Q E s') E s₂ := fun v s₂ k₂ r₂ => store_set ((o.keep k₁).keep k₂) hx r₂ fun s₃ o₃ => k s₃ o₃
  refine P.iadd_str ?_
  split
  · rename_i h
    exact fin _ _ (Kp.refl _) (by rw [← str_append_of h]; exact .str _ _)
  · split
    · rename_i h
      exact fin _ _ (Kp.refl _) (by rw [← str_append_of' h]; exact .str _ _)
    · refine ⟨by rw [Str.length_append]; exact hsz, fin _ _ Kp.tok (.str _ _)⟩
theorem ex_augI {x : Str} {px p : Pos} {value : Expr} {a b : Int} (o : F.Ok s) (hv : F.ρ x = some (.int a)) (hl : F.env.kindOf x = some .local ∨ F.env.kindOf x = some .cell) (he : Ev F value (.int b)) (hx : Stor F x)
    (k : ∀ s', (F.set x (.int (a + b))).Ok s' → wpAny (model F.prog F.w) F.A (execs rest F.env) Q E s') : wpAny (model F.prog F.w) F.A (execs (.AugAssign (.Name x px) .Add value p :: rest) F.env) Q E s := by
  refine wpAny_execs_cons (wpAny_AugAssign_Name (load_name hv hl o fun va ra => he s o _ _ fun vb s₁ k₁ r₁ => ?_))
  cases ra; cases r₁
  exact wpAny_iadd_int (store_set ((o.keep k₁).keep Kp.tok) hx (.int _ _) fun s₃ o₃ => k s₃ o₃)
end

theorem strs_rp {X : List Addr} {h : Heap} : ∀ (l : List Str) (tk : Nat), RpAll X h (strsFrom tk l) (l.map Dat.str)
  | [], _ => .nil
  | x :: l, tk => .cons (.str x tk) (strs_rp l (tk + 1))

section
variable {F : Fm}
/-- the text parted at a text -/
noncomputable def splitS (x y : Str) : List Str := Builtin.Str.partsBetween x (Builtin.Str.occurrences x y 0 x.length (x.length + 1)) y.length
noncomputable def splitM (x y : Str) (k : Nat) : List Str := Builtin.Str.partsBetween x (Builtin.Str.occurrences x y 0 x.length k) y.length

theorem Ev.split {n : Str} {o e : Expr} {ap p : Pos} {x y : Str} (hn : n = Str.ofString "split") (ho : Ev F o (.str x)) (he : Ev F e (.str y)) (hbase : attributeBase o n F.env (eval o F.env) = eval o F.env) (hline : (ap.endLine == p.line) = true) (hst : notStar e = true)
    (h1 : (decide (x.length < y.length) || decide (Builtin.Str.strKind x < Builtin.Str.strKind y)) = false) (hy : (y.length == 0) = false) (hf : (Builtin.Str.occurrences x y 0 x.length (x.length + 1)).isEmpty = false) (hx : x.length ≤ sizeLine) (hsz : (splitS x y).length ≤ sizeLine) :
    Ev F (.Call (.Attribute o n ap) [e] [] p) (.list ((splitS x y).map Dat.str)) := by
  subst hn
  refine Ev.meth ho hbase hline PySem.F.plainAttrs_str PySem.F.slot_str_split PySem.F.type_str_split (by simp [hst]) (by decide) strObj (EvL.cons he EvL.nil hst) fun s ok va vs ra rs Q E k => ?_
  cases ra
  cases rs with
  | cons r r' =>
    cases r'; cases r
    refine call_meets PySem.F.slot_str_split (typeIs_str _ _ _) PySem.F.entry_str_split (PySem.F.args_str_split_2 _ _) (meets_str_split_sep x y _ _ h1 hy hf hx hsz) ?_
    exact k _ _ (Kp.of_heap fun _ _ e => Heap.get?_push_of_some _ e) (Rp.newList (strs_rp _ _) ok.live)
theorem Ev.splitM {n : Str} {o e f : Expr} {ap p : Pos} {x y : Str} {m : Nat} (hn : n = Str.ofString "split") (ho : Ev F o (.str x)) (he : Ev F e (.str y)) (hm : Ev F f (.int m)) (hbase : attributeBase o n F.env (eval o F.env) = eval o F.env) (hline : (ap.endLine == p.line) = true) (hst : notStar e = true) (hst' : notStar f = true)
    (h1 : (decide (x.length < y.length) || decide (Builtin.Str.strKind x < Builtin.Str.strKind y)) = false) (hy : (y.length == 0) = false) (hf : (Builtin.Str.occurrences x y 0 x.length m).isEmpty = false) (hx : x.length ≤ sizeLine) (hsz : (Mine.splitM x y m).length ≤ sizeLine) (hmm : m < 2 ^ 62) :
    Ev F (.Call (.Attribute o n ap) [e, f] [] p) (.list ((Mine.splitM x y m).map Dat.str)) := by
  subst hn
  refine Ev.meth ho hbase hline PySem.F.plainAttrs_str PySem.F.slot_str_split PySem.F.type_str_split (by simp [hst, hst']) (by simp) strObj (EvL.cons he (EvL.cons hm EvL.nil hst') hst) fun s ok va vs ra rs Q E k => ?_
  cases ra
  cases rs with
  | cons r r' =>
    cases r' with
    | cons r2 r' =>
      cases r'; cases r; cases r2
      have hlim : limitOf x m = m := by unfold limitOf; rw [if_neg (by omega)]; simp
      have hk0 : (decide ((m : Int) < -(2 ^ 63 : Int)) || decide ((m : Int) ≥ 2 ^ 63)) = false := by
        rw [Bool.or_eq_false_iff]; exact ⟨decide_eq_false (by omega), decide_eq_false (by omega)⟩
      refine call_meets PySem.F.slot_str_split (typeIs_str _ _ _) PySem.F.entry_str_split (PySem.F.args_str_split_3 _ _ _) (meets_str_split_sep_max x y m _ _ _ hk0 h1 hy (by rw [hlim]; exact hf) hx (by rw [hlim]; exact hsz)) ?_
      rw [hlim]
      exact k _ _ (Kp.of_heap fun _ _ e => Heap.get?_push_of_some _ e) (Rp.newList (strs_rp _ _) ok.live)
end
end Mine

end

section
open PySem PySem.W PyProof.Rows
set_option maxRecDepth 100000
set_option Elab.async false
set_option linter.unusedVariables false
namespace Mine

theorem strs_items {X : List Addr} {h : Heap} : ∀ {ns : List Str} {vs : List Value}, RpAll X h vs (ns.map Dat.str) → ∃ xs : List (Str × Tok), vs = strValues xs ∧ xs.map (·.1) = ns
  | [], _, r => by cases r; exact ⟨[], rfl, rfl⟩
  | m :: ns, _, r => by
    rw [List.map_cons] at r
    cases r with
    | cons a r =>
      cases a
      obtain ⟨xs, e1, e2⟩ := strs_items r
      exact ⟨(m, _) :: xs, by rw [e1]; rfl, by rw [List.map_cons, e2]⟩

theorem range_pick {α : Type} (ws : List α) : ∀ b, (List.range b).filterMap (fun k => ws[k]?) = ws.take b
  | 0 => by simp
  | b + 1 => by
    rw [List.range_succ, List.filterMap_append, range_pick ws b, List.take_add_one]
    cases h : ws[b]? <;> simp [h]

theorem joinMade_post {sep : Str} {l : List (Str × Tok)} {Q : Value → Shared → Prop} {s : Shared} (hsz : (Builtin.Str.glued sep (l.map (·.1))).length ≤ sizeLine) (k : ∀ t tk, Q (.str (Builtin.Str.glued sep (l.map (·.1))) t) { s with toks := tk }) : (joinMade sep l).post Q s := by
  cases l with
  | nil => exact ⟨hsz, k _ _⟩
  | cons p r =>
    cases r with
    | nil =>
      have : Builtin.Str.glued sep [p.1] = p.1 := by simp [Builtin.Str.glued]
      have h := k p.2 s.toks
      rw [List.map_cons, List.map_nil, this] at h
      exact h
    | cons q r => exact ⟨hsz, k _ _⟩

section
variable {F : Fm}
theorem Ev.joinM {n x : Str} {o : Expr} {np ap p : Pos} {sep : Str} {a : Addr} {xs : List Str} (hn : n = Str.ofString "join") (ho : Ev F o (.str sep)) (hx : F.mt x = some (a, xs.map Dat.str)) (hl : F.env.kindOf x = some .local ∨ F.env.kindOf x = some .cell ∨ F.env.kindOf x = some .free) (hd : (x == ("__debug__" : Str)) = false) (hn' : (x == ("__classdict__" : Str)) = false)
    (hbase : attributeBase o n F.env (eval o F.env) = eval o F.env) (hline : (ap.endLine == p.line) = true) (hsz : (Builtin.Str.glued sep xs).length ≤ sizeLine) (htl : Builtin.Str.tooLong (xs.toArray.foldl (· + ·.length + sep.length) 0) = false) :
    Ev F (.Call (.Attribute o n ap) [.Name x np] [] p) (.str (Builtin.Str.glued sep xs)) := by
  subst hn
  intro s ok Q E k
  refine meth_wp hbase hline PySem.F.plainAttrs_str PySem.F.slot_str_join PySem.F.type_str_join rfl (by decide) (ho s ok _ _ fun ov s₁ k₁ r₁ => ⟨(strObj s₁ ov r₁).1, (strObj s₁ ov r₁).2, ?_⟩)
  show wpAny _ _ (spliced [(false, eval (.Name x np) F.env)]) _ _ _
  refine Calls.spliced_cons (name_mut hx hl hd hn' (ok.keep k₁) fun vs m e r => Calls.spliced_nil ?_)
  cases r₁
  obtain ⟨l, e1, e2⟩ := strs_items r
  refine call_meets PySem.F.slot_str_join (typeIs_str _ _ _) PySem.F.entry_str_join (PySem.F.args_str_join_2 _ _) (meets_str_join_list sep _ a l (by rw [e2]; exact htl)) ⟨⟨_, e, rfl, _, by rw [e1]⟩, ?_⟩
  refine joinMade_post (by rw [e2]; exact hsz) fun t tk => ?_
  rw [e2]
  exact k _ _ (k₁.trans Kp.tok) (.str _ _)

theorem sliceApplied_upto {prog : Program} {w : World} {A : Around} {E : Value → Shared → Prop} {s : Shared} {sl : Addr} {b n : Nat} {u : Tok} {Q : Int × Int × Nat → Shared → Prop} (hs : s.heap.IsSliceOf sl .none (.int b u) .none) (hb : b ≤ n) (h : Q (0, 1, b) s) :
    wpAny (model prog w) A (Builtin.Slice.sliceApplied (.ref sl) (pure (n : Int))) Q E s := by
  obtain ⟨os, hos, hcs, hds⟩ := id hs
  unfold Builtin.Slice.sliceApplied Builtin.Slice.sliceFields
  refine wpAny_bind (wpAny_bind (wpAny_field hos hds (x := .none) rfl (wpAny_bind (wpAny_field hos hds (x := .int b u) rfl (wpAny_bind (wpAny_field hos hds (x := .none) rfl (wpAny_pure ?_)))))))
  refine wpAny_bind (slicePart_none ?_)
  show wpAny _ _ (if ((1 : Int) == 0) = true then _ else _) _ _ s
  rw [if_neg (by decide)]
  refine wpAny_bind (slicePart_none (wpAny_bind (slicePart_int (wpAny_bind (wpAny_pure ?_)))))
  show wpAny _ _ (match Builtin.Slice.sliceAdjust none (some (b : Int)) 1 (n : Int) with | (lo, hi) => pure (lo, (1 : Int), Builtin.Slice.slicePlaces lo hi 1)) _ _ s
  have e1 : Builtin.Slice.sliceAdjust none (some (b : Int)) 1 (n : Int) = (0, (b : Int)) := by
    unfold Builtin.Slice.sliceAdjust
    have h1 : ¬ ((1 : Int) < 0) := by omega
    have h2 : ¬ ((b : Int) < 0) := by omega
    simp only [h1, h2, if_false]
    congr 1
    omega
  have e2 : Builtin.Slice.slicePlaces 0 (b : Int) 1 = b := by
    unfold Builtin.Slice.slicePlaces
    have h1 : (1 : Int) > 0 := by omega
    simp only [h1, if_true, Int.ediv_one]
    split <;> omega
  rw [e1]
  show wpAny _ _ (pure ((0 : Int), (1 : Int), Builtin.Slice.slicePlaces 0 (b : Int) 1)) _ _ s
  rw [e2]
  exact wpAny_pure h
theorem Ev.sliceT_upto {v e : Expr} {p q : Pos} {ds : List Dat} {b : Nat} (hv : Ev F v (.tuple ds)) (h : Ev F e (.int b)) (hb : b < ds.length) (hsz : ds.length ≤ sizeLine) : Ev F (.Subscript v (.Slice Option.none (Option.some e) Option.none q) p) (.tuple (ds.take b)) :=
  hv.sliced EvP.no (EvP.so h) EvP.no PySem.F.slot_tuple_getitem.lookup (fun s va r => r.typeTuple) fun s o va sl vl vu vs ra hsl p₁ p₂ p₃ Q E kk => by
    cases ra with
    | tuple et hX ra =>
      rename_i t ws n
      cases p₁; cases p₂; cases p₃
      have ht : s.heap.IsTuple t ws.toArray := ⟨_, et, rfl, _, rfl⟩
      obtain ⟨os, hos, hcs, hds⟩ := id hsl
      have hTs : s.TypeIs (.ref sl) "slice" := ⟨os, hos, hcs⟩
      have hlen := ra.length
      unfold getItem
      refine wpAny_holding ?_
      refine wpAny_bind (wpAny_sequenceKey ht.typeIs (by decide) ?_)
      refine wpAny_bind (wpAny_callSpecial?_slot (name := Str.ofString "__getitem__") ht.typeIs PySem.F.slot_tuple_getitem
        (wpAny_call_entry PySem.F.slot_tuple_getitem ht.typeIs PySem.F.entry_tuple_getitem ?_ (PySem.F.args_tuple_getitem_2 _ _)))
      show wpAny _ _ (Builtin.Tuple.tupleItemsOf (.ref t) >>= _) _ _ s
      refine wpAny_bind (wpAny_tupleItemsOf et rfl ?_)
      refine wpAny_bind (wpAny_typeOf hTs ?_)
      rw [if_pos (by decide)]
      refine wpAny_bind (sliceApplied_upto (n := ws.toArray.size) hsl (by simp; omega) ?_)
      have hno : ¬ (((0 : Int) == 0 && (1 : Int) == 1 && b == ws.toArray.size) = true) := by
        have : (b == ws.toArray.size) = false := by rw [beq_eq_false_iff_ne]; simp; omega
        rw [this]; simp
      show wpAny _ _ (if ((0 : Int) == 0 && (1 : Int) == 1 && b == ws.toArray.size) = true then _ else _) _ _ s
      rw [if_neg hno]
      have pk : ((List.range b).filterMap fun (k : Nat) => ws.toArray[((0 : Int) + (k : Int) * 1).toNat]?).toArray = (ws.take b).toArray := by
        congr 1
        have e : (fun (k : Nat) => ws.toArray[((0 : Int) + (k : Int) * 1).toNat]?) = fun k => ws[k]? := by
          funext k
          have : ((0 : Int) + (k : Int) * 1).toNat = k := by omega
          rw [this]; simp
        rw [e]; exact range_pick ws b
      rw [pk]
      have hdrop : sizeOk (.seq (ws.take b).toArray) := by
        show (ws.take b).toArray.size ≤ sizeLine
        rw [List.size_toArray, List.length_take]; omega
      have fin := kk _ _ (Kp.push (s := s)) (Rp.newTuple (ra.take b) o.live)
      first
        | exact wpAny_bind (m := Builtin.Tuple.tupleExact _) (wpAny_newObj_type (wpAny_pure ⟨_, rfl, wpAny_pure fin⟩) hdrop)
        | exact wpAny_bind (m := Builtin.Tuple.tupleExact _) (wpAny_newObj_type (wpAny_bind (wpAny_pure (wpAny_pure ⟨_, rfl, wpAny_pure fin⟩))) hdrop)
        | exact wpAny_bind (wpAny_bind (m := Builtin.Tuple.tupleExact _) (wpAny_newObj_type (wpAny_pure (wpAny_pure ⟨_, rfl, wpAny_pure fin⟩)) hdrop))
        | exact wpAny_bind (wpAny_bind (m := Builtin.Tuple.tupleExact _) (wpAny_newObj_type (wpAny_pure ⟨_, rfl, wpAny_pure fin⟩) hdrop))
end
end Mine

end

section
open PySem PySem.W PyProof.Rows
set_option maxRecDepth 100000
set_option Elab.async false
set_option linter.unusedVariables false
namespace Mine
open PySem.Sre PySem.Builtin.Re

theorem step_done {m : M} (h : m.outcome.isSome = true) : m.step = m := by unfold M.step; rw [if_pos h]
theorem run_done {m : M} (h : m.outcome.isSome = true) : ∀ n, M.runFor n m = m
  | 0 => rfl
  | n + 1 => by unfold M.runFor; rw [if_pos h]
theorem run_add (b : Nat) : ∀ (a : Nat) (m : M), M.runFor (a + b) m = M.runFor b (M.runFor a m)
  | 0, m => by simp [M.runFor]
  | a + 1, m => by
    by_cases h : m.outcome.isSome = true
    · rw [run_done h, run_done h, run_done h]
    · have e1 : M.runFor (a + 1 + b) m = M.runFor (a + b) m.step := by
        rw [show a + 1 + b = (a + b) + 1 by omega]
        show (if m.outcome.isSome = true then m else M.runFor (a + b) m.step) = _
        rw [if_neg h]
      have e2 : M.runFor (a + 1) m = M.runFor a m.step := by
        show (if m.outcome.isSome = true then m else M.runFor a m.step) = _
        rw [if_neg h]
      rw [e1, e2, run_add b a]

noncomputable def Gets (k : Nat) (m m' : M) : Prop := ∃ n, n ≤ k ∧ M.runFor n m = m'
theorem Gets.refl {m : M} : Gets 0 m m := ⟨0, Nat.le_refl _, rfl⟩
theorem Gets.trans {a b : Nat} {m m' m'' : M} (h : Gets a m m') (h' : Gets b m' m'') : Gets (a + b) m m'' := by
  obtain ⟨n, h1, h2⟩ := h
  obtain ⟨k, h3, h4⟩ := h'
  exact ⟨n + k, by omega, by rw [run_add, h2, h4]⟩
theorem Gets.le {a b : Nat} {m m' : M} (h : Gets a m m') (hab : a ≤ b) : Gets b m m' := by
  obtain ⟨n, h1, h2⟩ := h
  exact ⟨n, by omega, h2⟩
theorem Gets.one {m m' : M} (ho : m.outcome = none) (h : m.step = m') : Gets 1 m m' := ⟨1, Nat.le_refl _, by
  show (if m.outcome.isSome = true then m else M.runFor 0 m.step) = m'
  rw [ho, if_neg (by simp)]
  exact h⟩
theorem Gets.cons {k : Nat} {m m' m'' : M} (ho : m.outcome = none) (h : m.step = m') (g : Gets k m' m'') : Gets (k + 1) m m'' := by
  rw [Nat.add_comm]; exact (Gets.one ho h).trans g

theorem drive {prog : Program} {w : World} {A : Around} {E : Value → Shared → Prop} {Q : M → Shared → Prop} {s : Shared} {m' : M} (ho : m'.outcome.isSome = true) (k : Q m' s) :
    ∀ (turns n : Nat) (m : M), M.runFor n m = m' → n < 4 * turns → wpAny (model prog w) A (reDrive turns m) Q E s
  | 0, n, m, _, h => by omega
  | turns + 1, n, m, e, h => by
    unfold reDrive
    show wpAny _ _ (if (M.runFor 4 m).outcome.isSome = true then pure (M.runFor 4 m) else (do rule "sre.turn"; reDrive turns (M.runFor 4 m))) _ _ s
    by_cases hn : n ≤ 4
    · have : M.runFor 4 m = m' := by
        rw [show 4 = n + (4 - n) by omega, run_add, e, run_done ho]
      rw [this, if_pos ho]
      exact wpAny_pure k
    · have e' : M.runFor (n - 4) (M.runFor 4 m) = m' := by
        rw [← run_add, show 4 + (n - 4) = n by omega, e]
      by_cases h4 : (M.runFor 4 m).outcome.isSome = true
      · rw [if_pos h4]
        rw [run_done h4] at e'
        rw [e']
        exact wpAny_pure k
      · rw [if_neg h4]
        exact wpAny_bind (wpAny_rule (drive ho k turns (n - 4) _ e' (by omega)))

theorem tell {prog : Program} {w : World} {A : Around} {E : Value → Shared → Prop} {Q : PUnit → Shared → Prop} {s : Shared} {c : Nat → Bool} {f : Nat → String} (k : Q ⟨⟩ s) :
    ∀ l : List Nat, wpAny (model prog w) A (forIn l PUnit.unit fun i _ => (if c i = true then (do rule (f i); pure (ForInStep.yield PUnit.unit)) else pure (ForInStep.yield PUnit.unit)) : Sem PUnit) Q E s
  | [] => by simpa using wpAny_pure k
  | i :: l => by
    rw [List.forIn_cons]
    refine wpAny_bind ?_
    by_cases h : c i = true
    · simp only [h, if_true]
      exact wpAny_bind (wpAny_rule (wpAny_pure (tell k l)))
    · simp only [h]
      exact wpAny_pure (tell k l)

noncomputable def Ended (m : M) : Option M := match m.outcome with
  | some .matched => some m
  | _ => none

theorem toEnd {prog : Program} {w : World} {A : Around} {E : Value → Shared → Prop} {Q : Option M → Shared → Prop} {s : Shared} {m m' : M} {k : Nat} (g : Gets k m m') (hk : k < 2 ^ 60) (ho : m'.outcome = some .matched ∨ m'.outcome = some .failed) (h : Q (Ended m') s) :
    wpAny (model prog w) A (reRunToEnd m) Q E s := by
  obtain ⟨n, h1, h2⟩ := g
  unfold reRunToEnd
  refine wpAny_bind (drive (by rcases ho with e | e <;> rw [e] <;> rfl) ?_ (2 ^ 64) n m h2 (by omega))
  refine wpAny_bind (tell ?_ _)
  rcases ho with e | e
  · have : Ended m' = some m' := by unfold Ended; rw [e]
    rw [this] at h
    rw [e]
    exact wpAny_pure h
  · have : Ended m' = none := by unfold Ended; rw [e]
    rw [this] at h
    rw [e]
    exact wpAny_pure h
end Mine

end

section
open PySem PySem.W PyProof.Rows
set_option maxRecDepth 100000
set_option Elab.async false
set_option linter.unusedVariables false
namespace Mine
open PySem.Sre PySem.Builtin.Re

noncomputable def code1 : Array Nat := #[14, 4, 0, 1, 1, 6, 1, 16, 46, 1]
noncomputable def code2 : Array Nat := #[14, 9, 4, 1, 2, 16, 10, 16, 13, 0, 7, 7, 16, 13, 16, 10, 15, 18, 5, 16, 10, 15, 13, 11, 16, 13, 5, 5, 0, 16, 10, 1, 15, 2, 0, 1]

noncomputable def isLS (text : Array Nat) (p : Nat) : Bool := p == 0 || text.getD (p - 1) 0 == 10

noncomputable def S1 (text : Array Nat) (lim : Nat) (must : Bool) (p : Nat) (first : Bool) (sn : Sre.Seen) : M :=
  { code := code1, text, lim, start := p, lastStart := lim, mustAdvance := must, pc := 5, pos := p, handed := p, outermost := first, marks := #[],
    frames := [{ wait := .nextStart, pc := 5, pos := p, outermost := first }], weight := 1, seen := sn }

noncomputable def atK (m : M) (r : Except String Bool) : M :=
  match r with
  | .error why => m.stick why
  | .ok yes => let m := { m with seen := m.seen.add (43 + m.word 1) }; if yes then { m with pc := m.pc + 2 } else m.say false
noncomputable def litK (m : M) (r : Except String (Bool × Sre.Seen)) : M :=
  match r with
  | .error why => m.stick why
  | .ok (false, seen) => { m with seen }.say false
  | .ok (true, seen) => { m with seen, pc := m.pc + 2, pos := m.pos + 1 }

section
variable {text : Array Nat} {lim p : Nat} {must first : Bool} {sn : Sre.Seen}

theorem s1_at : (S1 text lim must p first sn).step = atK { S1 text lim must p first sn with seen := sn.add 6 } (.ok (isLS text p)) := by
  rfl
theorem s1_no (h : isLS text p = false) : (S1 text lim must p first sn).step = { S1 text lim must p first ((sn.add 6).add 44) with answer := some false } := by
  rw [s1_at, h]; rfl
theorem s1_yes (h : isLS text p = true) : (S1 text lim must p first sn).step = { S1 text lim must p first ((sn.add 6).add 44) with pc := 7 } := by
  rw [s1_at, h]; rfl
theorem s1_back {q : Nat} : ({ S1 text lim must p first sn with answer := some false, pc := q } : M).step = if p < lim then S1 text lim false (p + 1) false sn else { S1 text lim must p first sn with answer := some false, frames := [], weight := 0 } := rfl
theorem s1_lit : ({ S1 text lim must p first sn with pc := 7 } : M).step = if p ≥ lim then { S1 text lim must p first (sn.add 16) with pc := 7, answer := some false } else litK { S1 text lim must p first (sn.add 16) with pc := 7 } (.ok (text.getD p 0 == 46, sn.add 16)) := rfl
theorem s1_suc : ({ S1 text lim must p first sn with pc := 9, pos := p + 1 } : M).step = if (first && (false || (must && p + 1 == p))) = true then { S1 text lim must p first (sn.add 1) with pc := 9, pos := p + 1, answer := some false } else { S1 text lim must p first (sn.add 1) with pc := 9, pos := p + 1, answer := some true, handed := p + 1 } := rfl
theorem s1_fin {q r : Nat} : ({ S1 text lim must p first sn with pc := q, pos := r, answer := some true, handed := p + 1 } : M).step = { S1 text lim must p first sn with answer := some true, handed := p + 1, frames := [], weight := 0 } := rfl
theorem s1_out : ({ S1 text lim must p first sn with answer := some true, handed := p + 1, frames := [], weight := 0 } : M).step = { S1 text lim must p first sn with answer := some true, handed := p + 1, frames := [], weight := 0, outcome := some .matched } := rfl
theorem s1_bad : ({ S1 text lim must p first sn with answer := some false, frames := [], weight := 0 } : M).step = { S1 text lim must p first sn with answer := some false, frames := [], weight := 0, outcome := some .failed } := rfl
end

/-- the next dot at a line's start -/
noncomputable def dot? (text : Array Nat) (p : Nat) : Bool := isLS text p && text.getD p 0 == 46
noncomputable def nx1 (text : Array Nat) (lim : Nat) : (fuel p : Nat) → Option Nat
  | 0, _ => none
  | fuel + 1, p => if p < lim then (if dot? text p = true then some p else nx1 text lim fuel (p + 1)) else none

noncomputable def Told (m : M) (r : Option (Nat × Nat)) : Prop :=
  match r with
  | some (a, b) => m.outcome = some .matched ∧ m.start = a ∧ m.handed = b
  | none => m.outcome = some .failed

theorem s1_run {text : Array Nat} {lim : Nat} : ∀ (fuel p : Nat) (must first : Bool) (sn : Sre.Seen), lim + 1 - p ≤ fuel → p ≤ lim →
    ∃ m', Gets (6 * fuel + 6) (S1 text lim must p first sn) m' ∧ Told m' ((nx1 text lim fuel p).map fun a => (a, a + 1))
  | 0, p, must, first, sn, h, h' => by omega
  | fuel + 1, p, must, first, sn, h, h' => by
    unfold nx1
    by_cases hp : p < lim
    · rw [if_pos hp]
      have go : ∀ (sn' : Sre.Seen) (q : Nat), Gets 2 (S1 text lim must p first sn) { S1 text lim must p first sn' with answer := some false, pc := q } → dot? text p = false → 
          ∃ m', Gets (6 * (fuel + 1) + 6) (S1 text lim must p first sn) m' ∧ Told m' (Option.map (fun a => (a, a + 1)) (if dot? text p = true then some p else nx1 text lim fuel (p + 1))) := fun sn' q g hd => by
        obtain ⟨m', g', t⟩ := s1_run (text := text) (lim := lim) fuel (p + 1) false false sn' (by omega) (by omega)
        refine ⟨m', ?_, by rw [hd]; simpa using t⟩
        have e := s1_back (text := text) (lim := lim) (must := must) (p := p) (first := first) (sn := sn') (q := q)
        rw [if_pos hp] at e
        exact (g.trans (Gets.cons rfl e g')).le (by omega)
      by_cases hl : isLS text p = true
      · have e2 := s1_lit (text := text) (lim := lim) (must := must) (p := p) (first := first) (sn := (sn.add 6).add 44)
        rw [if_neg (by omega)] at e2
        cases hc : text.getD p 0 == 46 with
        | false =>
          rw [hc] at e2
          have hd : dot? text p = false := by unfold dot?; rw [hl, hc]; rfl
          exact go _ 7 (Gets.cons rfl (s1_yes hl) (Gets.one rfl e2)) hd
        | true =>
          rw [hc] at e2
          have hd : dot? text p = true := by unfold dot?; rw [hl, hc]; rfl
          rw [if_pos hd]
          have e3 := s1_suc (text := text) (lim := lim) (must := must) (p := p) (first := first) (sn := ((sn.add 6).add 44).add 16)
          rw [if_neg (by have : (p + 1 == p) = false := by simp
                         rw [this]; simp)] at e3
          refine ⟨{ S1 text lim must p first ((((sn.add 6).add 44).add 16).add 1) with answer := some true, handed := p + 1, frames := [], weight := 0, outcome := some .matched }, ?_, ⟨rfl, rfl, rfl⟩⟩
          exact (Gets.cons rfl (s1_yes hl) (Gets.cons rfl e2 (Gets.cons rfl e3 (Gets.cons rfl s1_fin (Gets.one rfl s1_out))))).le (by omega)
      · have hl' : isLS text p = false := by simpa using hl
        have hd : dot? text p = false := by unfold dot?; rw [hl']; rfl
        exact go _ 5 ((Gets.one rfl (s1_no hl')).le (by omega)) hd
    · rw [if_neg hp]
      have fin : ∀ (sn' : Sre.Seen) (q : Nat), Gets 2 (S1 text lim must p first sn) { S1 text lim must p first sn' with answer := some false, pc := q } → 
          ∃ m', Gets (6 * (fuel + 1) + 6) (S1 text lim must p first sn) m' ∧ Told m' none := fun sn' q g => by
        have e := s1_back (text := text) (lim := lim) (must := must) (p := p) (first := first) (sn := sn') (q := q)
        rw [if_neg hp] at e
        exact ⟨_, (g.trans (Gets.cons rfl e (Gets.one rfl s1_bad))).le (by omega), rfl⟩
      by_cases hl : isLS text p = true
      · have e2 := s1_lit (text := text) (lim := lim) (must := must) (p := p) (first := first) (sn := (sn.add 6).add 44)
        rw [if_pos (by omega)] at e2
        exact fin _ 7 (Gets.cons rfl (s1_yes hl) (Gets.one rfl e2))
      · have hl' : isLS text p = false := by simpa using hl
        exact fin _ 5 ((Gets.one rfl (s1_no hl')).le (by omega))

theorem search1 {text : Array Nat} {lim p : Nat} {must : Bool} (hp : p ≤ lim) :
    ∃ m', Gets (6 * lim + 20) (forSearch code1 text 0 p lim must) m' ∧ Told m' ((nx1 text lim (lim + 1 - p) p).map fun a => (a, a + 1)) := by
  have e : forSearch code1 text 0 p lim must = if (decide (p > lim) || decide (lim - p < 1)) = true then
      ({ code := code1, text, lim, start := p, pc := 5, pos := p, handed := p, marks := #[], mustAdvance := must, seen := ({} : Sre.Seen).add 14, answer := some false } : M) else S1 text lim must p true (({} : Sre.Seen).add 14) := rfl
  rw [e]
  by_cases h : p < lim
  · rw [if_neg (by simp; omega)]
    obtain ⟨m', g, t⟩ := s1_run (text := text) (lim := lim) (lim + 1 - p) p must true (({} : Sre.Seen).add 14) (Nat.le_refl _) hp
    exact ⟨m', g.le (by omega), t⟩
  · rw [if_pos (by simp; omega)]
    have : nx1 text lim (lim + 1 - p) p = none := by
      rw [show lim + 1 - p = 0 + 1 by omega]
      unfold nx1; rw [if_neg h]
    rw [this]
    exact ⟨_, (Gets.one rfl rfl).le (by omega), rfl⟩
end Mine

end

section
open PySem PySem.W PyProof.Rows
set_option maxRecDepth 100000
set_option Elab.async false
set_option linter.unusedVariables false
namespace Mine
open PySem.Sre PySem.Builtin.Re

noncomputable def isNL (c : Nat) : Bool := c == 10 || c == 13
noncomputable def nxNL (text : Array Nat) (lim : Nat) : (fuel p : Nat) → Option Nat
  | 0, _ => none
  | fuel + 1, p => if p < lim then (if isNL (text.getD p 0) = true then some p else nxNL text lim fuel (p + 1)) else none

theorem inSet2 (c : Nat) (sn : Sre.Seen) : ∃ sn', inSet code2 c 36 5 true sn = .ok (isNL c, sn') := by
  have e : inSet code2 c 36 5 true sn = if (c == 10) = true then .ok (true, sn.add 16) else if (c == 13) = true then .ok (true, (sn.add 16).add 16) else .ok (false, ((sn.add 16).add 16).add 0) := rfl
  rw [e]
  unfold isNL
  cases h1 : c == 10
  · cases h2 : c == 13 <;> exact ⟨_, rfl⟩
  · exact ⟨_, rfl⟩

theorem admitted2 {m : M} (hc : m.code = code2) : ∀ (fuel p : Nat) (sn : Sre.Seen), ∃ sn', m.admitted fuel p sn = .ok (nxNL m.text m.lim fuel p, sn')
  | 0, p, sn => ⟨_, rfl⟩
  | fuel + 1, p, sn => by
    unfold M.admitted nxNL
    by_cases h : p < m.lim
    · rw [if_neg (by omega), if_pos h, hc]
      obtain ⟨sn', e⟩ := inSet2 (m.text.getD p 0) sn
      rw [show code2.size = 36 from rfl, e]
      cases hb : isNL (m.text.getD p 0) with
      | true => exact ⟨sn', rfl⟩
      | false => exact admitted2 hc fuel (p + 1) sn'
    · rw [if_pos (by omega), if_neg h]
      exact ⟨_, rfl⟩

noncomputable def fS (p : Nat) (first : Bool) : Sre.Frame := { wait := .nextStart, pc := 10, pos := p, outermost := first }
noncomputable def fB (alt p : Nat) (first : Bool) : Sre.Frame := { wait := .nextBranch, pc := alt, pos := p, outermost := first }
noncomputable def fL (p : Nat) (first : Bool) : Sre.Frame := { wait := .lookNot, pc := 26, pos := p, outermost := first }
noncomputable def T2 (text : Array Nat) (lim p : Nat) (sn : Sre.Seen) (pc pos handed : Nat) (out : Bool) (ans : Option Bool) (fr : List Sre.Frame) (wt : Nat) (oc : Option Sre.Outcome := none) : M :=
  { code := code2, text, lim, start := p, lastStart := lim, mustAdvance := false, pc, pos, handed, outermost := out, marks := #[], frames := fr, weight := wt, seen := sn, answer := ans, outcome := oc }

section
variable {text : Array Nat} {lim p q h : Nat} {first : Bool} {sn : Sre.Seen} {fr : List Sre.Frame} {wt : Nat}
theorem t_branch : (T2 text lim p sn 10 p h first none [fS p first] 1).step = T2 text lim p (sn.add 7) 12 p p first none [fB 11 p first, fS p first] 2 := rfl
theorem t_lit12 : (T2 text lim p sn 12 q h first none fr wt).step = if q ≥ lim then T2 text lim p (sn.add 16) 12 q h first (some false) fr wt else litK (T2 text lim p (sn.add 16) 12 q h first none fr wt) (.ok (text.getD q 0 == 13, sn.add 16)) := rfl
theorem t_lit14 : (T2 text lim p sn 14 q h first none fr wt).step = if q ≥ lim then T2 text lim p (sn.add 16) 14 q h first (some false) fr wt else litK (T2 text lim p (sn.add 16) 14 q h first none fr wt) (.ok (text.getD q 0 == 10, sn.add 16)) := rfl
theorem t_lit19 : (T2 text lim p sn 19 q h first none fr wt).step = if q ≥ lim then T2 text lim p (sn.add 16) 19 q h first (some false) fr wt else litK (T2 text lim p (sn.add 16) 19 q h first none fr wt) (.ok (text.getD q 0 == 10, sn.add 16)) := rfl
theorem t_lit24 : (T2 text lim p sn 24 q h first none fr wt).step = if q ≥ lim then T2 text lim p (sn.add 16) 24 q h first (some false) fr wt else litK (T2 text lim p (sn.add 16) 24 q h first none fr wt) (.ok (text.getD q 0 == 13, sn.add 16)) := rfl
theorem t_lit29 : (T2 text lim p sn 29 q h first none fr wt).step = if q ≥ lim then T2 text lim p (sn.add 16) 29 q h first (some false) fr wt else litK (T2 text lim p (sn.add 16) 29 q h first none fr wt) (.ok (text.getD q 0 == 10, sn.add 16)) := rfl
theorem t_jump16 : (T2 text lim p sn 16 q h first none fr wt).step = T2 text lim p (sn.add 15) 35 q h first none fr wt := rfl
theorem t_jump21 : (T2 text lim p sn 21 q h first none fr wt).step = T2 text lim p (sn.add 15) 35 q h first none fr wt := rfl
theorem t_jump32 : (T2 text lim p sn 32 q h first none fr wt).step = T2 text lim p (sn.add 15) 35 q h first none fr wt := rfl
theorem t_suc : (T2 text lim p sn 35 q h first none fr wt).step = if (first && (false || false)) = true then T2 text lim p (sn.add 1) 35 q h first (some false) fr wt else T2 text lim p (sn.add 1) 35 q q first (some true) fr wt := by cases first <;> rfl
theorem t_popB {a b : Nat} {f g : Bool} : (T2 text lim p sn a b h g (some true) [fB q p f, fS p f] 2).step = T2 text lim p sn q p h f (some true) [fS p f] 1 := rfl
theorem t_popS {a b : Nat} {f g : Bool} : (T2 text lim p sn a b h g (some true) [fS p f] 1).step = T2 text lim p sn 10 p h f (some true) [] 0 := rfl
theorem t_out {a b : Nat} {g : Bool} : (T2 text lim p sn a b h g (some true) [] 0).step = T2 text lim p sn a b h g (some true) [] 0 (some .matched) := rfl
theorem t_alt18 {a b : Nat} {f g : Bool} : (T2 text lim p sn a b h g (some false) [fB 11 p f, fS p f] 2).step = T2 text lim p sn 19 p p f none [fB 18 p f, fS p f] 2 := rfl
theorem t_alt23 {a b : Nat} {f g : Bool} : (T2 text lim p sn a b h g (some false) [fB 18 p f, fS p f] 2).step = T2 text lim p sn 24 p p f none [fB 23 p f, fS p f] 2 := rfl
theorem t_not : (T2 text lim p sn 26 q h first none [fB 23 p first, fS p first] 2).step = T2 text lim p (sn.add 5) 29 q q false none [fL q first, fB 23 p first, fS p first] 3 := rfl
theorem t_notBack {a b : Nat} {g : Bool} : (T2 text lim p sn a b h g (some false) [fL q first, fB 23 p first, fS p first] 3).step = T2 text lim p sn 32 q h first none [fB 23 p first, fS p first] 2 := rfl

theorem t_succeeds {alt : Nat} : ∃ m', Gets 4 (T2 text lim p sn 35 q h first none [fB alt p first, fS p first] 2) m' ∧ Told m' (some (p, q)) := by
  have e := t_suc (text := text) (lim := lim) (p := p) (sn := sn) (q := q) (h := h) (first := first) (fr := [fB alt p first, fS p first]) (wt := 2)
  rw [if_neg (by simp)] at e
  exact ⟨_, Gets.cons rfl e (Gets.cons rfl t_popB (Gets.cons rfl t_popS (Gets.one rfl t_out))), ⟨rfl, rfl, rfl⟩⟩
theorem Gets.then {a b : Nat} {m m' : M} {r : Option (Nat × Nat)} (g : Gets a m m') (h : ∃ m'', Gets b m' m'' ∧ Told m'' r) : ∃ m'', Gets (a + b) m m'' ∧ Told m'' r := by
  obtain ⟨m'', g', t⟩ := h
  exact ⟨m'', g.trans g', t⟩

/-- where the line's end at p ends -/
noncomputable def eolEnd (text : Array Nat) (lim p : Nat) : Nat := if (text.getD p 0 == 13 && (decide (p + 1 < lim) && text.getD (p + 1) 0 == 10)) = true then p + 2 else p + 1

theorem t_go (hp : p < lim) (hn : isNL (text.getD p 0) = true) : ∃ m', Gets 20 (T2 text lim p sn 10 p p first none [fS p first] 1) m' ∧ Told m' (some (p, eolEnd text lim p)) := by
  have lit12 := fun sn => t_lit12 (text := text) (lim := lim) (p := p) (q := p) (h := p) (sn := sn) (first := first) (fr := [fB 11 p first, fS p first]) (wt := 2)
  have lit14 := fun sn => t_lit14 (text := text) (lim := lim) (p := p) (q := p + 1) (h := p) (sn := sn) (first := first) (fr := [fB 11 p first, fS p first]) (wt := 2)
  have lit19 := fun sn => t_lit19 (text := text) (lim := lim) (p := p) (q := p) (h := p) (sn := sn) (first := first) (fr := [fB 18 p first, fS p first]) (wt := 2)
  have lit24 := fun sn => t_lit24 (text := text) (lim := lim) (p := p) (q := p) (h := p) (sn := sn) (first := first) (fr := [fB 23 p first, fS p first]) (wt := 2)
  have lit29 := fun sn => t_lit29 (text := text) (lim := lim) (p := p) (q := p + 1) (h := p + 1) (sn := sn) (first := false) (fr := [fL (p + 1) first, fB 23 p first, fS p first]) (wt := 3)
  have hp' : ¬ p ≥ lim := by omega
  simp only [if_neg hp'] at lit12 lit19 lit24
  cases h13 : text.getD p 0 == 13 with
  | false =>
    have h10 : (text.getD p 0 == 10) = true := by unfold isNL at hn; rw [h13, Bool.or_false] at hn; exact hn
    have ee : eolEnd text lim p = p + 1 := by unfold eolEnd; rw [h13]; rfl
    rw [ee]
    simp only [h13] at lit12
    simp only [h10] at lit19
    have g : Gets 5 (T2 text lim p sn 10 p p first none [fS p first] 1) _ := Gets.cons rfl t_branch (Gets.cons rfl (lit12 _) (Gets.cons rfl t_alt18 (Gets.cons rfl (lit19 _) (Gets.one rfl t_jump21))))
    obtain ⟨m', g', t⟩ := Gets.then g t_succeeds
    exact ⟨m', g'.le (by omega), t⟩
  | true =>
    have h10 : (text.getD p 0 == 10) = false := by
      rw [beq_iff_eq] at h13; rw [h13]; rfl
    simp only [h13] at lit12 lit24
    simp only [h10] at lit19
    cases hx : (decide (p + 1 < lim) && text.getD (p + 1) 0 == 10) with
    | true =>
      have ee : eolEnd text lim p = p + 2 := by unfold eolEnd; rw [h13, hx]; rfl
      rw [ee]
      rw [Bool.and_eq_true] at hx
      have hq : ¬ p + 1 ≥ lim := by have := of_decide_eq_true hx.1; omega
      simp only [if_neg hq, hx.2] at lit14
      have g : Gets 4 (T2 text lim p sn 10 p p first none [fS p first] 1) _ := Gets.cons rfl t_branch (Gets.cons rfl (lit12 _) (Gets.cons rfl (lit14 _) (Gets.one rfl t_jump16)))
      obtain ⟨m', g', t⟩ := Gets.then g t_succeeds
      exact ⟨m', g'.le (by omega), t⟩
    | false =>
      have ee : eolEnd text lim p = p + 1 := by unfold eolEnd; rw [h13, hx]; rfl
      rw [ee]
      have no14 : ∀ sn, ∃ sn' q', (T2 text lim p sn 14 (p + 1) p first none [fB 11 p first, fS p first] 2).step = T2 text lim p sn' 14 q' p first (some false) [fB 11 p first, fS p first] 2 := fun sn => by
        rw [lit14]
        by_cases hq : p + 1 ≥ lim
        · rw [if_pos hq]; exact ⟨_, _, rfl⟩
        · rw [if_neg hq]
          have : (text.getD (p + 1) 0 == 10) = false := by
            rw [decide_eq_true (by omega : p + 1 < lim)] at hx
            simpa using hx
          rw [this]; exact ⟨_, _, rfl⟩
      have no29 : ∀ sn, ∃ sn' q', (T2 text lim p sn 29 (p + 1) (p + 1) false none [fL (p + 1) first, fB 23 p first, fS p first] 3).step = T2 text lim p sn' 29 q' (p + 1) false (some false) [fL (p + 1) first, fB 23 p first, fS p first] 3 := fun sn => by
        rw [lit29]
        by_cases hq : p + 1 ≥ lim
        · rw [if_pos hq]; exact ⟨_, _, rfl⟩
        · rw [if_neg hq]
          have : (text.getD (p + 1) 0 == 10) = false := by
            rw [decide_eq_true (by omega : p + 1 < lim)] at hx
            simpa using hx
          rw [this]; exact ⟨_, _, rfl⟩
      obtain ⟨sn1, q1, e14⟩ := no14 (((sn.add 7).add 16))
      have g1 : Gets 6 (T2 text lim p sn 10 p p first none [fS p first] 1) _ :=
        Gets.cons rfl t_branch (Gets.cons rfl (lit12 _) (Gets.cons rfl e14 (Gets.cons rfl t_alt18 (Gets.cons rfl (lit19 _) (Gets.one rfl t_alt23)))))
      obtain ⟨sn2, q2, e29⟩ := no29 (((sn1.add 16).add 16).add 5)
      have g2 : Gets 5 (T2 text lim p (sn1.add 16) 24 p p first none [fB 23 p first, fS p first] 2) _ :=
        Gets.cons rfl (lit24 _) (Gets.cons rfl t_not (Gets.cons rfl e29 (Gets.cons rfl t_notBack (Gets.one rfl t_jump32))))
      obtain ⟨m', g', t⟩ := Gets.then (g1.trans g2) t_succeeds
      exact ⟨m', g'.le (by omega), t⟩
end

theorem nxNL_lt {text : Array Nat} {lim : Nat} : ∀ (fuel p a : Nat), nxNL text lim fuel p = some a → p ≤ a ∧ a < lim ∧ isNL (text.getD a 0) = true
  | 0, p, a, h => by cases h
  | fuel + 1, p, a, h => by
    unfold nxNL at h
    by_cases hp : p < lim
    · rw [if_pos hp] at h
      by_cases hb : isNL (text.getD p 0) = true
      · rw [if_pos hb] at h; cases h; exact ⟨Nat.le_refl _, hp, hb⟩
      · rw [if_neg hb] at h
        obtain ⟨h1, h2, h3⟩ := nxNL_lt fuel (p + 1) a h
        exact ⟨by omega, h2, h3⟩
    · rw [if_neg hp] at h; cases h

theorem search2 {text : Array Nat} {lim p : Nat} {must : Bool} (hp : p ≤ lim) :
    ∃ m', Gets 20 (forSearch code2 text 0 p lim must) m' ∧ Told m' ((nxNL text lim (lim + 1 - p) p).map fun a => (a, eolEnd text lim a)) := by
  have e : ∃ m0 : M, m0.code = code2 ∧ m0.text = text ∧ m0.lim = lim ∧ forSearch code2 text 0 p lim must = if (decide (p > lim) || decide (lim - p < 1)) = true then
      ({ code := code2, text, lim, start := p, pc := 10, pos := p, handed := p, marks := #[], mustAdvance := must, seen := ({} : Sre.Seen).add 14, answer := some false } : M)
      else (match m0.admitted (lim + 1 - p) p (({} : Sre.Seen).add 14) with
        | .ok (some s, seen) => T2 text lim s seen 10 s s true none [fS s true] 1
        | .ok (none, seen) => { code := code2, text, lim, start := p, lastStart := lim, pc := 10, pos := p, handed := p, marks := #[], mustAdvance := must, seen, answer := some false }
        | .error why => m0.stick why) := ⟨{ code := code2, text, lim, start := p, lastStart := lim, pc := 10, pos := p, handed := p, marks := #[], mustAdvance := must, seen := ({} : Sre.Seen).add 14 }, rfl, rfl, rfl, rfl⟩
  obtain ⟨m0, h1, h2, h3, e⟩ := e
  rw [e]
  by_cases h : p < lim
  · rw [if_neg (by simp; omega)]
    obtain ⟨sn', ea⟩ := admitted2 h1 (lim + 1 - p) p (({} : Sre.Seen).add 14)
    rw [ea, h2, h3]
    cases hx : nxNL text lim (lim + 1 - p) p with
    | none => exact ⟨_, (Gets.one rfl rfl).le (by omega), rfl⟩
    | some a =>
      obtain ⟨_, h5, h6⟩ := nxNL_lt _ _ _ hx
      exact t_go h5 h6
  · rw [if_pos (by simp; omega)]
    have : nxNL text lim (lim + 1 - p) p = none := by
      rw [show lim + 1 - p = 0 + 1 by omega]
      unfold nxNL; rw [if_neg h]
    rw [this]
    exact ⟨_, (Gets.one rfl rfl).le (by omega), rfl⟩
end Mine

end

section
open PySem PySem.W PyProof.Rows
set_option maxRecDepth 100000
set_option Elab.async false
set_option linter.unusedVariables false
namespace Mine
theorem plainAttrs_pat : PlainAttrs "re.Pattern" :=
  ⟨⟨"object.__getattribute__", by rw [typeLookup_type, builtinLookup_eq_fast]; kernel_rfl, by decide +kernel⟩, by rw [typeLookup_type, builtinLookup_eq_fast]; kernel_rfl⟩
theorem slot_sub : Slot "re.Pattern" "sub" "re.Pattern.sub" :=
  .of (owner := "re.Pattern") (n := "sub") (by rw [typeLookup_type, builtinLookup_eq_fast]; kernel_rfl) (by decide +kernel) (by decide +kernel) (by decide +kernel)
    (by first | exact .inl (by decide +kernel) | exact .inr (by decide +kernel)) (by rw [isSubtype_type]; kernel_rfl)
theorem type_sub : typeOf (.builtin "re.Pattern.sub") = pure (.type "method_descriptor") := by show builtinType _ = _; rw [builtinType_eq_fast]; kernel_rfl
theorem entry_sub : entryFor table "re.Pattern.sub" = some Builtin.«re.Pattern.sub» := entryFor_of_tree (by kernel_rfl)
theorem args_sub (a b c : Value) : argsOk "re.Pattern.sub" ⟨[a, b, c], []⟩ := by unfold argsOk; kernel_rfl
theorem plain_loop : plainId "re.Pattern.sub.loop" = true := by decide +kernel
theorem entry_loop : entryFor table "re.Pattern.sub.loop" = some Builtin.«re.Pattern.sub.loop» := entryFor_of_tree (by kernel_rfl)
theorem slot_bjoin : Slot "bytes" "join" "bytes.join" :=
  .of (owner := "bytes") (n := "join") (by rw [typeLookup_type, builtinLookup_eq_fast]; kernel_rfl) (by decide +kernel) (by decide +kernel) (by decide +kernel)
    (by first | exact .inl (by decide +kernel) | exact .inr (by decide +kernel)) (by rw [isSubtype_type]; kernel_rfl)
theorem entry_bjoin : entryFor table "bytes.join" = some Builtin.«bytes.join» := entryFor_of_tree (by kernel_rfl)
theorem args_bjoin (a b : Value) : argsOk "bytes.join" ⟨[a, b], []⟩ := by unfold argsOk; kernel_rfl
theorem args_bdecode (a b : Value) : argsOk "bytes.decode" ⟨[a, b], []⟩ := by unfold argsOk; kernel_rfl
theorem str_noCall : typeLookup (.type "str") "__call__" = pure none := by rw [typeLookup_type, builtinLookup_eq_fast]; kernel_rfl
theorem bytes_noCall : typeLookup (.type "bytes") "__call__" = pure none := by rw [typeLookup_type, builtinLookup_eq_fast]; kernel_rfl
end Mine

end

section
open PySem PySem.W PyProof.Rows
set_option maxRecDepth 100000
set_option Elab.async false
set_option linter.unusedVariables false
namespace Mine
open PySem.Sre PySem.Builtin.Re

/-- a text as a str (false) or as bytes (true) -/
noncomputable def vv (k : Bool) (l : List Nat) (t : Tok) : Value := if k = true then .bytes (l.toArray.map Nat.toUInt8) t else .str ⟨l.toArray⟩ t
noncomputable def kN (k : Bool) : Nat := if k = true then 1 else 0

structure PatOk (h : Heap) (P C : Addr) (k : Bool) (code : Array Nat) : Prop where
  pat : ∃ o vs, h.get? P = some o ∧ o.cls = .type "re.Pattern" ∧ o.dict = none ∧ o.data = .fields vs ∧ reRawNat (vs.getD 6 .none) = kN k ∧ reRawNat (vs.getD 2 .none) = 0 ∧ vs.getD 5 .none = .ref C
  cod : ∃ o vs n, h.get? C = some o ∧ (o.data = .seq vs n ∧ o.cls = .type "tuple") ∧ (vs.map reRawOf).map Int.toNat = code

theorem PatOk.keep {h h' : Heap} {P C L : Addr} {k : Bool} {code : Array Nat} (p : PatOk h P C k code) {ws : List Value} {m : Nat} (hL : h.get? L = some (lstO ws m)) (hk : ∀ b o, b ≠ L → h.get? b = some o → h'.get? b = some o) : PatOk h' P C k code := by
  obtain ⟨⟨o, vs, e1, e2, e2', e3, e4, e5, e6⟩, ⟨o', vs', n, f1, ⟨f2, f2'⟩, f3⟩⟩ := p
  refine ⟨⟨o, vs, hk P o (fun e => ?_) e1, e2, e2', e3, e4, e5, e6⟩, ⟨o', vs', n, hk C o' (fun e => ?_) f1, ⟨f2, f2'⟩, f3⟩⟩
  · subst e; rw [hL] at e1; cases e1; cases e3
  · subst e; rw [hL] at f1; cases f1; 
    have f : Value.type "list" = Value.type "tuple" := f2'
    injection f with f
    exact absurd f (by decide)

theorem u8_back {l : List Nat} (hl : ∀ c ∈ l, c < 256) : (l.toArray.map Nat.toUInt8).map UInt8.toNat = l.toArray := by
  rw [Array.map_map]
  apply Array.ext'
  simp only [Array.toList_map]
  conv => rhs; rw [← List.map_id l]
  exact List.map_congr_left fun c hc => by
    have := hl c hc
    show (Nat.toUInt8 c).toNat = c
    rw [Nat.toUInt8_eq, UInt8.toNat_ofNat']
    exact Nat.mod_eq_of_lt (by omega)

section
variable {prog : Program} {w : World} {A : Around} {E : Value → Shared → Prop} {s : Shared} {P C : Addr} {k : Bool} {code : Array Nat} {l : List Nat} {t : Tok}

theorem textOf {Q : Array Nat × Nat → Shared → Prop} (hl : k = true → ∀ c ∈ l, c < 256) (h : Q (l.toArray, kN k) s) : wpAny (model prog w) A (reTextOf (vv k l t)) Q E s := by
  cases k with
  | false => exact wpAny_pure h
  | true =>
    show wpAny _ _ (asStr? (.bytes (l.toArray.map Nat.toUInt8) t) >>= _) _ _ s
    refine wpAny_bind (wpAny_of_eq (a := none) rfl ?_)
    show wpAny _ _ (Builtin.Bytes.bufferQuiet? "_sre" (.bytes (l.toArray.map Nat.toUInt8) t) >>= _) _ _ s
    refine wpAny_bind (wpAny_of_eq KBy.quiet_eq ?_)
    refine wpAny_pure ?_
    have e := u8_back (hl rfl)
    show Q ((l.toArray.map Nat.toUInt8).map (fun x => x.toNat), 1) s
    rw [show (fun x : UInt8 => x.toNat) = UInt8.toNat from rfl, e]
    exact h

theorem wholeT {Q : ReTarget → Shared → Prop} (p : PatOk s.heap P C k code) (hl : k = true → ∀ c ∈ l, c < 256)
    (h : Q { pattern := .ref P, string := vv k l t, code, text := l.toArray, kind := kN k, groups := 0, pos := 0, lim := l.toArray.size } s) : wpAny (model prog w) A (reWholeTarget (.ref P) (vv k l t)) Q E s := by
  obtain ⟨⟨o, vs, e1, e2, e2', e3, e4, e5, e6⟩, ⟨o', vs', n, f1, ⟨f2, f2'⟩, f3⟩⟩ := p
  unfold reWholeTarget
  refine wpAny_bind (wpAny_fieldsOf e1 e3 ?_)
  refine wpAny_bind (textOf hl ?_)
  simp only [e4, e5, e6]
  have tail : wpAny (model prog w) A (do reNoCollectionInside (vv k l t) (kN k); let c ← reRawItems (.ref C); pure ({ pattern := .ref P, string := vv k l t, code := c.map (·.toNat), text := l.toArray, kind := kN k, groups := 0, pos := 0, lim := l.toArray.size } : ReTarget)) Q E s := by
    have items : wpAny (model prog w) A (do let c ← reRawItems (.ref C); pure ({ pattern := .ref P, string := vv k l t, code := c.map (·.toNat), text := l.toArray, kind := kN k, groups := 0, pos := 0, lim := l.toArray.size } : ReTarget)) Q E s := by
      unfold reRawItems
      refine wpAny_bind (wpAny_bind (wpAny_seqItems f1 f2 (wpAny_pure (wpAny_pure ?_))))
      show Q { pattern := .ref P, string := vv k l t, code := (vs'.map reRawOf).map Int.toNat, text := l.toArray, kind := kN k, groups := 0, pos := 0, lim := l.toArray.size } s
      rw [f3]; exact h
    refine wpAny_bind ?_
    cases k with
    | false => exact wpAny_pure items
    | true =>
      show wpAny _ _ (isInstance (.bytes (l.toArray.map Nat.toUInt8) t) (.type "bytes") >>= _) _ _ s
      refine wpAny_bind (wpAny_of_eq KBy.isInstance_eq ?_)
      exact wpAny_pure items
  cases k with
  | false => exact tail
  | true => exact tail

theorem literalV {Q : Unit → Shared → Prop} (h : Q () s) : wpAny (model prog w) A (reLiteralCannotBeTurned (vv k l t)) Q E s := by
  unfold reLiteralCannotBeTurned
  cases k with
  | false =>
    show wpAny _ _ (asStr? (.str ⟨l.toArray⟩ t) >>= _) _ _ s
    exact wpAny_bind (wpAny_of_eq (a := some ⟨l.toArray⟩) rfl (wpAny_pure h))
  | true =>
    show wpAny _ _ (asStr? (.bytes (l.toArray.map Nat.toUInt8) t) >>= _) _ _ s
    refine wpAny_bind (wpAny_of_eq (a := none) rfl ?_)
    show wpAny _ _ (isInstance (.bytes (l.toArray.map Nat.toUInt8) t) (.type "bytes") >>= _) _ _ s
    exact wpAny_bind (wpAny_of_eq KBy.isInstance_eq (wpAny_pure h))

noncomputable def cut (l : List Nat) (b e : Nat) : List Nat := (l.drop b).take (e - b)
theorem cut_arr (l : List Nat) (b e : Nat) : l.toArray.extract b e = (cut l b e).toArray := by
  rw [List.extract_toArray]; rfl
theorem cut_len (l : List Nat) (b e : Nat) : (cut l b e).length ≤ l.length := by
  unfold cut; rw [List.length_take, List.length_drop]; omega
theorem sliceV {Q : Value → Shared → Prop} {b e : Nat} (hsz : l.length ≤ sizeLine) (h : Q (vv k (cut l b e) s.toks) { s with toks := s.toks + 1 }) : wpAny (model prog w) A (reSlice l.toArray (kN k) b e) Q E s := by
  unfold reSlice
  have hc := cut_len l b e
  cases k with
  | false =>
    show wpAny _ _ (mkStr ⟨l.toArray.extract b e⟩) _ _ s
    rw [cut_arr]
    exact wpAny_mkStr h (by show (cut l b e).toArray.size ≤ sizeLine; rw [List.size_toArray]; omega)
  | true =>
    show wpAny _ _ (mkBytes ((l.toArray.extract b e).map (·.toUInt8))) _ _ s
    rw [cut_arr]
    exact wpAny_mkBytes h (by rw [Array.size_map, List.size_toArray]; omega)
end
end Mine

end

section
open PySem PySem.W PyProof.Rows
set_option maxRecDepth 100000
set_option Elab.async false
set_option linter.unusedVariables false
namespace Mine
open PySem.Sre PySem.Builtin.Re

structure KpX (L : Addr) (s s' : Shared) : Prop where
  heap : ∀ b o, b ≠ L → s.heap.get? b = some o → s'.heap.get? b = some o
  gens : s'.gens = s.gens
  os : s'.os = s.os
theorem KpX.refl {L : Addr} (s : Shared) : KpX L s s := ⟨fun _ _ _ e => e, rfl, rfl⟩
theorem KpX.trans {L : Addr} {s s' s'' : Shared} (a : KpX L s s') (b : KpX L s' s'') : KpX L s s'' := ⟨fun x o hx e => b.heap x o hx (a.heap x o hx e), b.gens.trans a.gens, b.os.trans a.os⟩
theorem KpX.tok {L : Addr} {s : Shared} {t : Tok} : KpX L s { s with toks := t } := ⟨fun _ _ _ e => e, rfl, rfl⟩

noncomputable def vals (k : Bool) (acc : List (List Nat × Tok)) : List Value := acc.map fun p => vv k p.1 p.2
noncomputable def JoinOk (k : Bool) : Prop := ∀ (prog : Program) (w : World) (A : Around) (E : Value → Shared → Prop) (s : Shared) (L : Addr) (acc : List (List Nat × Tok)) (ep : Nat) (t : Tok) (Q : Value → Shared → Prop),
  s.heap.get? L = some (lstO (vals k acc) ep) → acc ≠ [] → (acc.flatMap (·.1)).length ≤ 1000000 → (∀ t' tk, Q (vv k (acc.flatMap (·.1)) t') { s with toks := tk }) →
  wpAny (model prog w) A (call (.builtin (if (kN k == 0) = true then "str.join" else "bytes.join")) [vv k [] t, .ref L]) Q E s

theorem push_piece {prog : Program} {w : World} {A : Around} {E : Value → Shared → Prop} {s : Shared} {L : Addr} {k : Bool} {acc : List (List Nat × Tok)} {ep : Nat} {y : List Nat} {t : Tok} {Q : Unit → Shared → Prop} (hL : s.heap.get? L = some (lstO (vals k acc) ep)) (hsz : acc.length ≤ 4000000)
    (h : ∀ s', KpX L s s' → (∃ ep', s'.heap.get? L = some (lstO (vals k (acc ++ [(y, t)])) ep')) → Q () s') : wpAny (model prog w) A (updateSeq L (·.push (vv k y t))) Q E s := by
  have hz : (vals k acc).toArray.size ≤ sizeLine := by rw [List.size_toArray, vals, List.length_map, sizeLine_eq]; omega
  refine wpAny_updateSeq hL rfl (h _ ⟨fun b o hb e => ?_, rfl, rfl⟩ ?_) hz (by rw [Array.size_push]; omega)
  · exact (Heap.get?_update_other _ _ (Ne.symm hb)).trans e
  · exact ⟨_, (Heap.get?_update_self _ hL rfl).trans (by simp [Obj.mapSeq, lstO, vals]; rfl)⟩

/-- what the pattern finds, and what is written for the rest from p on -/
structure Finds (k : Bool) (code : Array Nat) (l r : List Nat) (nx : Nat → Option (Nat × Nat)) (tl : Nat → List Nat) : Prop where
  no : ∀ p, p ≤ l.length → nx p = none → tl p = l.drop p
  so : ∀ p a b, p ≤ l.length → nx p = some (a, b) → p ≤ a ∧ a < b ∧ b ≤ l.length ∧ tl p = cut l p a ++ r ++ tl b
  run : ∀ p must, p ≤ l.length → ∃ m' n, Gets n (forSearch code l.toArray 0 p l.toArray.size must) m' ∧ n < 2 ^ 60 ∧ Told m' (nx p)

section
variable {prog : Program} {w : World} {A : Around} {P C L : Addr} {k : Bool} {code : Array Nat} {l r : List Nat} {nx : Nat → Option (Nat × Nat)} {tl : Nat → List Nat} {tt tr : Tok} {R : Result → Shared → Prop} {Z : List Nat}

theorem nextF {E : Value → Shared → Prop} {Q : Option M → Shared → Prop} {s : Shared} (F : Finds k code l r nx tl) {p : Nat} (hp : p ≤ l.length) {must : Bool} {V : Value}
    (h0 : nx p = none → Q none s) (h1 : ∀ m a b, nx p = some (a, b) → m.start = a → m.handed = b → Q (some m) s) :
    wpAny (model prog w) A (reNextFound { pattern := .ref P, string := V, code, text := l.toArray, kind := kN k, groups := 0, pos := 0, lim := l.toArray.size } p must) Q E s := by
  obtain ⟨m', n, g, hn, t⟩ := F.run p must hp
  unfold reNextFound
  cases hx : nx p with
  | none =>
    rw [hx] at t
    refine toEnd g hn (.inr t) ?_
    have : Ended m' = none := by unfold Ended; rw [show m'.outcome = some .failed from t]
    rw [this]; exact h0 hx
  | some ab =>
    obtain ⟨a, b⟩ := ab
    rw [hx] at t
    refine toEnd g hn (.inl t.1) ?_
    have : Ended m' = some m' := by unfold Ended; rw [t.1]
    rw [this]; exact h1 m' a b hx t.2.1 t.2.2

theorem vv_ne {y : List Nat} {t : Tok} : (vv k y t != Value.none) = true := by cases k <;> rfl

theorem sub_loop (F : Finds k code l r nx tl) (hj : JoinOk k) (hl : k = true → ∀ c ∈ l, c < 256) (hlen : l.length ≤ 1000000) (hZ : Z.length ≤ 1000000) :
    ∀ (fuel p : Nat), l.length + 1 - p ≤ fuel → p ≤ l.length → ∀ (s : Shared) (acc : List (List Nat × Tok)) (n : Int) (ep : Nat) (must : Bool), PatOk s.heap P C k code → s.heap.get? L = some (lstO (vals k acc) ep) →
      acc.flatMap (·.1) ++ tl p = Z → acc.length ≤ 2 * p → (∀ t s', KpX L s s' → R (.ok (.ret (vv k Z t))) s') →
      wpAny (model prog w) A.in1 (Builtin.«re.Pattern.sub.loop» ⟨[.ref P, vv k l tt, vv k r tr, rawInt 0, rawInt 0, rawInt n, rawInt p, rawInt p, .bool must, .ref L, .bool false], []⟩)
        (fun fin s' => match fin with | .done f => R (.ok f) s' | .again c' => c'.quiet = true ∧ codeAny (model prog w) A c' R s') (fun e s' => R (.error e) s') s
  | 0, p, h, hp => by omega
  | fuel + 1, p, h, hp => fun s acc n ep must hP hL hacc hal kk => by
    have hsz : l.length ≤ sizeLine := by rw [sizeLine_eq]; omega
    show wpAny _ _ (reWholeTarget (.ref P) (vv k l tt) >>= _) _ _ s
    refine wpAny_bind (wholeT hP hl ?_)
    show wpAny _ _ (reLiteralCannotBeTurned (vv k r tr) >>= _) _ _ s
    refine wpAny_bind (literalV ?_)
    show wpAny _ _ (reNextFound _ p must >>= _) _ _ s
    refine wpAny_bind (nextF F hp (fun hx => ?_) (fun m a b hx h1 h2 => ?_))
    · -- the end
      have htl := F.no p hp hx
      have fin : ∀ (acc' : List (List Nat × Tok)) (ep' : Nat) s₁, KpX L s s₁ → s₁.heap.get? L = some (lstO (vals k acc') ep') → acc'.flatMap (·.1) = Z → (acc' = [] → Z = []) →
          wpAny (model prog w) A.in1 (do
            let joiner ← reSlice l.toArray (kN k) 0 0
            let text ← if (((← seqItems? (.ref L)).getD #[]).isEmpty) = true then pure joiner else call (.builtin (if (kN k == 0) = true then "str.join" else "bytes.join")) [joiner, .ref L]
            ret text) (fun fin s' => match fin with | .done f => R (.ok f) s' | .again c' => c'.quiet = true ∧ codeAny (model prog w) A c' R s') (fun e s' => R (.error e) s') s₁ := fun acc' ep' s₁ k₁ hL' hz hn => by
        refine wpAny_bind (sliceV hsz ?_)
        refine wpAny_bind (wpAny_seqItems (s := { s₁ with toks := s₁.toks + 1 }) hL' rfl ?_)
        by_cases he : acc' = []
        · subst he
          show wpAny _ _ (pure _ >>= _) _ _ _
          refine wpAny_bind (wpAny_pure (wpAny_pure ?_))
          have := kk s₁.toks _ (k₁.trans (KpX.tok (t := s₁.toks + 1)))
          rw [hn rfl] at this
          exact this
        · have hne : ¬ (((some (vals k acc').toArray).getD #[]).isEmpty = true) := by
            show ¬ ((vals k acc').toArray.isEmpty = true)
            rw [List.isEmpty_toArray, List.isEmpty_iff, vals, List.map_eq_nil_iff]
            exact he
          rw [if_neg hne]
          refine wpAny_bind (hj prog w _ _ { s₁ with toks := s₁.toks + 1 } L acc' ep' _ _ hL' he (by rw [hz]; exact hZ) fun t' tk => ?_)
          rw [hz]
          exact wpAny_pure (kk t' _ (k₁.trans (KpX.tok (t := tk))))
      by_cases hd : p < l.length
      · show wpAny _ _ (if p < l.toArray.size then _ else _) _ _ s
        rw [if_pos (by simpa using hd)]
        refine wpAny_bind (sliceV hsz ?_)
        refine wpAny_bind (push_piece (s := { s with toks := s.toks + 1 }) hL (by omega) fun s' k' hL' => ?_)
        obtain ⟨ep', hL'⟩ := hL'
        refine fin _ ep' s' ((KpX.tok (t := s.toks + 1)).trans k') hL' ?_ (fun e => absurd e (by simp))
        rw [List.flatMap_append, ← hacc, htl]
        simp [cut]
        rw [List.take_of_length_le (by simp)]
      · show wpAny _ _ (if p < l.toArray.size then _ else _) _ _ s
        rw [if_neg (by simpa using hd)]
        have hdn : l.drop p = [] := List.drop_of_length_le (by omega)
        have hz : acc.flatMap (·.1) = Z := by rw [← hacc, htl, hdn, List.append_nil]
        exact fin acc ep s (KpX.refl s) hL hz (fun e => by subst e; exact hz.symm)
    · -- one more
      obtain ⟨g1, g2, g3, g4⟩ := F.so p a b hp hx
      have more : ∀ (acc' : List (List Nat × Tok)) (ep' : Nat) s₁, KpX L s s₁ → s₁.heap.get? L = some (lstO (vals k acc') ep') → acc'.flatMap (·.1) ++ tl b = Z → acc'.length ≤ 2 * b → 
          wpAny (model prog w) A.in1 (again (.builtin "re.Pattern.sub.loop" ⟨[.ref P, vv k l tt, vv k r tr, rawInt 0, rawInt 0, rawInt (n + 1), rawInt m.handed, rawInt m.handed, .bool (m.handed == m.start), .ref L, .bool false], []⟩))
            (fun fin s' => match fin with | .done f => R (.ok f) s' | .again c' => c'.quiet = true ∧ codeAny (model prog w) A c' R s') (fun e s' => R (.error e) s') s₁ := fun acc' ep' s₁ k₁ hL' hz hb => by
        rw [h2]
        refine wpAny_pure ⟨plainId_quiet plain_loop _, codeAny_builtin entry_loop ?_⟩
        rw [Around.under_plainId plain_loop _]
        exact sub_loop F hj hl hlen hZ fuel b (by omega) g3 s₁ acc' (n + 1) ep' _ (hP.keep hL k₁.heap) hL' hz hb fun t s' k' => kk t s' (k₁.trans k')
      have item : ∀ (acc' : List (List Nat × Tok)) (ep' : Nat) s₁, KpX L s s₁ → s₁.heap.get? L = some (lstO (vals k acc') ep') → acc'.flatMap (·.1) ++ r ++ tl b = Z → acc'.length + 1 ≤ 2 * b → 
          wpAny (model prog w) A.in1 (do
            let item ← pure (vv k r tr)
            if (item != .none) = true then do
              updateSeq L (·.push item)
              again (.builtin "re.Pattern.sub.loop" ⟨[.ref P, vv k l tt, vv k r tr, rawInt 0, rawInt 0, rawInt (n + 1), rawInt m.handed, rawInt m.handed, .bool (m.handed == m.start), .ref L, .bool false], []⟩)
            else again (.builtin "re.Pattern.sub.loop" ⟨[.ref P, vv k l tt, vv k r tr, rawInt 0, rawInt 0, rawInt (n + 1), rawInt m.handed, rawInt m.handed, .bool (m.handed == m.start), .ref L, .bool false], []⟩))
            (fun fin s' => match fin with | .done f => R (.ok f) s' | .again c' => c'.quiet = true ∧ codeAny (model prog w) A c' R s') (fun e s' => R (.error e) s') s₁ := fun acc' ep' s₁ k₁ hL' hz hb => by
        refine wpAny_bind (wpAny_pure ?_)
        rw [if_pos vv_ne]
        refine wpAny_bind (push_piece hL' (by omega) fun s' k' hL'' => ?_)
        obtain ⟨ep'', hL''⟩ := hL''
        exact more _ ep'' s' (k₁.trans k') hL'' (by rw [List.flatMap_append]; simpa using hz) (by simp; omega)
      by_cases hd : p < a
      · show wpAny _ _ (if p < m.start then _ else _) _ _ s
        rw [if_pos (by omega)]
        refine wpAny_bind (sliceV hsz ?_)
        refine wpAny_bind (push_piece (s := { s with toks := s.toks + 1 }) hL (by omega) fun s' k' hL' => ?_)
        obtain ⟨ep', hL'⟩ := hL'
        refine item _ ep' s' ((KpX.tok (t := s.toks + 1)).trans k') hL' ?_ (by simp; omega)
        rw [List.flatMap_append, ← hacc, g4, h1]
        simp
      · show wpAny _ _ (if p < m.start then _ else _) _ _ s
        rw [if_neg (by omega)]
        have hpa : p = a := by omega
        refine item acc ep s (KpX.refl s) hL ?_ (by omega)
        rw [← hacc, g4]
        have : cut l p a = [] := by unfold cut; rw [hpa]; simp
        rw [this]; simp
end
end Mine

end

section
open PySem PySem.W PyProof.Rows
set_option maxRecDepth 100000
set_option Elab.async false
set_option linter.unusedVariables false
namespace Mine
open PySem.Sre PySem.Builtin.Re

theorem named_eq (a b : Value) : reNamed "re.Pattern.sub" "sub" ["repl", "string", "count"] 2 [a, b] [] = pure [some a, some b, none] := by kernel_rfl

theorem PatOk.typeIs {s : Shared} {P C : Addr} {k : Bool} {code : Array Nat} (p : PatOk s.heap P C k code) : s.TypeIs (.ref P) "re.Pattern" := by
  obtain ⟨o, vs, e1, e2, _⟩ := p.pat
  exact ⟨o, e1, e2⟩
theorem PatOk.kp {h h' : Heap} {P C : Addr} {k : Bool} {code : Array Nat} (p : PatOk h P C k code) (hk : ∀ b o, h.get? b = some o → h'.get? b = some o) : PatOk h' P C k code := by
  obtain ⟨⟨o, vs, e1, e2, e2', e3, e4, e5, e6⟩, ⟨o', vs', n, f1, f2, f3⟩⟩ := p
  exact ⟨⟨o, vs, hk _ _ e1, e2, e2', e3, e4, e5, e6⟩, ⟨o', vs', n, hk _ _ f1, f2, f3⟩⟩

section
variable {prog : Program} {w : World} {A : Around} {E : Value → Shared → Prop} {s : Shared} {P C : Addr} {k : Bool} {code : Array Nat} {l r : List Nat} {nx : Nat → Option (Nat × Nat)} {tl : Nat → List Nat} {tt tr : Tok} {Q : Value → Shared → Prop}

theorem special_call {Q : Option Value → Shared → Prop} (h : Q none s) : wpAny (model prog w) A (specialOf (vv k r tr) "__call__") Q E s := by
  cases k with
  | false => exact wpAny_specialOf (T := "str") (typeIs_str _ _ _) str_noCall h
  | true => exact wpAny_specialOf (T := "bytes") (typeIs_bytes _ _ _) bytes_noCall h

theorem sub_call (F : Finds k code l r nx tl) (hj : JoinOk k) (hl : k = true → ∀ c ∈ l, c < 256) (hlen : l.length ≤ 1000000) (hZ : (tl 0).length ≤ 1000000) (hP : PatOk s.heap P C k code)
    (hr : r.toArray.contains 92 = false) (hr' : (r.toArray.map Nat.toUInt8).contains 92 = false) (kk : ∀ t s', Kp s s' → Q (vv k (tl 0) t) s') :
    wpAny (model prog w) A (call (.builtin "re.Pattern.sub") [.ref P, vv k r tr, vv k l tt]) Q E s := by
  refine wpAny_call (codeAny_call_builtin slot_sub.plain entry_sub (slot_sub.check _ _ _ _ _ _ _ _ hP.typeIs (args_sub _ _ _) ?_))
  show wpAny _ _ (reNamed "re.Pattern.sub" "sub" ["repl", "string", "count"] 2 [vv k r tr, vv k l tt] [] >>= _) _ _ s
  refine wpAny_bind (wpAny_of_eq (named_eq _ _) ?_)
  show wpAny _ _ (specialOf (vv k r tr) "__call__" >>= _) _ _ s
  refine wpAny_bind (special_call ?_)
  have rest : wpAny (model prog w) A.in1 (do
      let _ ← holding [vv k r tr] (reWholeTarget (.ref P) (vv k l tt))
      let L ← newList []
      again (.builtin "re.Pattern.sub.loop" ⟨[.ref P, vv k l tt, vv k r tr, rawInt 0, rawInt 0, rawInt 0, rawInt 0, rawInt 0, .bool false, L, .bool false], []⟩))
      (fun fin s' => match fin with | .done f => wants Q E (.ok f) s' | .again c' => c'.quiet = true ∧ codeAny (model prog w) A c' (wants Q E) s') (fun e s' => wants Q E (.error e) s') s := by
    refine wpAny_bind (wpAny_holding (wholeT hP hl ?_))
    refine wpAny_bind (wpAny_newList ?_)
    refine wpAny_pure ⟨plainId_quiet plain_loop _, codeAny_builtin entry_loop ?_⟩
    rw [Around.under_plainId plain_loop _]
    have hk : ∀ b o, s.heap.get? b = some o → (s.heap.push { cls := .type "list", data := .seq #[] }).get? b = some o := fun b o e => Heap.get?_push_of_some _ e
    refine sub_loop (Z := tl 0) F hj hl hlen hZ (l.length + 1) 0 (by omega) (by omega) _ [] 0 0 false (hP.kp hk) (Heap.get?_push_size _ rfl) rfl (by simp) fun t s' k' => kk t s' ⟨fun b o e => k'.heap b o (fun hb => by subst hb; rw [fresh_none] at e; cases e) (hk b o e), ⟨[], by rw [k'.gens]; simp, fun _ h => nomatch h⟩, k'.os⟩
  cases k with
  | false =>
    show wpAny _ _ (asStr? (.str ⟨r.toArray⟩ tr) >>= _) _ _ s
    refine wpAny_bind (wpAny_of_eq (a := some ⟨r.toArray⟩) rfl ?_)
    refine wpAny_bind (wpAny_pure ?_)
    rw [show (!(⟨r.toArray⟩ : Str).cps.contains 92) = true from by rw [show (⟨r.toArray⟩ : Str).cps = r.toArray from rfl, hr]; rfl]
    exact rest
  | true =>
    show wpAny _ _ (asStr? (.bytes (r.toArray.map Nat.toUInt8) tr) >>= _) _ _ s
    refine wpAny_bind (wpAny_of_eq (a := none) rfl ?_)
    show wpAny _ _ (Builtin.Bytes.bufferQuiet? "re.Pattern.sub" (.bytes (r.toArray.map Nat.toUInt8) tr) >>= _) _ _ s
    refine wpAny_bind (wpAny_of_eq KBy.quiet_eq ?_)
    refine wpAny_bind (wpAny_pure ?_)
    rw [hr']
    exact rest
end
end Mine

end

section
open PySem PySem.W PyProof.Rows
set_option maxRecDepth 100000
set_option Elab.async false
set_option linter.unusedVariables false
namespace Mine
open PySem.Sre PySem.Builtin.Re

theorem glue_go : ∀ (xs : List (List Nat)) (a : List Nat), (xs.map fun x => (⟨x.toArray⟩ : Str)).foldl (fun acc p => acc ++ (⟨#[]⟩ : Str).cps ++ p.cps) a.toArray = (a ++ xs.flatMap id).toArray
  | [], a => by simp
  | x :: xs, a => by
    rw [List.map_cons, List.foldl_cons]
    show ((xs.map _).foldl _ (a.toArray ++ #[] ++ x.toArray)) = _
    rw [Array.append_empty, List.append_toArray, glue_go xs (a ++ x)]
    simp
theorem glued_nil (xs : List (List Nat)) : Builtin.Str.glued ⟨#[]⟩ (xs.map fun x => (⟨x.toArray⟩ : Str)) = ⟨(xs.flatMap id).toArray⟩ := by
  unfold Builtin.Str.glued
  congr 1
  cases xs with
  | nil => rfl
  | cons x xs =>
    show ((xs.map _).foldl _ x.toArray) = _
    rw [glue_go]
    simp
theorem foldl_len : ∀ (xs : List (List Nat)) (n : Nat), (xs.map fun x => (⟨x.toArray⟩ : Str)).foldl (fun a p => a + p.length + (⟨#[]⟩ : Str).length) n = n + (xs.flatMap id).length
  | [], n => by simp
  | x :: xs, n => by
    rw [List.map_cons, List.foldl_cons, foldl_len xs]
    have : (⟨x.toArray⟩ : Str).length = x.length := rfl
    rw [this]
    have : (⟨#[]⟩ : Str).length = 0 := rfl
    rw [this]
    simp
    omega

theorem joinS : JoinOk false := by
  intro prog w A E s L acc ep t Q hL hne hsz kk
  show wpAny _ _ (call (.builtin "str.join") [.str ⟨#[]⟩ t, .ref L]) _ _ s
  let xs : List (Str × Tok) := acc.map fun p => (⟨p.1.toArray⟩, p.2)
  have e1 : vals false acc = strValues xs := by simp [vals, strValues, xs, vv]
  have e2 : xs.map (·.1) = (acc.map (·.1)).map fun x => (⟨x.toArray⟩ : Str) := by simp [xs]
  have e3 : (acc.map (·.1)).flatMap id = acc.flatMap (·.1) := by rw [List.flatMap_map]; rfl
  have e4 : Builtin.Str.glued ⟨#[]⟩ (xs.map (·.1)) = ⟨(acc.flatMap (·.1)).toArray⟩ := by rw [e2, glued_nil, e3]
  refine call_meets PySem.F.slot_str_join (typeIs_str _ _ _) PySem.F.entry_str_join (PySem.F.args_str_join_2 _ _) (meets_str_join_list ⟨#[]⟩ _ L xs ?_) ⟨⟨_, hL, rfl, _, by rw [e1]⟩, ?_⟩
  · rw [e2]
    unfold Builtin.Str.tooLong
    refine decide_eq_false ?_
    have e5 := foldl_len (acc.map (·.1)) 0
    rw [e3] at e5
    rw [List.foldl_toArray' (h := by simp)]
    have e6 := sizeLine_eq
    omega
  · refine joinMade_post (by rw [e4]; show (acc.flatMap (·.1)).toArray.size ≤ sizeLine; rw [List.size_toArray, sizeLine_eq]; omega) fun t' tk => ?_
    rw [e4]
    exact kk t' tk
end Mine

end

section
open PySem PySem.W PyProof.Rows
set_option maxRecDepth 100000
set_option Elab.async false
set_option linter.unusedVariables false
namespace Mine
open PySem.Sre PySem.Builtin.Re

theorem take_eq {id : String} {b : Array UInt8} {t : Tok} : Builtin.Bytes.takeBuffer? id (.bytes b t) 0 = pure (some (b, none)) := by
  unfold Builtin.Bytes.takeBuffer?
  rw [KBy.special_eq KBy.look_buffer, KBy.own_buffer, show ((0 : Int) == Builtin.Bytes.fullReadOnly) = false from by decide, KBy.buffer_eq]
  kernel_rfl

theorem list_for {σ : Type} {M : Model} {A : Around} {E : Value → Shared → Prop} {s : Shared} {f : Nat → σ → Sem (ForInStep σ)} {n : Nat} {Inv : Nat → σ → Prop} {Q : σ → Shared → Prop}
    (h : ∀ i st, i < n → Inv i st → ∀ Q : ForInStep σ → Shared → Prop, (∀ st', Inv (i + 1) st' → Q (.yield st') s) → wpAny M A (f i st) Q E s) (k : ∀ st, Inv n st → Q st s) :
    ∀ (m i : Nat) (st : σ), i + m = n → Inv i st → wpAny M A (forIn (List.range' i m) st f) Q E s
  | 0, i, st, e, hi => by
    rw [List.range'_zero, List.forIn_nil]
    have : i = n := by omega
    subst this
    exact wpAny_pure (k st hi)
  | m + 1, i, st, e, hi => by
    rw [List.range'_succ, List.forIn_cons]
    refine wpAny_bind (h i st (by omega) hi _ fun st' hi' => ?_)
    exact list_for h k m (i + 1) st' (by omega) hi'
theorem range_for {σ : Type} {M : Model} {A : Around} {E : Value → Shared → Prop} {s : Shared} {f : Nat → σ → Sem (ForInStep σ)} {n : Nat} (Inv : Nat → σ → Prop) {Q : σ → Shared → Prop} {st : σ}
    (h : ∀ i st, i < n → Inv i st → ∀ Q : ForInStep σ → Shared → Prop, (∀ st', Inv (i + 1) st' → Q (.yield st') s) → wpAny M A (f i st) Q E s) (h0 : Inv 0 st) (k : ∀ st, Inv n st → Q st s) :
    wpAny M A (forIn [:n] st f) Q E s := by
  rw [Std.Legacy.Range.forIn_eq_forIn_range']
  have : ([:n] : Std.Legacy.Range).size = n := by simp [Std.Legacy.Range.size]
  show wpAny M A (forIn (List.range' 0 ([:n] : Std.Legacy.Range).size 1) st f) Q E s
  rw [this]
  exact list_for h k n 0 st (by omega) h0

theorem letGos {M : Model} {A : Around} {E : Value → Shared → Prop} {s : Shared} {Q : Unit → Shared → Prop} {keep : List Value} (k : Q () s) : ∀ vs : List Value, wpAny M A (Builtin.Bytes.joinLetGo (vs.map fun v => (v, none)) keep) Q E s
  | [] => wpAny_pure k
  | v :: vs => by
    show wpAny _ _ (letGo _ _ >>= _) _ _ s
    exact wpAny_bind (wpAny_letGo (letGos k vs))

noncomputable def bts (acc : List (List Nat × Tok)) : List (Array UInt8) := acc.map fun p => p.1.toArray.map Nat.toUInt8
theorem joined_go : ∀ (xs : List (Array UInt8)) (a : Array UInt8) (n : Nat), (xs.zipIdx n).foldl (fun out (x : Array UInt8 × Nat) => match x with | (p, i) => (if i > 0 then out ++ #[] else out) ++ p) a = a ++ (xs.map Array.toList).flatten.toArray
  | [], a, n => by simp
  | x :: xs, a, n => by
    rw [List.zipIdx_cons, List.foldl_cons, joined_go xs]
    have : (if n > 0 then a ++ #[] else a) = a := by split <;> simp
    simp only [this]
    apply Array.ext'
    simp
theorem joined_nil (acc : List (List Nat × Tok)) : Builtin.Bytes.joined #[] (bts acc) = (acc.flatMap (·.1)).toArray.map Nat.toUInt8 := by
  unfold Builtin.Bytes.joined
  rw [joined_go]
  apply Array.ext'
  simp [bts, List.flatMap_def, List.map_flatten, Function.comp_def]
theorem sum_bts : ∀ (acc : List (List Nat × Tok)) (n : Nat), (bts acc).foldl (fun a b => a + b.size) n = n + (acc.flatMap (·.1)).length
  | [], n => by simp [bts]
  | p :: acc, n => by
    have := sum_bts acc (n + (p.1.toArray.map Nat.toUInt8).size)
    show ((bts acc).foldl (fun a b => a + b.size) (n + (p.1.toArray.map Nat.toUInt8).size)) = _
    rw [this]
    simp
    omega

theorem vv_true {l : List Nat} {t : Tok} : vv true l t = .bytes (l.toArray.map Nat.toUInt8) t := rfl
theorem noHeap (acc : List (List Nat × Tok)) : (((vals true acc).map fun v => (v, (none : Option Value))).any fun x => x.1.onHeap) = false := by
  rw [List.any_eq_false]
  intro x hx
  obtain ⟨v, hv, rfl⟩ := List.mem_map.mp hx
  obtain ⟨p, hp, rfl⟩ := List.mem_map.mp hv
  simp [vv, Value.onHeap]

theorem joinB : JoinOk true := by
  intro prog w A E s L acc ep t Q hL hne hsz kk
  have hv : vv true [] t = .bytes #[] t := by simp [vv]
  rw [hv]
  show wpAny _ _ (call (.builtin "bytes.join") [.bytes #[] t, .ref L]) _ _ s
  refine wpAny_call (codeAny_call_builtin slot_bjoin.plain entry_bjoin (slot_bjoin.check _ _ _ _ _ _ _ _ (typeIs_bytes _ _ _) (args_bjoin _ _) ?_))
  have hT : s.TypeIs (.ref L) "list" := ⟨_, hL, rfl⟩
  show wpAny _ _ (Builtin.Bytes.joinItems (.ref L) >>= _) _ _ s
  unfold Builtin.Bytes.joinItems
  refine wpAny_bind (wpAny_bind (wpAny_typeOf hT (wpAny_pure ?_)))
  refine wpAny_bind (wpAny_seqItems hL rfl ?_)
  cases acc with
  | nil => exact absurd rfl hne
  | cons p acc =>
  cases acc with
  | nil =>
    show wpAny _ _ (typeOf (vv true p.1 p.2) >>= _) _ _ s
    refine wpAny_bind (wpAny_typeOf (typeIs_bytes _ _ _) ?_)
    refine wpAny_bind (wpAny_rule (wpAny_pure ?_))
    have := kk p.2 s.toks
    simp only [List.flatMap_cons, List.flatMap_nil, List.append_nil] at this
    exact this
  | cons q acc' =>
    show wpAny _ _ (forIn [:(vals true (p :: q :: acc')).toArray.size] _ _ >>= _) _ _ s
    generalize hacc : p :: q :: acc' = acc at *
    have hlen : (vals true acc).toArray.size = acc.length := by simp [vals]
    refine wpAny_bind (range_for (fun i st => st = ((bts (acc.take i)).toArray, (vals true (acc.take i)).map fun v => (v, none))) (fun i st hi hst Q' k' => ?_) (by simp [bts, vals]) (fun st hst => ?_))
    · subst hst
      refine wpAny_bind (wpAny_seqItems hL rfl ?_)
      have hi' : i < acc.length := by omega
      have hget : (vals true acc).toArray.getD i .none = vv true acc[i].1 acc[i].2 := by simp [vals, hi']
      show wpAny _ _ (if ((false || _) = true) then _ else _) _ _ s
      rw [Bool.false_or, noHeap, if_neg (by simp)]
      rw [hget, vv_true]
      refine wpAny_bind (wpAny_holding ?_)
      unfold Builtin.Bytes.takeBufferQuiet?
      refine wpAny_bind (wpAny_attempt (wpAny_of_eq take_eq (wpAny_pure ?_)))
      refine wpAny_bind (wpAny_seqItems hL rfl ?_)
      show wpAny _ _ (if (((vals true acc).toArray.size != (vals true acc).toArray.size) = true) then _ else _) _ _ s
      rw [if_neg (by simp)]
      refine wpAny_pure (k' _ ?_)
      have ht : acc.take (i + 1) = acc.take i ++ [acc[i]] := by rw [List.take_add_one, List.getElem?_eq_getElem hi']; rfl
      rw [ht]
      simp only [bts, vals, List.map_append, List.map_cons, List.map_nil, List.push_toArray, vv_true]
    · rw [hlen, List.take_length] at hst
      subst hst
      show wpAny _ _ (if Builtin.Bytes.tooLong ((bts acc).toArray.foldl (fun a b => a + b.size) (0 * ((bts acc).toArray.size - 1))) = true then _ else _) _ _ s
      have hsum := sum_bts acc 0
      rw [if_neg (by rw [KBy.tooLong_not (by rw [Nat.zero_mul, List.foldl_toArray' (h := by simp)]; omega)]; simp)]
      refine wpAny_bind (m := mkBytes _) (wpAny_mkBytes ?_ ?_)
      · refine wpAny_bind (wpAny_holding (wpAny_point ?_))
        refine wpAny_bind (letGos ?_ _)
        have hh := kk s.toks (s.toks + 1)
        rw [vv_true, ← joined_nil] at hh
        exact wpAny_pure hh
      · show (Builtin.Bytes.joined #[] (bts acc)).size ≤ sizeLine
        rw [joined_nil, Array.size_map, List.size_toArray, sizeLine_eq]; omega
end Mine

end

section
open PySem PySem.W PyProof.Rows
set_option maxRecDepth 100000
set_option Elab.async false
set_option linter.unusedVariables false
namespace Mine
open PySem.Sre PySem.Builtin.Re

/-- with a return just written for one read, or not -/
noncomputable def fixG : Bool → List Nat → List Nat
  | _, [] => []
  | b, c :: r => if c = 10 then (if b = true then fixG false r else 13 :: 10 :: fixG false r) else if c = 13 then 13 :: 10 :: fixG true r else c :: fixG false r
noncomputable def fixL (l : List Nat) : List Nat := fixG false l

theorem fix_nil : fixL [] = [] := rfl
theorem fix_crlf (r : List Nat) : fixL (13 :: 10 :: r) = 13 :: 10 :: fixL r := rfl
theorem fix_lf (r : List Nat) : fixL (10 :: r) = 13 :: 10 :: fixL r := rfl
theorem fix_cr {r : List Nat} (h : r.head? ≠ some 10) : fixL (13 :: r) = 13 :: 10 :: fixL r := by
  show 13 :: 10 :: fixG true r = 13 :: 10 :: fixG false r
  congr 2
  cases r with
  | nil => rfl
  | cons c r =>
    have hc : c ≠ 10 := fun e => h (by rw [e]; rfl)
    rw [fixG, fixG, if_neg hc, if_neg hc]
theorem fix_one {c : Nat} {r : List Nat} (h : isNL c = false) : fixL (c :: r) = c :: fixL r := by
  unfold isNL at h
  simp only [Bool.or_eq_false_iff, beq_eq_false_iff_ne] at h
  unfold fixL
  rw [fixG, if_neg h.1, if_neg h.2]
theorem fix_skip {v : List Nat} : ∀ {u : List Nat}, (∀ c ∈ u, isNL c = false) → fixL (u ++ v) = u ++ fixL v
  | [], _ => rfl
  | c :: u, h => by
    rw [List.cons_append, fix_one (h c List.mem_cons_self), fix_skip fun d hd => h d (List.mem_cons_of_mem _ hd)]; rfl

theorem drop_get {l : List Nat} {p : Nat} (hp : p < l.length) : l.drop p = l.toArray.getD p 0 :: l.drop (p + 1) := by
  rw [List.drop_eq_getElem_cons hp]; simp [hp]
theorem cut_succ {l : List Nat} {p a : Nat} (hp : p < l.length) (ha : p < a) : cut l p a = l.toArray.getD p 0 :: cut l (p + 1) a := by
  unfold cut; rw [drop_get hp, show a - p = (a - (p + 1)) + 1 by omega, List.take_succ_cons]
theorem cut_drop {l : List Nat} {p a : Nat} (h : p ≤ a) : l.drop p = cut l p a ++ l.drop a := by
  unfold cut
  conv => lhs; rw [← List.take_append_drop (a - p) (l.drop p)]
  rw [List.drop_drop, show p + (a - p) = a by omega]

theorem nxNL_none {l : List Nat} : ∀ (fuel p : Nat), l.length + 1 - p ≤ fuel → nxNL l.toArray l.length fuel p = none → ∀ c ∈ l.drop p, isNL c = false
  | 0, p, h, _, c, hc => by rw [List.drop_of_length_le (by omega)] at hc; cases hc
  | fuel + 1, p, h, e, c, hc => by
    unfold nxNL at e
    by_cases hp : p < l.length
    · rw [if_pos hp] at e
      by_cases hb : isNL (l.toArray.getD p 0) = true
      · rw [if_pos hb] at e; cases e
      · rw [if_neg hb] at e
        rw [drop_get hp] at hc
        rcases List.mem_cons.mp hc with rfl | hc
        · simpa using hb
        · exact nxNL_none fuel (p + 1) (by omega) e c hc
    · rw [List.drop_of_length_le (by omega)] at hc; cases hc
theorem nxNL_some {l : List Nat} : ∀ (fuel p a : Nat), nxNL l.toArray l.length fuel p = some a → ∀ c ∈ cut l p a, isNL c = false
  | 0, p, a, e, c, hc => by cases e
  | fuel + 1, p, a, e, c, hc => by
    unfold nxNL at e
    by_cases hp : p < l.length
    · rw [if_pos hp] at e
      by_cases hb : isNL (l.toArray.getD p 0) = true
      · rw [if_pos hb] at e
        cases e
        unfold cut at hc; simp at hc
      · rw [if_neg hb] at e
        have := (nxNL_lt _ _ _ e).1
        rw [cut_succ hp (by omega)] at hc
        rcases List.mem_cons.mp hc with rfl | hc
        · simpa using hb
        · exact nxNL_some fuel (p + 1) a e c hc
    · rw [if_neg hp] at e; cases e

theorem finds2 (l : List Nat) (hl : l.length ≤ 1000000) : Finds false code2 l [13, 10] (fun p => (nxNL l.toArray l.length (l.length + 1 - p) p).map fun a => (a, eolEnd l.toArray l.length a)) (fun p => fixL (l.drop p)) where
  no p hp h := by
    rw [Option.map_eq_none_iff] at h
    have := fix_skip (v := []) (nxNL_none _ p (Nat.le_refl _) h)
    rw [List.append_nil, fix_nil, List.append_nil] at this
    exact this
  so p a b hp h := by
    rw [Option.map_eq_some_iff] at h
    obtain ⟨a', h, e⟩ := h
    cases e
    obtain ⟨h1, h2, h3⟩ := nxNL_lt _ _ _ h
    have h4 := nxNL_some _ _ _ h
    have hb : eolEnd l.toArray l.length a ≤ l.length ∧ a < eolEnd l.toArray l.length a := by
      unfold eolEnd
      split
      · rename_i hx
        simp only [Bool.and_eq_true, decide_eq_true_eq] at hx
        omega
      · omega
    refine ⟨h1, hb.2, hb.1, ?_⟩
    show fixL (l.drop p) = cut l p a ++ [13, 10] ++ fixL (l.drop (eolEnd l.toArray l.length a))
    rw [cut_drop h1, fix_skip h4, List.append_assoc]
    congr 1
    rw [drop_get h2]
    unfold eolEnd
    unfold isNL at h3
    by_cases hc : l.toArray.getD a 0 = 13
    · rw [hc]
      by_cases hx : a + 1 < l.length ∧ l.toArray.getD (a + 1) 0 = 10
      · rw [if_pos (by simp only [Bool.and_eq_true, decide_eq_true_eq, beq_iff_eq]; exact ⟨trivial, hx⟩)]
        rw [drop_get hx.1, hx.2, fix_crlf]; rfl
      · rw [if_neg (by simp only [Bool.and_eq_true, decide_eq_true_eq, beq_iff_eq]; exact fun h => hx h.2)]
        rw [fix_cr]; · rfl
        intro hh
        apply hx
        by_cases hy : a + 1 < l.length
        · rw [drop_get hy] at hh
          exact ⟨hy, by simpa using hh⟩
        · rw [List.drop_of_length_le (by omega)] at hh; cases hh
    · have h10 : l.toArray.getD a 0 = 10 := by
        simp only [Bool.or_eq_true, beq_iff_eq] at h3
        rcases h3 with h3 | h3
        · exact h3
        · exact absurd h3 hc
      rw [h10, fix_lf, if_neg (by simp)]; rfl
  run p must hp := by
    obtain ⟨m', g, t⟩ := search2 (text := l.toArray) (lim := l.length) (p := p) (must := must) hp
    exact ⟨m', 20, g, by decide, t⟩

noncomputable def quoteL : Bool → List Nat → List Nat
  | _, [] => []
  | b, c :: r => if b = true ∧ c = 46 then 46 :: 46 :: quoteL false r else c :: quoteL (c == 10) r

/-- the place where no dot stands at a line's start -/
theorem quote_skip {l : List Nat} {p : Nat} (hp : p < l.length) (h : dot? l.toArray p = false) : quoteL (isLS l.toArray p) (l.drop p) = l.toArray.getD p 0 :: quoteL (isLS l.toArray (p + 1)) (l.drop (p + 1)) := by
  rw [drop_get hp, quoteL]
  unfold dot? at h
  rw [if_neg (by rintro ⟨h1, h2⟩; rw [h1, h2] at h; simp at h)]
  congr 2
theorem quote_hit {l : List Nat} {p : Nat} (hp : p < l.length) (h : dot? l.toArray p = true) : quoteL (isLS l.toArray p) (l.drop p) = [46, 46] ++ quoteL (isLS l.toArray (p + 1)) (l.drop (p + 1)) := by
  rw [drop_get hp, quoteL]
  unfold dot? at h
  simp only [Bool.and_eq_true, beq_iff_eq] at h
  rw [if_pos h]
  have : isLS l.toArray (p + 1) = false := by
    show (p + 1 == 0 || l.toArray.getD (p + 1 - 1) 0 == 10) = false
    rw [Nat.add_sub_cancel, h.2]; rfl
  rw [this]; rfl
theorem nx1_spec {l : List Nat} : ∀ (fuel p : Nat), l.length + 1 - p ≤ fuel → p ≤ l.length →
    (nx1 l.toArray l.length fuel p = none → quoteL (isLS l.toArray p) (l.drop p) = l.drop p) ∧
    (∀ a, nx1 l.toArray l.length fuel p = some a → p ≤ a ∧ a < l.length ∧ quoteL (isLS l.toArray p) (l.drop p) = cut l p a ++ [46, 46] ++ quoteL (isLS l.toArray (a + 1)) (l.drop (a + 1)))
  | 0, p, h, hp => by omega
  | fuel + 1, p, h, hp => by
    unfold nx1
    by_cases hp' : p < l.length
    · rw [if_pos hp']
      by_cases hb : dot? l.toArray p = true
      · rw [if_pos hb]
        refine ⟨fun e => (by cases e), fun a e => ?_⟩
        cases e
        exact ⟨Nat.le_refl _, hp', by rw [quote_hit hp' hb]; simp [cut]⟩
      · rw [if_neg hb]
        obtain ⟨h1, h2⟩ := nx1_spec (l := l) fuel (p + 1) (by omega) (by omega)
        have hq := quote_skip hp' (by simpa using hb)
        refine ⟨fun e => ?_, fun a e => ?_⟩
        · rw [hq, h1 e, ← drop_get hp']
        · obtain ⟨g1, g2, g3⟩ := h2 a e
          exact ⟨by omega, g2, by rw [hq, g3, cut_succ hp' (by omega)]; rfl⟩
    · rw [if_neg hp']
      refine ⟨fun _ => ?_, fun a e => (by cases e)⟩
      rw [List.drop_of_length_le (by omega)]; rfl

theorem finds1 (l : List Nat) (hl : l.length ≤ 1000000) : Finds true code1 l [46, 46] (fun p => (nx1 l.toArray l.length (l.length + 1 - p) p).map fun a => (a, a + 1)) (fun p => quoteL (isLS l.toArray p) (l.drop p)) where
  no p hp h := by
    rw [Option.map_eq_none_iff] at h
    exact (nx1_spec _ p (Nat.le_refl _) hp).1 h
  so p a b hp h := by
    rw [Option.map_eq_some_iff] at h
    obtain ⟨a', h, e⟩ := h
    cases e
    obtain ⟨h1, h2, h3⟩ := (nx1_spec _ p (Nat.le_refl _) hp).2 a h
    exact ⟨h1, by omega, by omega, h3⟩
  run p must hp := by
    obtain ⟨m', g, t⟩ := search1 (text := l.toArray) (lim := l.length) (p := p) (must := must) hp
    exact ⟨m', _, g, by omega, t⟩
end Mine

end

section
open PySem PySem.W PyProof.Rows
set_option maxRecDepth 100000
set_option Elab.async false
set_option linter.unusedVariables false
namespace Mine
open Builtin._codecs

theorem list_forB {σ : Type} {M : Model} {A : Around} {E : Value → Shared → Prop} {s : Shared} {f : Nat → σ → Sem (ForInStep σ)} {n : Nat} {Inv : Nat → σ → Prop} {Q : σ → Shared → Prop}
    (h : ∀ i st, i < n → Inv i st → ∀ Q : ForInStep σ → Shared → Prop, (∀ st', Inv (i + 1) st' → Q (.yield st') s) → (∀ st', Inv n st' → Q (.done st') s) → wpAny M A (f i st) Q E s) (k : ∀ st, Inv n st → Q st s) :
    ∀ (m i : Nat) (st : σ), i + m = n → Inv i st → wpAny M A (forIn (List.range' i m) st f) Q E s
  | 0, i, st, e, hi => by
    rw [List.range'_zero, List.forIn_nil]
    have : i = n := by omega
    subst this
    exact wpAny_pure (k st hi)
  | m + 1, i, st, e, hi => by
    rw [List.range'_succ, List.forIn_cons]
    refine wpAny_bind (h i st (by omega) hi _ (fun st' hi' => ?_) (fun st' hi' => ?_))
    · exact list_forB h k m (i + 1) st' (by omega) hi'
    · exact wpAny_pure (k st' hi')
theorem range_forB {σ : Type} {M : Model} {A : Around} {E : Value → Shared → Prop} {s : Shared} {f : Nat → σ → Sem (ForInStep σ)} {n : Nat} (Inv : Nat → σ → Prop) {Q : σ → Shared → Prop} {st : σ}
    (h : ∀ i st, i < n → Inv i st → ∀ Q : ForInStep σ → Shared → Prop, (∀ st', Inv (i + 1) st' → Q (.yield st') s) → (∀ st', Inv n st' → Q (.done st') s) → wpAny M A (f i st) Q E s) (h0 : Inv 0 st) (k : ∀ st, Inv n st → Q st s) :
    wpAny M A (forIn [:n] st f) Q E s := by
  rw [Std.Legacy.Range.forIn_eq_forIn_range']
  have : ([:n] : Std.Legacy.Range).size = n := by simp [Std.Legacy.Range.size]
  show wpAny M A (forIn (List.range' 0 ([:n] : Std.Legacy.Range).size 1) st f) Q E s
  rw [this]
  exact list_forB h k n 0 st (by omega) h0

theorem enc_fold (l : List Nat) : ∀ acc : Array UInt8, l.foldl (fun acc y => acc ++ (asciiCodec.bytesOf y).toArray) acc = acc ++ (l.map Nat.toUInt8).toArray := by
  induction l with
  | nil => intro acc; simp
  | cons c l ih =>
    intro acc
    rw [List.foldl_cons, ih]
    show (acc ++ #[c.toUInt8]) ++ _ = _
    apply Array.ext'
    simp

theorem encode_ascii {prog : Program} {w : World} {A : Around} {E : Value → Shared → Prop} {s : Shared} {Q : Array UInt8 → Shared → Prop} {id : String} {self : Value} {l : List Nat} (hl : ∀ c ∈ l, c < 128) (hsz : l.length ≤ sizeLine) (k : Q (l.toArray.map Nat.toUInt8) s) :
    wpAny (model prog w) A (encodeNarrow id asciiCodec none self ⟨l.toArray⟩) Q E s := by
  unfold encodeNarrow
  have hlen : (⟨l.toArray⟩ : Str).length = l.length := rfl
  refine wpAny_bind (range_forB (fun i st => (i = 0 ∧ st.1 = 0 ∧ st.2.1 = #[]) ∨ (st.1 = l.length ∧ st.2.1 = l.toArray.map Nat.toUInt8)) (fun i st hi hst Q' ky kd => ?_) (.inl ⟨rfl, rfl, rfl⟩) (fun st hst => ?_))
  · obtain ⟨a, out, fl⟩ := st
    rcases hst with ⟨h0, h1, h2⟩ | ⟨h1, h2⟩
    · obtain rfl : a = 0 := h1
      obtain rfl : out = #[] := h2
      show wpAny _ _ (if (#[] : Array UInt8).size > sizeLine then _ else _) _ _ s
      rw [if_neg (by simp)]
      cases l with
      | nil => rw [hlen] at hi; simp at hi
      | cons c l =>
        have hc : c < 128 := hl c List.mem_cons_self
        show wpAny _ _ (if (!(decide (c ≥ 128))) = true then _ else _) _ _ s
        rw [if_pos (by simp; omega)]
        refine wpAny_pure (ky _ (.inr ?_))
        have hr : (c :: l).toArray.extract 0 (c :: l).toArray.size = (c :: l).toArray := by simp
        have hf : ((c :: l).toArray.findIdx? asciiCodec.bad) = none := by
          rw [Array.findIdx?_eq_none_iff]
          intro x hx
          have := hl x (by simpa using hx)
          show decide (x ≥ 128) = false
          exact decide_eq_false (by omega)
        constructor
        · show 0 + (((c :: l).toArray.extract 0 (c :: l).toArray.size).findIdx? asciiCodec.bad).getD ((c :: l).toArray.extract 0 (c :: l).toArray.size).size = _
          rw [hr, hf]; simp
        · show ((((c :: l).toArray.extract 0 (c :: l).toArray.size).extract 0 ((((c :: l).toArray.extract 0 (c :: l).toArray.size).findIdx? asciiCodec.bad).getD ((c :: l).toArray.extract 0 (c :: l).toArray.size).size)).foldl (fun acc y => acc ++ (asciiCodec.bytesOf y).toArray) #[]) = _
          rw [hr, hf, Option.getD_none, hr, List.foldl_toArray' (h := by simp), enc_fold]
          simp
    · obtain rfl : a = l.length := h1
      obtain rfl : out = l.toArray.map Nat.toUInt8 := h2
      show wpAny _ _ (if (l.toArray.map Nat.toUInt8).size > sizeLine then _ else _) _ _ s
      rw [if_neg (by simp; omega)]
      have hno : (⟨l.toArray⟩ : Str).cps[l.length]? = none := by simp
      dsimp only
      rw [hno]
      exact wpAny_pure (kd _ (.inr ⟨rfl, rfl⟩))
  · refine wpAny_pure ?_
    rcases hst with ⟨h0, h1, h2⟩ | ⟨h1, h2⟩
    · rw [h2]
      have : l = [] := List.eq_nil_of_length_eq_zero (by rw [hlen] at h0; exact h0)
      subst this
      simpa using k
    · rw [h2]; exact k
end Mine

end

section
open PySem PySem.W PyProof.Rows
set_option maxRecDepth 100000
set_option Elab.async false
set_option linter.unusedVariables false
namespace Mine

/-- the heap without the objects that P names -/
noncomputable def maskH (P : Addr → Obj → Prop) (h : Heap) : Heap :=
  ⟨h.objs.mapIdx fun i o => (Classical.propDecidable (P i o)).rec (fun _ => o) (fun _ => { o with data := .freed }), h.life⟩
theorem maskH_no {P : Addr → Obj → Prop} {h : Heap} {b : Addr} (hn : ∀ o, h.get? b = some o → P b o) : (maskH P h).get? b = none := by
  unfold Heap.get? maskH
  simp only [Array.getElem?_mapIdx]
  cases e : h.objs[b]? with
  | none => rfl
  | some o =>
    simp only [Option.map_some]
    cases hd : Classical.propDecidable (P b o) with
    | isTrue hp => rfl
    | isFalse hp =>
      simp only
      obtain ⟨c, d, dt, sl⟩ := o
      cases dt with
      | freed => rfl
      | _ => exact absurd (hn _ (by unfold Heap.get?; rw [e])) hp
theorem maskH_get {P : Addr → Obj → Prop} {h : Heap} {b : Addr} {o : Obj} (e : h.get? b = some o) (hn : ¬ P b o) : (maskH P h).get? b = some o := by
  unfold Heap.get? at e ⊢
  unfold maskH
  simp only [Array.getElem?_mapIdx]
  cases e' : h.objs[b]? with
  | none => rw [e'] at e; cases e
  | some o' =>
    rw [e'] at e
    have ho : o' = o := by
      obtain ⟨c, d, dt, sl⟩ := o'
      cases dt <;> first | (cases e; done) | (cases e; rfl)
    subst ho
    simp only [Option.map_some]
    cases hd : Classical.propDecidable (P b o') with
    | isTrue hp => exact absurd hp hn
    | isFalse hp => exact e
theorem maskH_back {P : Addr → Obj → Prop} {h : Heap} {b : Addr} {o : Obj} (e : (maskH P h).get? b = some o) : h.get? b = some o ∧ ¬ P b o := by
  unfold Heap.get? maskH at e
  simp only [Array.getElem?_mapIdx] at e
  unfold Heap.get?
  cases e' : h.objs[b]? with
  | none => rw [e'] at e; cases e
  | some o' =>
    rw [e'] at e
    simp only [Option.map_some] at e
    cases hd : Classical.propDecidable (P b o') with
    | isTrue hp => rw [hd] at e; cases e
    | isFalse hp =>
      rw [hd] at e
      have ho : o' = o := by
        obtain ⟨c, d, dt, sl⟩ := o'
        cases dt <;> first | (cases e; done) | (cases e; rfl)
      subst ho
      exact ⟨e, hp⟩
noncomputable def maskS (P : Addr → Obj → Prop) (s : Shared) : Shared := { s with heap := maskH P s.heap }

theorem Kp.mask {P : Addr → Obj → Prop} {s : Shared} : Kp (maskS P s) s := ⟨fun b o e => (maskH_back e).1, ⟨[], by simp [maskS], fun _ h => nomatch h⟩, rfl⟩

section
variable {M : Model} {A : Around} {R : GenEnd} {Y : Protocol} {n : Nat} {s₀ : Shared} {c : Code} {fs : List Frame} {s : Shared} {env : Env}
  {K : Flow → Sem Fin} {H : Value → Sem Fin} {gd : Bool → Bool} {lv : List Value → List Value}

theorem seg_bindW {α β : Type} {m : Sem α} {K : α → Sem β} {K' : β → Sem Fin} {H' : Value → Sem Fin}
    (h : wpAny M (A.over c fs) m (fun a s' => Seg M A R Y n s₀ c ((K a).wrap K' H' gd lv) fs s') (fun _ _ => False) s) : Seg M A R Y n s₀ c ((m >>= K).wrap K' H' gd lv) fs s := by
  rw [Sem.bind_eq_wrap', Sem.wrap_wrap]; exact seg_wrap (wpAny_mono h (fun _ _ x => x) fun _ _ x => x.elim)

theorem seg_plain {m : Sem Flow} (h : wpAny M (A.over c fs) m (fun f s' => Seg M A R Y n s₀ c (K f) fs s') (fun _ _ => False) s) : Seg M A R Y n s₀ c (m.wrap K H gd lv) fs s :=
  seg_wrap (wpAny_mono h (fun _ _ x => x) fun _ _ x => x.elim)

theorem seg_If {test : Expr} {xs ys : List Stmt} {pos : Pos}
    (h : wpAny M (A.over c fs) (isTrue test env (eval test env)) (fun b s' => Seg M A R Y n s₀ c ((execs (if b = true then xs else ys) env).wrap K H gd lv) fs s') (fun _ _ => False) s) :
    Seg M A R Y n s₀ c ((exec (.If test xs ys pos) env).wrap K H gd lv) fs s := by
  rw [exec_If]
  refine seg_bindW (wpAny_standAt (seg_bindW (wpAny_mono h (fun b s' h' => ?_) fun _ _ x => x)))
  cases b <;> exact h'

noncomputable def loopBack (env : Env) (K : Flow → Sem Fin) (H : Value → Sem Fin) (gd : Bool → Bool) (lv : List Value → List Value) : Result → Sem Fin := fun r => ((match r with | .ok f => (.pure f : Sem Flow) | .error e => .raise e).onRaise fun (x : Value) => do
        if (← field x 1) == Value.none then unsupported "frame.own-activation:exception-without-traceback"
        setFlight x env.frame).wrap K H gd lv
theorem seg_For {target iter : Expr} {body orelse : List Stmt} {pos : Pos}
    (h : wpAny M (A.over c fs) (eval iter env) (fun x s₁ => wpAny M (A.over c fs) (pyIter x) (fun it s₂ => ∀ p, Seg M A R Y n s₀ (.forLoop target it body orelse env) (M.den (.forLoop target it body orelse env))
      (.ret (loopBack env K H gd lv) none (gd false) (lv []) c p [] :: fs) s₂) (fun _ _ => False) s₁) (fun _ _ => False) s)
    (hs : ∀ x, foldedSetIterable iter env x = pure x) :
    Seg M A R Y n s₀ c ((exec (.For target iter body orelse pos) env).wrap K H gd lv) fs s := by
  rw [exec_For]
  refine seg_bindW (wpAny_standAt (seg_bindW (wpAny_mono h (fun x s₁ h₁ => ?_) fun _ _ x => x)))
  refine seg_bindW (wpAny_of_eq (hs x) (seg_bindW (wpAny_standAt (seg_bindW (wpAny_holding (wpAny_mono h₁ (fun it s₂ h₂ => ?_) fun _ _ x => x))))))
  exact seg_call h₂
end

section
variable {prog : Program} {w : World} {A : Around} {R : GenEnd} {Y : Protocol} {n : Nat} {s₀ : Shared} {fs : List Frame} {s : Shared} {env : Env}
noncomputable def loopH (env : Env) : Value → Sem Fin := fun e => (do noteFrame e env; theTreesLotGoes e : Sem Unit).wrap (fun _ => .raise e) .raise id id
noncomputable def loopK (c : Code) : Flow → Sem Fin := fun f => match f with
            | .next | .cont => .pure (.again c)
            | .brk => .pure (.done .next)
            | .ret v => .pure (.done (.ret v))
theorem seg_forLoop {target : Expr} {it : Value} {body orelse : List Stmt}
    (h : wpAny (model prog w) (A.over (.forLoop target it body orelse env) fs) (pyNext it) (fun r s₁ => match r with
      | none => Seg (model prog w) A R Y n s₀ (.block orelse env) ((model prog w).den (.block orelse env)) fs s₁
      | some v => wpAny (model prog w) (A.over (.forLoop target it body orelse env) fs) (letOwnedTupleGo target it v) (fun _ s₂ => wpAny (model prog w) (A.over (.forLoop target it body orelse env) fs) (assign target env v)
          (fun _ s₃ => Seg (model prog w) A R Y n s₀ (.forLoop target it body orelse env) ((execs body env).wrap (loopK (.forLoop target it body orelse env)) (loopH env) id id) fs s₃) (fun _ _ => False) s₂) (fun _ _ => False) s₁) (fun _ _ => False) s) :
    Seg (model prog w) A R Y n s₀ (.forLoop target it body orelse env) ((model prog w).den (.forLoop target it body orelse env)) fs s := by
  show Seg _ A R Y n s₀ _ ((forTurn target it body orelse env).onRaise (fun x => do noteFrame x env; theTreesLotGoes x)) fs s
  rw [Sem.onRaise_eq_wrap]
  unfold forTurn
  refine seg_bindW (wpAny_standAt (seg_bindW (wpAny_onRaise (wpAny_mono h (fun r s₁ h₁ => ?_) fun _ _ x => x.elim))))
  cases r with
  | none => exact seg_again rfl h₁
  | some v =>
    refine seg_bindW (wpAny_mono h₁ (fun _ s₂ h₂ => seg_bindW (wpAny_mono h₂ (fun _ s₃ h₃ => ?_) fun _ _ x => x)) fun _ _ x => x)
    rw [Sem.bind_eq_wrap', Sem.wrap_wrap]
    rw [Sem.wrap_congr (execs body env) _ _ (K' := loopK (.forLoop target it body orelse env)) (H' := loopH env)
        (fun f => by cases f <;> rfl)
        (fun e => by first | exact Sem.bind_eq_wrap _ _ | (show (do noteFrame e env; theTreesLotGoes e : Sem Unit).bind (fun _ => .raise e) = _; rw [Sem.bind_eq_wrap]; rfl))]
    exact h₃
theorem seg_block_nil {c : Code} (h : Seg (model prog w) A R Y n s₀ (.block [] env) (leafOf (.ok .next)) fs s) : Seg (model prog w) A R Y n s₀ (.block [] env) ((model prog w).den (.block [] env)) fs s := h
end
end Mine

end

section
open PySem PySem.W PyProof.Rows
set_option maxRecDepth 100000
set_option Elab.async false
set_option linter.unusedVariables false
namespace Mine

/-- the objects that the generator's loop turns -/
noncomputable def IterO (o : Obj) : Prop := (∃ vs, o.data = .fields vs) ∧ (o.cls = .type "enumerate" ∨ o.cls = .type "str_ascii_iterator" ∨ o.cls = .type "str_iterator")
theorem IterO.fx {o : Obj} (h : IterO o) : Fx o ∧ ¬ Seqy o := let ⟨⟨_, e⟩, _⟩ := h; fields_fx e
/-- what the generator may change: its own names' place, and what it walks by, none of it there when it was made -/
noncomputable def GP (hc : Heap) (L : Addr) : Addr → Obj → Prop := fun b o => hc.get? b = none ∧ (b = L ∨ IterO o)

noncomputable def ES (E SI : Addr) (x : Str) (t : Tok) (i : Nat) (h : Heap) : Prop := (∃ old, IsEnum h E SI i old) ∧ h.IsStrIter SI (strIterType x) x t i
noncomputable def EMid (E SI : Addr) (x : Str) (t : Tok) (i : Nat) (T : Addr) (h : Heap) : Prop := (∃ y, IsEnumOut h E SI ((i : Int) + 1) y T) ∧ h.IsStrIter SI (strIterType x) x t (i + 1) ∧ T ≠ E ∧ T ≠ SI

theorem es_walks {prog : Program} {w : World} {A : Around} (hh : A.handled = none) {E SI : Addr} (hne : E ≠ SI) (x : Str) (t : Tok) :
    WalksT prog w A E [E, SI] [E, SI] x.cps.size (fun i vals => ∃ t' v, (∃ c u, x.cps[i]? = some c ∧ v = .str ⟨#[c]⟩ u) ∧ vals = #[.int i t', v]) (ES E SI x t) (EMid E SI x t) := by
  cases ha : x.cps.all (· < 128)
  · have := WalksT.enumerateD (Draws.strWide (prog := prog) (w := w) (A := A.in1) hh SI x t) E hne (by simpa using hne) (by simp)
    have e : strIterType x = "str_iterator" := by simp [strIterType, ha]
    unfold ES EMid
    rw [e]; exact this
  · have := WalksT.enumerateD (Draws.strAscii (prog := prog) (w := w) (A := A.in1) hh SI x t) E hne (by simpa using hne) (by simp)
    have e : strIterType x = "str_ascii_iterator" := by simp [strIterType, ha]
    unfold ES EMid
    rw [e]; exact this
theorem es_objs {E SI : Addr} {x : Str} {t : Tok} {i : Nat} {h : Heap} (e : ES E SI x t i h) : ∀ b ∈ [E, SI], ∃ o, h.get? b = some o ∧ IterO o := by
  intro b hb
  obtain ⟨⟨old, h1⟩, o, h2, h3, h4⟩ := e
  simp only [List.mem_cons, List.not_mem_nil, or_false] at hb
  rcases hb with rfl | rfl
  · exact ⟨_, h1, ⟨_, rfl⟩, .inl rfl⟩
  · refine ⟨o, h2, ⟨_, h4⟩, ?_⟩
    rw [h3]
    unfold strIterType
    split
    · exact .inr (.inl rfl)
    · exact .inr (.inr rfl)

section
variable {prog : Program} {w : World} {A : Around} {E : Value → Shared → Prop} {s : Shared}
/-- the next item of a generator function's object -/
theorem pyNext_gen {a : Addr} {g n : Nat} {gs : GenState} {P : Nat → Shared → Shared → Prop} {Y : Protocol} {Q : Option Value → Shared → Prop} (hh : A.handled = none)
    (hl : s.heap.NoLimit) (hroom : A.depth < recursionLimit) (hg : s.heap.IsGen a g) (hgs : s.gens[g]? = some gs)
    (hgo : gs.Goes (model prog w) A.in1 (fun n s₀ r s₁ => r = .ok (.ret .none) ∧ P n s₀ s₁) Y n (.send .none) (s.setGen g .running))
    (hY : ∀ v s₁ gs', gs'.bare = true → Y (n - 1) (s.setGen g .running) v s₁ (fun r' s'' => match n with
        | 0 => False
        | m + 1 => gs'.Goes (model prog w) A.in1 (fun n s₀ r s₁ => r = .ok (.ret .none) ∧ P n s₀ s₁) Y m r' s'') → Q (some v) (s₁.setGen g gs'))
    (hP : ∀ s₁, P n (s.setGen g .running) s₁ → ∀ h', (∀ b o, s₁.heap.get? b = some o → h'.get? b = some o) → Q none { s₁.setGen g .finished with heap := h' }) :
    wpAny (model prog w) A (pyNext (.ref a)) Q E s := by
  unfold pyNext
  refine wpAny_bind (wpAny_attempt (wpAny_callSpecial?_slot (name := Str.ofString "__next__") hg.typeIs slot_gen_next
    (wpAny_call_entry slot_gen_next hg.typeIs entry_gen_next ?_ (args_gen_next _))))
  show wpAny _ A.in1 (Builtin.Generator.genWake (.ref a) (.send .none)) _ _ s
  unfold Builtin.Generator.genWake
  refine wpAny_bind (wpAny_holding (wpAny_genNumber hg (wpAny_bind (wpAny_genState hgs ?_))))
  have woken : ∀ {st : GenState} (k : GenResult → Sem Fin), gs = st → (∀ (Q' : Fin → Shared → Prop) (E' : Value → Shared → Prop),
      (∀ x s₁, x = Except.ok (.ret .none) → P n (s.setGen g .running) s₁ → wpAny (model prog w) A.in1 (k (End.ret x).result) Q' E' (s₁.setGen g .finished)) →
      (∀ v s₁ gs', gs'.bare = true → Y (n - 1) (s.setGen g .running) v s₁ (fun r' s'' => match n with
        | 0 => False
        | m + 1 => gs'.Goes (model prog w) A.in1 (fun n s₀ r s₁ => r = .ok (.ret .none) ∧ P n s₀ s₁) Y m r' s'') → wpAny (model prog w) A.in1 (k (.yielded v)) Q' E' (s₁.setGen g gs')) →
      wpAny (model prog w) A.in1 (.resume g (.send .none) [] k) Q' E' s) := fun k _ Q' E' h1 h2 =>
    wpAny_resumeQ hgs hgo (fun x s₁ hx => h1 x s₁ hx.1 hx.2) h2
  cases gs with
  | running => exact hgo.elim
  | finished => exact hgo.elim
  | _ =>
    refine wpAny_bind (wpAny_roomToWake hl hroom ?_)
    show wpAny _ A.in1 (.resume g (.send .none) [] _) _ _ s
    refine woken _ rfl _ _ (fun x s₁ hx hp => ?_) (fun v s₁ gs' hb hv => ?_)
    · subst hx
      show wpAny _ A.in1 (newExc (.type "StopIteration") [] >>= _) _ _ _
      refine wpAny_bind ?_
      simp only [newExc, newTuple]
      refine wpAny_bind (wpAny_newObj_type ?_ (by size_fits))
      refine wpAny_bind (m := firstArgMember _ _) (wpAny_of_eq (a := Value.none) (by first | rfl | (simp only [firstArgMember]; rfl)) ?_)
      refine wpAny_newObj_type ?_ (by size_fits)
      simp only [raiseNew]
      refine wpAny_bind (wpAny_bind (wpAny_handled ?_))
      first | rw [show A.in1.handled = none from hh] | rw [hh]
      refine wpAny_throw (wpAny_bind (wpAny_isInstance (T := "StopIteration") (b := true) ⟨_, Heap.get?_push_size _ rfl, rfl⟩ isSubtype_stop ?_))
      exact wpAny_pure (hP s₁ hp _ fun b o hb => Heap.get?_push_of_some _ (Heap.get?_push_of_some _ hb))
    · exact wpAny_pure ⟨v, rfl, wpAny_pure (hY v s₁ gs' hb hv)⟩
end

/-- the frame's place of names after another state -/
theorem Fm.Ok.wake {F : Fm} {s s'' : Shared} (o : F.Ok s) {hc : Heap} (hX : F.X = []) (hmt : ∀ x, F.mt x = none) (hwc : F.wc = []) (hpin : F.pin = []) (hgp : F.gpin = []) (hsc : ∀ x d, F.ρ x = some d → scal d = true) (hce : F.env.cells = [])
    (hL : ∀ ob, s.heap.get? F.env.locals = some ob → s''.heap.get? F.env.locals = some ob) (ht : F.T.In s''.heap) (htc : F.T.In hc) (hLc : hc.get? F.env.locals = none) : ({ F with base := maskS (GP hc F.env.locals) s'' } : Fm).Ok s'' := by
  obtain ⟨σ, ⟨⟨m, g4, g5⟩, g6⟩, h2, h3, h4⟩ := o.sto
  refine ⟨o.aok, o.wf, ?_, fun x hx => ?_, Kp.mask, ?_, fun a ha => ?_, fun p hp => ?_, fun p hp => ?_, σ, ⟨⟨m, g4.at' hL, g5⟩, fun x c _ hc' => ?_⟩, fun x d e => ?_, fun x a ds e => ?_, fun x y a ds es e => ?_⟩
  · exact maskH_no fun ob e => ⟨hLc, .inl rfl⟩
  · have hx' : x ∈ F.wc := hx
    rw [hwc] at hx'; cases hx'
  · obtain ⟨mg, mb, f1, f2, f3⟩ := ht.glob
    obtain ⟨mg', mb', c1, c2, _⟩ := htc.glob
    have keepOld : ∀ b z, hc.get? b = some z → ∀ ob, s''.heap.get? b = some ob → (maskH (GP hc F.env.locals) s''.heap).get? b = some ob := fun b z hz ob e => maskH_get e fun hp => by rw [hp.1] at hz; cases hz
    obtain ⟨z1, _, _, e1, _⟩ := ns_obj c1
    obtain ⟨z2, _, _, e2, _⟩ := ns_obj c2
    obtain ⟨mc, c3, c4⟩ := htc.lim
    obtain ⟨z3, _, _, e3, _⟩ := ns_obj c3
    obtain ⟨mc', f4, f5⟩ := ht.lim
    exact ⟨⟨mg, mb, f1.at' (keepOld _ z1 e1), f2.at' (keepOld _ z2 e2), f3⟩, ⟨mc', f4.at' (keepOld _ z3 e3), f5⟩, fun p hp => keepOld _ _ (htc.objs p hp) _ (ht.objs p hp)⟩
  · have ha' : a ∈ F.X := ha
    rw [hX] at ha'; cases ha'
  · have hp' : p ∈ F.pin := hp
    rw [hpin] at hp'; cases hp'
  · have hp' : p ∈ F.gpin := hp
    rw [hgp] at hp'; cases hp'
  · have hc'' : F.env.cells.lookup x = some c := hc'
    rw [hce] at hc''; cases hc''
  · obtain ⟨v, e1, e2⟩ := h2 x d e
    exact ⟨v, e1, e2.scal (hsc x d e)⟩
  · have e' : F.mt x = some (a, ds) := e
    rw [hmt] at e'; cases e'
  · have e' : F.mt x = some (a, ds) := e
    rw [hmt] at e'; cases e'

noncomputable def escs : List Nat → Nat → Bool → List (Nat × List Nat)
  | [], p, e => if e = true then [(p - 1, [92])] else []
  | c :: r, p, e => if e = true then (p, [92, c]) :: escs r (p + 1) false else if c = 92 then escs r (p + 1) true else (p, [c]) :: escs r (p + 1) false

noncomputable def itD (it : Nat × List Nat) : Dat := .tuple [.int it.1, .str ⟨it.2.toArray⟩]
noncomputable def gY (T : TopT) (hc : Heap) (L : Addr) (its : List (Nat × List Nat)) : Protocol := fun m s₀ v s kap =>
  (∃ it, its[its.length - 1 - m]? = some it ∧ Rp [] s.heap v (itD it)) ∧ Kp (maskS (GP hc L) s₀) s ∧
    ∀ s'' : Shared, (∀ b o, GP hc L b o → s.heap.get? b = some o → s''.heap.get? b = some o) → T.In s''.heap → kap (.send .none) s''
noncomputable def gR (hc : Heap) (L : Addr) : GenEnd := fun n s₀ r s₁ => r = .ok (.ret .none) ∧ (n = 0 ∧ Kp (maskS (GP hc L) s₀) s₁)
end Mine

end

section
open PySem PySem.W PyProof.Rows
set_option maxRecDepth 100000
set_option Elab.async false
set_option linter.unusedVariables false
namespace Mine

/-! where the program's text is read off -/
noncomputable def nth : List Stmt → Nat → Stmt
  | [], _ => .Pass ⟨0, 0, 0, 0⟩
  | s :: _, 0 => s
  | _ :: r, n + 1 => nth r n
noncomputable def fbody : Stmt → List Stmt
  | .FunctionDef _ _ body _ _ _ _ _ _ _ => body
  | _ => []
noncomputable def fscope : Stmt → Scope
  | .FunctionDef _ _ _ _ _ _ sc _ _ _ => sc
  | _ => { kind := .function, names := [], isGenerator := false, isCoroutine := false, more := [] }
noncomputable def fnOf (k : Nat) : Stmt := nth PySem.Challenge.pw_rs0098_01.main.body k
noncomputable def bodyOf (k : Nat) : List Stmt := fbody (fnOf k)
noncomputable def scopeOf (k : Nat) : Scope := fscope (fnOf k)
noncomputable def forBody : Stmt → List Stmt
  | .For _ _ b _ _ => b
  | _ => []
noncomputable def forTarget : Stmt → Expr
  | .For t _ _ _ _ => t
  | _ => .Constant .none 0 ⟨0, 0, 0, 0⟩

noncomputable def gfm (prog : Program) (w : World) (T : TopT) (A : Around) (env : Env) (B : Shared) (ρ : Str → Option Dat) : Fm :=
  { prog, w, T, n := 0, A, env, base := B, X := [], ρ, mt := fun _ => none, wc := [], wm := [], pin := [], gpin := [] }
theorem gfm_set {prog : Program} {w : World} {T : TopT} {A : Around} {env : Env} {B : Shared} {ρ : Str → Option Dat} {y : Str} {d : Dat} : (gfm prog w T A env B ρ).set y d = gfm prog w T A env B (upd ρ y (some d)) := by
  unfold gfm Fm.set
  have : upd (fun _ => none : Str → Option (Addr × List Dat)) y none = fun _ => none := by
    funext z; unfold upd; split <;> rfl
  simp only [this]
theorem gfm_A {prog : Program} {w : World} {T : TopT} {A A' : Around} {env : Env} {B : Shared} {ρ : Str → Option Dat} {s : Shared} (o : (gfm prog w T A env B ρ).Ok s) (ha : AOk 0 A') : (gfm prog w T A' env B ρ).Ok s :=
  ⟨ha, o.wf, o.off, o.cof, o.kp, o.top0, o.live, o.pins, o.gpins, o.sto⟩

noncomputable abbrev sAddr : Str := Str.ofString "addr"
noncomputable abbrev sPos : Str := Str.ofString "pos"
noncomputable abbrev sEsc : Str := Str.ofString "escape"
noncomputable abbrev sCh : Str := Str.ofString "ch"

structure GH (T : TopT) (hc : Heap) (env : Env) : Prop where
  wf : WfE env
  cells : env.cells = []
  L : hc.get? env.locals = none
  Ls : env.locals = hc.objs.size
  htc : T.In hc
  kAddr : env.kindOf sAddr = some .local
  kPos : env.kindOf sPos = some .local
  kEsc : env.kindOf sEsc = some .local
  kCh : env.kindOf sCh = some .local
  kEn : env.kindOf (Str.ofString "enumerate") = some .globalImplicit
  gEn : T.G (Str.ofString "enumerate") = some (.type "enumerate")
  co : env.scope.isCoroutine = false
  int : interactive env = false

/-- an assignment, and the objects that it leaves -/
theorem ex_assignF {F : Fm} {s : Shared} (o : F.Ok s) {x : Str} {px p : Pos} {value : Expr} {d : Dat} (hv : Ev F value d) (hx : Stor F x) (hs : swapsWith value (some (.Name x px)) p.line F.env = pure false) {Q : Flow → Shared → Prop} {E : Value → Shared → Prop}
    (k : ∀ s', (F.set x d).Ok s' → (∀ b ob, s.heap.get? b = some ob → Fx ob → s'.heap.get? b = some ob) → Q .next s') : wpAny (model F.prog F.w) F.A (exec (.Assign [.Name x px] value p) F.env) Q E s :=
  wpAny_Assign_Name (hv s o _ _ fun v s₁ k₁ r₁ => store_set' (o.keep k₁) hx r₁ fun s₂ o₂ _ hf => k s₂ o₂ fun b ob e h => hf b ob (k₁.heap b ob e) h) hs

theorem Tst.name {F : Fm} {x : Str} {p : Pos} {b : Bool} (h : Ev F (.Name x p) (.bool b)) : Tst F (.Name x p) b := Tst.of_bool h fun whole => rfl
theorem CmpR.eqStr {F : Fm} {a b : Str} : CmpR F .Eq (.str a) (.str b) (a == b) := fun s o va vb ra rb Q E k => by cases ra; cases rb; exact PyProof.Rows.eq_str (k s (Kp.refl s))

section
variable {prog : Program} {w : World} {T : TopT} {hc : Heap} {env : Env} {A : Around} {x : Str} {t : Tok} {E SI : Addr}

/-- a yield of a pair -/
theorem seg_yieldIt {its : List (Nat × List Nat)} {C : Code} {fr : List Frame} {ρ : Str → Option Dat} {s₀ s : Shared} {m p₁ : Nat} {l : List Nat} {rest : List (Nat × List Nat)} {e1 e2 : Expr} {q : Nat} {tp yp pp : Pos} {K : Flow → Sem Fin} {HH : Value → Sem Fin} {rs : List Stmt}
    (H : GH T hc env) (hfs : splitAtGen fr = none) (hfg : fr.any Frame.guarded = false)
    (o : (gfm prog w T (A.in1.over C fr) env (maskS (GP hc env.locals) s₀) ρ).Ok s) (hsc : ∀ y d, ρ y = some d → scal d = true) (hES : ∀ s', Kp s s' → ES E SI x t m s'.heap) (hE : hc.get? E = none) (hSI : hc.get? SI = none)
    (hsuf : its.drop (its.length - (rest.length + 1)) = (p₁, l) :: rest) (h1 : Ev (gfm prog w T (A.in1.over C fr) env (maskS (GP hc env.locals) s₀) ρ) e1 (.int p₁)) (h2 : Ev (gfm prog w T (A.in1.over C fr) env (maskS (GP hc env.locals) s₀) ρ) e2 (.str ⟨l.toArray⟩))
    (hn1 : notStar e1 = true) (hn2 : notStar e2 = true)
    (next : ∀ s'', (gfm prog w T (A.in1.over C fr) env (maskS (GP hc env.locals) s'') ρ).Ok s'' → ES E SI x t m s''.heap → Seg (model prog w) A.in1 (gR hc env.locals) (gY T hc env.locals its) rest.length s'' C ((execs rs env).wrap K HH id id) fr s'') :
    Seg (model prog w) A.in1 (gR hc env.locals) (gY T hc env.locals its) (rest.length + 1) s₀ C ((execs (.Expr (.Yield (some (.Tuple [e1, e2] q tp)) yp) pp :: rs) env).wrap K HH id id) fr s := by
  refine seg_execs_cons (seg_Expr_Yield hfs rfl hfg ?_ H.co H.int)
  refine Ev.tuple (EvL.cons h1 (EvL.cons h2 EvL.nil hn2) hn1) (by simp [sizeLine]) s o _ _ fun v s₁ k₁ r₁ => ?_
  intro kap hkap
  have hlen : its.length - (rest.length + 1) < its.length ∨ its = [] := by
    cases its with
    | nil => exact .inr rfl
    | cons a b => exact .inl (by simp; omega)
  refine ⟨⟨(p₁, l), ?_, r₁⟩, (o.keep k₁).kp, fun s'' hk ht => ?_⟩
  · have : its.length - 1 - rest.length = its.length - (rest.length + 1) := by omega
    rw [this]
    have h0 := congrArg (fun z => z[0]?) hsuf
    simpa using h0
  · refine hkap .none s'' (next s'' ?_ ?_)
    · exact Fm.Ok.wake (o.keep k₁) rfl (fun _ => rfl) rfl rfl rfl hsc H.cells (fun ob e => hk _ ob ⟨H.L, .inl rfl⟩ e) ht H.htc H.L
    · have es := hES s₁ k₁
      obtain ⟨⟨old, h3⟩, ob, h4, h5⟩ := id es
      obtain ⟨oE, e1, i1⟩ := es_objs es E (by simp)
      obtain ⟨oS, e2, i2⟩ := es_objs es SI (by simp)
      rw [h3] at e1; cases e1
      rw [h4] at e2; cases e2
      exact ⟨⟨old, hk _ _ ⟨hE, .inr i1⟩ h3⟩, ob, hk _ _ ⟨hSI, .inr i2⟩ h4, h5⟩
end
end Mine

end

section
open PySem PySem.W PyProof.Rows
set_option maxRecDepth 100000
set_option Elab.async false
set_option linter.unusedVariables false
namespace Mine

noncomputable def gFor : Stmt := nth (bodyOf 9) 2

section
variable {prog : Program} {w : World} {T : TopT} {hc : Heap} {env : Env} {A A' : Around} {x : Str} {t : Tok} {E SI : Addr}

theorem gen_base {ρ : Str → Option Dat} {s₀ s : Shared} {p : Nat} (H : GH T hc env) (o : (gfm prog w T A' env (maskS (GP hc env.locals) s₀) ρ).Ok s) (es : ES E SI x t p s.heap) (hE : hc.get? E = none) (hSI : hc.get? SI = none) :
    ∀ b ∈ [E, SI], (maskS (GP hc env.locals) s₀).heap.get? b = none := by
  intro b hb
  cases e : (maskS (GP hc env.locals) s₀).heap.get? b with
  | none => rfl
  | some ob =>
    obtain ⟨e1, e2⟩ := maskH_back e
    have e3 := o.kp.heap b ob e
    obtain ⟨ob', e4, i⟩ := es_objs es b hb
    rw [e3] at e4; cases e4
    exact absurd ⟨by simp only [List.mem_cons, List.not_mem_nil, or_false] at hb; rcases hb with rfl | rfl <;> assumption, .inr i⟩ e2

theorem gen_turned {ρ : Str → Option Dat} {s₀ s : Shared} {p : Nat} (H : GH T hc env) (o : (gfm prog w T A' env (maskS (GP hc env.locals) s₀) ρ).Ok s) (es : ES E SI x t p s.heap) (hE : hc.get? E = none) (hSI : hc.get? SI = none) {h' : Heap} {tk : Nat}
    (hk : ∀ b o, b ∉ [E, SI] → s.heap.get? b = some o → h'.get? b = some o) : (gfm prog w T A' env (maskS (GP hc env.locals) s₀) ρ).Ok { s with heap := h', toks := tk } :=
  o.turnedS (wr := [E, SI]) (fun b hb => let ⟨ob, e, i⟩ := es_objs es b hb; ⟨ob, e, i.fx.1, .inl i.fx.2⟩) (gen_base H o es hE hSI) (fun p hp => nomatch hp) (fun y a ds hy => nomatch hy) hk (fun b hb hX => nomatch hX)

theorem ES.keep {i : Nat} {h h' : Heap} (es : ES E SI x t i h) (hk : ∀ b o, Fx o → h.get? b = some o → h'.get? b = some o) : ES E SI x t i h' := by
  obtain ⟨o1, e1, i1⟩ := es_objs es E (by simp)
  obtain ⟨o2, e2, i2⟩ := es_objs es SI (by simp)
  obtain ⟨⟨old, h3⟩, ob, h4, h5⟩ := es
  rw [h3] at e1; cases e1
  rw [h4] at e2; cases e2
  exact ⟨⟨old, hk _ _ i1.fx.1 h3⟩, _, hk _ _ i2.fx.1 h4, h5⟩

theorem scal_upd {ρ : Str → Option Dat} {z : Str} {d : Dat} (h : ∀ y d, ρ y = some d → scal d = true) (hd : scal d = true) : ∀ y e, upd ρ z (some d) y = some e → scal e = true := by
  intro y e he
  unfold upd at he
  split at he
  · cases he; exact hd
  · exact h y e he

theorem seg_loop (H : GH T hc env) (hh : A.handled = none) {its : List (Nat × List Nat)} {fr : Frame} (hfs : splitAtGen [fr] = none) (hfg : [fr].any Frame.guarded = false)
    (hao : AOk 0 (A.in1.over (.forLoop (forTarget gFor) (.ref E) (forBody gFor) [] env) [fr])) (hne : E ≠ SI) (hE : hc.get? E = none) (hSI : hc.get? SI = none)
    (fin : ∀ s₀ s e ρ, (gfm prog w T (A.in1.over (.forLoop (forTarget gFor) (.ref E) (forBody gFor) [] env) [fr]) env (maskS (GP hc env.locals) s₀) ρ).Ok s → (∀ y d, ρ y = some d → scal d = true) → ρ sEsc = some (.bool e) → ρ sPos = some (.int ((x.cps.size - 1 : Nat) : Int)) →
      its.drop (its.length - (escs [] x.cps.size e).length) = escs [] x.cps.size e →
      Seg (model prog w) A.in1 (gR hc env.locals) (gY T hc env.locals its) (escs [] x.cps.size e).length s₀ (.block [] env) (leafOf (.ok .next)) [fr] s) :
    ∀ (r : List Nat) (p : Nat) (e : Bool) (s₀ s : Shared) (ρ : Str → Option Dat), x.cps.toList.drop p = r → p ≤ x.cps.size → its.drop (its.length - (escs r p e).length) = escs r p e →
      (gfm prog w T (A.in1.over (.forLoop (forTarget gFor) (.ref E) (forBody gFor) [] env) [fr]) env (maskS (GP hc env.locals) s₀) ρ).Ok s → (∀ y d, ρ y = some d → scal d = true) → ρ sEsc = some (.bool e) → ρ sPos = some (.int ((p - 1 : Nat) : Int)) →
      ES E SI x t p s.heap →
      Seg (model prog w) A.in1 (gR hc env.locals) (gY T hc env.locals its) (escs r p e).length s₀ (.forLoop (forTarget gFor) (.ref E) (forBody gFor) [] env) ((model prog w).den (.forLoop (forTarget gFor) (.ref E) (forBody gFor) [] env)) [fr] s := by
  have hh' : (A.in1.over (.forLoop (forTarget gFor) (.ref E) (forBody gFor) [] env) [fr]).handled = none := hao.handled
  intro r
  induction r with
  | nil =>
    intro p e s₀ s ρ hr hp hsuf o hsc he hpos es
    have hps : p = x.cps.size := by
      have := congrArg List.length hr
      simp at this; omega
    subst hps
    have W := es_walks (prog := prog) (w := w) hh' hne x t
    refine seg_forLoop (W.done s _ _ es fun h' tk hk => ?_)
    exact seg_block_nil (c := .block [] env) (fin s₀ _ e ρ (gen_turned H o es hE hSI hk) hsc he hpos hsuf)
  | cons c r ih =>
    intro p e s₀ s ρ hr hp hsuf o hsc he hpos es
    have hlt : p < x.cps.size := by
      have := congrArg List.length hr
      simp at this; omega
    have hr' : x.cps.toList.drop (p + 1) = r := by
      rw [List.drop_eq_getElem_cons (by simpa using hlt)] at hr
      exact (List.cons.inj hr).2
    have hc' : x.cps[p]? = some c := by
      rw [List.drop_eq_getElem_cons (by simpa using hlt)] at hr
      have := (List.cons.inj hr).1
      simp at this
      simp [hlt, this]
    have W := es_walks (prog := prog) (w := w) hh' hne x t
    have hB := gen_base H o es hE hSI
    refine seg_forLoop (W.item p s _ _ hlt es fun Tp vals h' tk hPt _ hT hMid hk => ?_)
    obtain ⟨t', v, ⟨c', u, hcc, rfl⟩, rfl⟩ := hPt
    rw [hc'] at hcc; cases hcc
    have hTw := W.apart p Tp h' hMid
    refine W.go _ _ _ p Tp _ _ _ hMid fun h3 st3 hk3 => ?_
    have og : (gfm prog w T (A.in1.over (.forLoop (forTarget gFor) (.ref E) (forBody gFor) [] env) [fr]) env (maskS (GP hc env.locals) s₀) ρ).Ok { s with heap := h3, toks := tk } :=
      gen_turned H o es hE hSI fun b ob hb e => hk3 b ob hb (hk b ob hb e)
    have hTup3 : h3.IsTuple Tp #[.int p t', .str ⟨#[c]⟩ u] := let ⟨ot, g1, g2⟩ := hT; ⟨ot, hk3 Tp ot hTw g1, g2⟩
    refine assign_two (d1 := .int p) (d2 := .str ⟨#[c]⟩) og hTup3 (.int _ _) (.str _ _) (.inl H.kPos) (.inl H.kCh) fun s4 o4 hfx => ?_
    rw [gfm_set, gfm_set] at o4
    have es4 : ES E SI x t (p + 1) s4.heap := ES.keep st3 fun b ob hf e => hfx b ob e hf
    generalize hρ : upd (upd ρ (Str.ofString "pos") (some (.int p))) (Str.ofString "ch") (some (.str ⟨#[c]⟩)) = ρ' at o4
    have hsc' : ∀ y d, ρ' y = some d → scal d = true := by rw [← hρ]; exact scal_upd (scal_upd hsc rfl) rfl
    have he' : ρ' sEsc = some (.bool e) := by rw [← hρ, upd_other (by decide +kernel), upd_other (by decide +kernel)]; exact he
    have hpos' : ρ' sPos = some (.int ((p + 1 - 1 : Nat) : Int)) := by rw [← hρ, upd_other (by decide +kernel), upd_self]; rfl
    have hch' : ρ' sCh = some (.str ⟨#[c]⟩) := by rw [← hρ, upd_self]
    have nEsc : ∀ {B q}, Ev (gfm prog w T (A.in1.over (.forLoop (forTarget gFor) (.ref E) (forBody gFor) [] env) [fr]) env B ρ') (.Name sEsc q) (.bool e) := Ev.name_local he' H.kEsc (by decide +kernel)
    have nPos : ∀ {B q}, Ev (gfm prog w T (A.in1.over (.forLoop (forTarget gFor) (.ref E) (forBody gFor) [] env) [fr]) env B ρ') (.Name sPos q) (.int (p : Nat)) := Ev.name_local hpos' H.kPos (by decide +kernel)
    have nCh : ∀ {B q}, Ev (gfm prog w T (A.in1.over (.forLoop (forTarget gFor) (.ref E) (forBody gFor) [] env) [fr]) env B ρ') (.Name sCh q) (.str ⟨#[c]⟩) := Ev.name_local hch' H.kCh (by decide +kernel)
    have hA : ∀ {B ρ'' s5 s6}, (gfm prog w T (A.in1.over (.forLoop (forTarget gFor) (.ref E) (forBody gFor) [] env) [fr]) env B ρ'').Ok s5 → ES E SI x t (p + 1) s5.heap → Kp s5 s6 → ES E SI x t (p + 1) s6.heap := fun _ e5 k => ES.keep e5 fun b ob _ e => k.heap b ob e
    refine seg_execs_cons (seg_If (Tst.name nEsc s4 o4 _ _ fun s5 k5 => ?_))
    have o5 := o4.keep k5
    have es5 := hA o4 es4 k5
    cases e with
    | true =>
      have hl : (escs (c :: r) p true).length = (escs r (p + 1) false).length + 1 := rfl
      rw [hl] at hsuf ⊢
      refine seg_yieldIt (m := p + 1) (t := t) (E := E) (SI := SI) (x := x) (p₁ := p) (l := [92, c]) H hfs hfg o5 hsc' (fun s' k => hA o5 es5 k) hE hSI hsuf nPos ?_ rfl rfl fun s'' o'' es'' => ?_
      · exact Ev.cat (a := ⟨#[92]⟩) (b := ⟨#[c]⟩) Ev.str nCh (by simp [Str.length, sizeLine])
      · refine seg_execs_cons (seg_plain (ex_assignF o'' Ev.bool (.inl H.kEsc) ?_ fun s7 o7 hfx7 => ?_))
        · with_unfolding_all rfl
        · rw [gfm_set] at o7
          refine seg_again rfl ?_
          have hsuf' : its.drop (its.length - (escs r (p + 1) false).length) = escs r (p + 1) false := by
            have h0 := congrArg (List.drop 1) hsuf
            rw [List.drop_drop] at h0
            have hle : (escs r (p + 1) false).length + 1 ≤ its.length := by
              have := congrArg List.length hsuf
              rw [List.length_drop] at this
              have h2 : (escs (c :: r) p true).length = (escs r (p + 1) false).length + 1 := rfl
              omega
            have : its.length - ((escs r (p + 1) false).length + 1) + 1 = its.length - (escs r (p + 1) false).length := by omega
            rw [this] at h0
            exact h0
          exact ih (p + 1) false s'' s7 _ hr' hlt hsuf' o7 (scal_upd hsc' rfl) upd_self (by rw [upd_other (by decide +kernel)]; exact hpos') (ES.keep es'' fun b ob hf e => hfx7 b ob e hf)
    | false =>
      refine seg_execs_cons (seg_If (Tst.cmp nCh Ev.str CmpR.eqStr (by with_unfolding_all rfl) s5 o5 _ _ fun s6 k6 => ?_))
      have o6 := o5.keep k6
      have es6 := hA o5 es5 k6
      by_cases h92 : c = 92
      · subst h92
        have hb : ((⟨#[92]⟩ : Str) == (⟨#[92]⟩ : Str)) = true := by decide +kernel
        have hl : escs (92 :: r) p false = escs r (p + 1) true := rfl
        rw [hl] at hsuf ⊢
        refine seg_execs_cons (seg_plain (ex_assignF o6 Ev.bool (.inl H.kEsc) ?_ fun s7 o7 hfx7 => ?_))
        · with_unfolding_all rfl
        · rw [gfm_set] at o7
          refine seg_again rfl ?_
          exact ih (p + 1) true s₀ s7 _ hr' hlt hsuf o7 (scal_upd hsc' rfl) upd_self (by rw [upd_other (by decide +kernel)]; exact hpos') (ES.keep es6 fun b ob hf e => hfx7 b ob e hf)
      · have hb : ((⟨#[c]⟩ : Str) == (⟨#[92]⟩ : Str)) = false := by
          rw [beq_eq_false_iff_ne]
          intro h
          injection h with h
          injection h with h
          injection h with h
          exact h92 h
        have e0 : (Str.ofString "\\") = ⟨#[92]⟩ := by decide +kernel
        rw [e0, hb]
        have hl : (escs (c :: r) p false) = (p, [c]) :: escs r (p + 1) false := by
          show (if false = true then _ else if c = 92 then _ else _) = _
          rw [if_neg (by decide), if_neg h92]
        rw [hl] at hsuf ⊢
        refine seg_yieldIt (m := p + 1) (t := t) (E := E) (SI := SI) (x := x) (p₁ := p) (l := [c]) H hfs hfg o6 hsc' (fun s' k => hA o6 es6 k) hE hSI hsuf nPos nCh rfl rfl fun s'' o'' es'' => ?_
        refine seg_execs_nil (seg_again rfl ?_)
        have hsuf' : its.drop (its.length - (escs r (p + 1) false).length) = escs r (p + 1) false := by
          have h0 := congrArg (List.drop 1) hsuf
          rw [List.drop_drop] at h0
          have hle : (escs r (p + 1) false).length + 1 ≤ its.length := by
            have := congrArg List.length hsuf
            rw [List.length_drop, List.length_cons] at this
            omega
          have : its.length - ((p, [c]) :: escs r (p + 1) false).length + 1 = its.length - (escs r (p + 1) false).length := by rw [List.length_cons]; omega
          rw [this] at h0
          exact h0
        exact ih (p + 1) false s'' s'' _ hr' hlt hsuf' o'' hsc' he' hpos' es''
end
end Mine

end

section
open PySem PySem.W PyProof.Rows
set_option maxRecDepth 100000
set_option Elab.async false
set_option linter.unusedVariables false
namespace Mine

theorem get_none_of_le {h : Heap} {b : Addr} (hb : h.objs.size ≤ b) : h.get? b = none := by
  cases e : h.get? b with
  | none => rfl
  | some o => exact absurd (Heap.lt_size e) (Nat.not_lt.mpr hb)

section
variable {prog : Program} {w : World} {T : TopT} {hc : Heap} {env : Env} {A A' : Around} {x : Str} {t : Tok}

theorem over_func (ha : AOk 1 A) {body : List Stmt} : AOk 0 (A.in1.over (.func body env) []) := by
  obtain ⟨h1, h2, h3⟩ := ha
  refine ⟨h1, ?_, ?_⟩
  · show A.depth + 0 + 1 + 0 < 900; omega
  · show A.units + 1 + 0 + 3 + 10 * 0 + 200 < 9900; omega
theorem over_for (ha : AOk 1 A) {body b : List Stmt} {tg : Expr} {it : Value} {k : Result → Sem PySem.Fin} {p : Pos} : AOk 0 (A.in1.over (.forLoop tg it b [] env) [.ret k none false [] (.func body env) p []]) := by
  obtain ⟨h1, h2, h3⟩ := ha
  refine ⟨h1, ?_, ?_⟩
  · show A.depth + (1 + 0) + 0 + 0 < 900; omega
  · show A.units + 1 + (3 + 0) + 0 + 10 * 0 + 200 < 9900; omega

theorem seg_gen (H : GH T hc env) (ha : AOk 1 A) {ρ : Str → Option Dat} {s : Shared} (o : (gfm prog w T (A.in1.over (.func (bodyOf 9) env) []) env (maskS (GP hc env.locals) s) ρ).Ok s) (hx : ρ sAddr = some (.str x)) (hsc : ∀ y d, ρ y = some d → scal d = true) :
    Seg (model prog w) A.in1 (gR hc env.locals) (gY T hc env.locals (escs x.cps.toList 0 false)) (escs x.cps.toList 0 false).length s (.func (bodyOf 9) env) ((model prog w).den (.func (bodyOf 9) env)) [] s := by
  refine seg_func ?_
  refine seg_execs_cons (seg_plain (ex_assignF o Ev.int (.inl H.kPos) ?_ fun s1 o1 _ => ?_))
  · with_unfolding_all rfl
  rw [gfm_set] at o1
  refine seg_execs_cons (seg_plain (ex_assignF o1 Ev.bool (.inl H.kEsc) ?_ fun s2 o2 _ => ?_))
  · with_unfolding_all rfl
  rw [gfm_set] at o2
  generalize hρ : upd (upd ρ (Str.ofString "pos") (some (.int 0))) (Str.ofString "escape") (some (.bool false)) = ρ2 at o2
  have hsc2 : ∀ y d, ρ2 y = some d → scal d = true := by rw [← hρ]; exact scal_upd (scal_upd hsc rfl) rfl
  have he2 : ρ2 sEsc = some (.bool false) := by rw [← hρ, upd_self]
  have hp2 : ρ2 sPos = some (.int ((0 - 1 : Nat) : Int)) := by rw [← hρ, upd_other (by decide +kernel), upd_self]; rfl
  have ha2 : ρ2 sAddr = some (.str x) := by rw [← hρ, upd_other (by decide +kernel), upd_other (by decide +kernel)]; exact hx
  refine seg_execs_cons (seg_For ?_ fun _ => rfl)
  have nAddr : ∀ {B q}, Ev (gfm prog w T (A.in1.over (.func (bodyOf 9) env) []) env B ρ2) (.Name sAddr q) (.str x) := Ev.name_local ha2 H.kAddr (by decide +kernel)
  refine wpAny_Call_NameR (name_glob H.gEn H.kEn (by decide +kernel) o2 ?_)
  refine callWith_type1 (EvL.cons nAddr EvL.nil rfl s2 o2 _ _ fun vs s3 k3 r3 => ?_) (starEach_cons rfl _ _) rfl
  cases r3 with
  | cons r3 r' =>
    cases r'; cases r3
    rename_i t3
    refine call_enumerate_str fun h' he hit hsz hk => ?_
    refine wpAny_pyIter_enum he fun p => ?_
    have k4 : Kp s3 { s3 with heap := h' } := ⟨hk, ⟨[], by simp, fun _ h => nomatch h⟩, rfl⟩
    have o4 := (o2.keep k3).keep k4
    have hL : env.locals < s3.heap.objs.size := by
      obtain ⟨σ, ⟨⟨m, g4, _⟩, _⟩, _⟩ := (o2.keep k3).sto
      obtain ⟨_, _, _, e, _⟩ := ns_obj g4
      exact Heap.lt_size e
    have hLs : hc.objs.size < s3.heap.objs.size := by have h := hL; rw [H.Ls] at h; exact h
    have hE : hc.get? (s3.heap.objs.size + 1) = none := get_none_of_le (by omega)
    have hSI : hc.get? s3.heap.objs.size = none := get_none_of_le (by omega)
    generalize s3.heap.objs.size = SI at *
    refine seg_loop (x := x) (t := t3) H ha.handled rfl rfl (over_for ha) (Nat.succ_ne_self _) hE hSI ?_ x.cps.toList 0 false s _ ρ2 rfl (Nat.zero_le _) (by simp) (gfm_A o4 (over_for ha)) hsc2 he2 hp2 ⟨⟨_, he⟩, hit⟩
    intro s₀ s5 e ρ5 o5 hsc5 he5 hp5 hsuf
    refine seg_leaf (.ok .next) ?_
    have o6 := gfm_A (A' := A.in1.over (.func (bodyOf 9) env) []) o5 (over_func ha)
    have nEsc : ∀ {B q}, Ev (gfm prog w T (A.in1.over (.func (bodyOf 9) env) []) env B ρ5) (.Name sEsc q) (.bool e) := Ev.name_local he5 H.kEsc (by decide +kernel)
    have nPos : ∀ {B q}, Ev (gfm prog w T (A.in1.over (.func (bodyOf 9) env) []) env B ρ5) (.Name sPos q) (.int ((x.cps.size - 1 : Nat) : Int)) := Ev.name_local hp5 H.kPos (by decide +kernel)
    refine seg_execs_cons (seg_If (Tst.name nEsc s5 o6 _ _ fun s6 k6 => ?_))
    have o7 := o6.keep k6
    cases e with
    | false =>
      refine seg_execs_nil (seg_execs_nil ?_)
      exact seg_end (.ok (.ret .none)) ⟨rfl, rfl, o7.kp⟩
    | true =>
      have hl : (escs [] x.cps.size true) = [(x.cps.size - 1, [92])] := rfl
      rw [hl] at hsuf ⊢
      refine seg_execs_cons (seg_Expr_Yield rfl rfl rfl ?_ H.co H.int)
      refine Ev.tuple (EvL.cons nPos (EvL.cons Ev.str EvL.nil rfl) rfl) (by simp [sizeLine]) s6 o7 _ _ fun v s7 k7 r7 => ?_
      intro kap hkap
      refine ⟨⟨(x.cps.size - 1, [92]), ?_, r7⟩, (o7.keep k7).kp, fun s'' hk ht => ?_⟩
      · have h0 := congrArg (fun z => z[0]?) hsuf
        simpa using h0
      · have o8 := Fm.Ok.wake (o7.keep k7) rfl (fun _ => rfl) rfl rfl rfl hsc5 H.cells (fun ob e => hk _ ob ⟨H.L, .inl rfl⟩ e) ht H.htc H.L
        exact hkap .none s'' (seg_execs_nil (seg_execs_nil (seg_end (.ok (.ret .none)) ⟨rfl, rfl, o8.kp⟩)))
end
end Mine

end

section
open PySem PySem.W PyProof.Rows
set_option maxRecDepth 100000
set_option Elab.async false
set_option linter.unusedVariables false
namespace Mine

noncomputable def GAt (prog : Program) (w : World) (T : TopT) (A : Around) (hc : Heap) (L : Addr) (a : Addr) (g : Nat) (its : List (Nat × List Nat)) (j : Nat) (s : Shared) : Prop :=
  s.heap.IsGen a g ∧ ∃ gs, s.gens[g]? = some gs ∧ ∀ s'' : Shared, (∀ b o, GP hc L b o → s.heap.get? b = some o → s''.heap.get? b = some o) → T.In s''.heap →
    gs.Goes (model prog w) A.in1 (gR hc L) (gY T hc L its) (its.length - j) (.send .none) s''

section
variable {prog : Program} {w : World} {T : TopT} {hc : Heap} {env : Env} {A A' : Around} {x : Str} {t : Tok}

theorem mask_T {L : Addr} {h : Heap} (ht : T.In h) (htc : T.In hc) : T.In (maskH (GP hc L) h) := by
  obtain ⟨mg, mb, f1, f2, f3⟩ := ht.glob
  obtain ⟨mg', mb', c1, c2, _⟩ := htc.glob
  have keepOld : ∀ b z, hc.get? b = some z → ∀ ob, h.get? b = some ob → (maskH (GP hc L) h).get? b = some ob := fun b z hz ob e => maskH_get e fun hp => by rw [hp.1] at hz; cases hz
  obtain ⟨z1, _, _, e1, _⟩ := ns_obj c1
  obtain ⟨z2, _, _, e2, _⟩ := ns_obj c2
  obtain ⟨mc, c3, c4⟩ := htc.lim
  obtain ⟨z3, _, _, e3, _⟩ := ns_obj c3
  obtain ⟨mc', f4, f5⟩ := ht.lim
  exact ⟨⟨mg, mb, f1.at' (keepOld _ z1 e1), f2.at' (keepOld _ z2 e2), f3⟩, ⟨mc', f4.at' (keepOld _ z3 e3), f5⟩, fun p hp => keepOld _ _ (htc.objs p hp) _ (ht.objs p hp)⟩

theorem gfm_mk (H : GH T hc env) (ha : AOk 0 A') {s : Shared} {m : Str → Option Value} (hn : s.heap.Ns env.locals m) (ht : T.In s.heap) {ρ : Str → Option Dat} (hρ : ∀ y d, ρ y = some d → ∃ v, m y = some v ∧ Rp [] s.heap v d) :
    (gfm prog w T A' env (maskS (GP hc env.locals) s) ρ).Ok s := by
  refine ⟨ha, H.wf, ?_, (fun x hx => nomatch hx), Kp.mask, mask_T ht H.htc, (fun a ha => nomatch ha), (fun p hp => nomatch hp), (fun p hp => nomatch hp), m, ⟨⟨m, hn, fun _ _ => rfl⟩, fun x c _ hc' => ?_⟩, hρ, (fun x a ds e => nomatch e), (fun x y a ds es e => nomatch e)⟩
  · exact maskH_no fun ob e => ⟨H.L, .inl rfl⟩
  · have hc'' : env.cells.lookup x = some c := hc'
    rw [H.cells] at hc''; cases hc''
end

theorem gen_call {F : Fm} {s : Shared} (o : F.Ok s) (hn : 1 ≤ F.n) {f : Addr} {fd : FuncData} (K : FnOk F.T f fd (bodyOf 9) [sAddr]) (hsc : fd.scope = scopeOf 9) (gEn : F.T.G (Str.ofString "enumerate") = some (.type "enumerate")) {x : Str} {t : Tok}
    {Q : Value → Shared → Prop} {E : Value → Shared → Prop}
    (hQ : ∀ a L g s', F.Ok s' → s'.heap.get? a ≠ none → a ≠ L → s.heap.get? a = none → s.heap.get? L = none → g = s.gens.size → GAt F.prog F.w F.T F.A s.heap L a g (escs x.cps.toList 0 false) 0 s' → Q (.ref a) s') :
    wpAny (model F.prog F.w) F.A (call (.ref f) [.str x t]) Q E s := by
  obtain ⟨ob, hK, hob⟩ := K.obj
  have ha1 : AOk 1 F.A := o.aok.less hn
  have hgen : fd.scope.isGenerator = true := by rw [hsc]; rfl
  have hco : fd.scope.isCoroutine = false := by rw [hsc]; rfl
  have hint : interactive (callEnvC fd s.heap.objs.size f) = false := by
    show interactive (newEnv fd.scope _ _ _ _ _ _ _ _) = false
    rw [hsc]; rfl
  have hlk : fd.scope.names.lookup sAddr = some .local := by rw [hsc]; decide +kernel
  have hcells : ∀ n, cellsFrom n fd.scope.names [] = [] := fun n => by rw [hsc]; rfl
  have H : GH F.T s.heap (callEnvC fd s.heap.objs.size f) := by
    refine ⟨⟨K.kind, K.gl, K.bi, fun x hx => ?_, ?_⟩, hcells _, fresh_none _, rfl, o.top, ?_, ?_, ?_, ?_, ?_, gEn, hco, hint⟩
    · rcases hx with hx | hx
      · exact cells_lookup _ _ _ _ (.inl hx)
      · exact absurd hx (K.nofree x)
    · show (cellsFrom _ fd.scope.names []).Pairwise _
      rw [hcells]; exact List.Pairwise.nil
    all_goals
      show fd.scope.names.lookup _ = _
      rw [hsc]; decide +kernel
  refine wpAny_call (codeAny_call_generator (by have := ha1.depth; show F.A.depth < 1000; omega) (o.top.objs _ hK) hob hco hgen K.body (K.code _ o.top) ?_)
  rw [K.binds [.str x t] rfl, K.clo]
  refine wpAny_pure (wpAny_newFunctionEnv_cells K.kind (fun y hy => ?_) fun env he s₂ ic => ?_)
  · have : y.1 = sAddr := by
      simp at hy; rw [hy]
    rw [this]; exact .inl hlk
  · have he' : env = callEnvC fd s.heap.objs.size f := he
    subst he'
    obtain ⟨h₁, tk, e⟩ := ic.toInCall.same
    have hk := ic.toInCall.keep
    have hns := ic.toInCall.ns
    have hm : bindL (callEnvC fd s.heap.objs.size f).kindOf (List.zip [sAddr] [Value.str x t]) (fun _ => none) sAddr = some (.str x t) := by
      rw [bindL_at K.nodup (show (callEnvC fd s.heap.objs.size f).kindOf sAddr = some .local from hlk)]
      rfl
    generalize bindL (callEnvC fd s.heap.objs.size f).kindOf (List.zip [sAddr] [Value.str x t]) (fun _ => none) = m at hns hm
    subst e
    have hLlt : (callEnvC fd s.heap.objs.size f).locals < h₁.objs.size := by
      obtain ⟨_, _, _, e, _⟩ := ns_obj hns
      exact Heap.lt_size e
    have hk1 : ∀ b o, s.heap.get? b = some o → h₁.get? b = some o := hk
    have top1 : F.T.In h₁ := o.top.keep hk1
    refine ⟨top1.lim, ?_⟩
    generalize hO : ({ cls := .type "generator", data := .fields #[.int s.gens.size 0, .str fd.name tk, .str fd.qualname (tk + 1)] } : Obj) = O
    have hf : O.isFreed = false := by rw [← hO]; rfl
    have ext : ∀ b o, h₁.get? b = some o → (h₁.push O).get? b = some o := fun b o e => Heap.get?_push_of_some _ e
    have none1 : s.heap.get? h₁.objs.size = none := by
      cases e : s.heap.get? h₁.objs.size with
      | none => rfl
      | some z => exact absurd (Heap.lt_size (hk1 _ _ e)) (Nat.lt_irrefl _)
    refine hQ h₁.objs.size (callEnvC fd s.heap.objs.size f).locals s.gens.size _ (o.keep ⟨fun b z e => ext _ _ (hk1 _ _ e), ⟨[.fresh (.func (bodyOf 9) (callEnvC fd s.heap.objs.size f))], by simp, fun z hz => by rw [List.mem_singleton.mp hz]; rfl⟩, rfl⟩)
      (by rw [Heap.get?_push_size _ hf]; simp) (fun h => Nat.lt_irrefl _ (h ▸ hLlt)) none1 (fresh_none _) rfl ⟨⟨O, _, _, Heap.get?_push_size _ hf, by rw [← hO], by rw [← hO], by rw [← hO]⟩, _, Array.getElem?_push_size .., fun s'' hs'' ht'' => ⟨rfl, ?_⟩⟩
    have hns'' : s''.heap.Ns (callEnvC fd s.heap.objs.size f).locals m := hns.at' fun z e => hs'' _ z ⟨H.L, .inl rfl⟩ (ext _ _ e)
    rw [Nat.sub_zero]
    exact seg_gen H ha1 (gfm_mk (ρ := fun y => if y = sAddr then some (.str x) else none) H (over_func ha1) hns'' ht'' fun y d hd => by
      split at hd
      · rename_i hy; cases hd; subst hy; exact ⟨_, hm, .str _ _⟩
      · cases hd) (by simp) (fun y d hd => by
      split at hd
      · cases hd; rfl
      · cases hd)
end Mine

end

section
open PySem PySem.W PyProof.Rows
set_option maxRecDepth 100000
set_option Elab.async false
set_option linter.unusedVariables false
namespace Mine

noncomputable def Fm.rb (F : Fm) (B : Shared) : Fm := { F with base := B }

/-- the places that the frame's statements turn -/
noncomputable def ownP (F : Fm) (b : Addr) (_ : Obj) : Prop := b = F.env.locals ∨ (∃ y ∈ F.wc, F.env.cells.lookup y = some b) ∨ (∃ x ∈ F.wm, ∃ ds, F.mt x = some (b, ds))

theorem Fm.Ok.own_base {F : Fm} {s : Shared} (o : F.Ok s) {b : Addr} {ob : Obj} (h : ownP F b ob) : F.base.heap.get? b = none := by
  rcases h with rfl | ⟨y, hy, hl⟩ | ⟨x, hx, ds, hm⟩
  · exact o.off
  · exact o.cof y hy b hl
  · obtain ⟨σ, _, _, h3, _⟩ := o.sto
    exact (h3 x b ds hm).2.2.1 hx

theorem Fm.Ok.rebase {F : Fm} {s : Shared} (o : F.Ok s) : (F.rb (maskS (ownP F) s)).Ok s ∧ Kp F.base (maskS (ownP F) s) := by
  have keep : ∀ b ob, F.base.heap.get? b = some ob → (maskH (ownP F) s.heap).get? b = some ob := fun b ob e => maskH_get (o.kp.heap b ob e) fun h => by rw [o.own_base h] at e; cases e
  have none_of : ∀ b ob, ownP F b ob → (maskH (ownP F) s.heap).get? b = none := fun b ob h => maskH_no fun ob' _ => by
    rcases h with h | h | h
    · exact .inl h
    · exact .inr (.inl h)
    · exact .inr (.inr h)
  obtain ⟨σ, h1, h2, h3, h4⟩ := o.sto
  refine ⟨⟨o.aok, o.wf, none_of _ default (.inl rfl), fun x hx c hc => none_of _ default (.inr (.inl ⟨x, hx, hc⟩)), Kp.mask, o.top0.keep keep, o.live, o.pins, o.gpins, σ, h1, h2, fun x a ds e => ?_, h4⟩, keep, ?_, o.kp.os⟩
  · obtain ⟨e1, e2, e3, r⟩ := h3 x a ds e
    exact ⟨e1, e2, fun hx => none_of _ default (.inr (.inr ⟨x, hx, ds, e⟩)), r⟩
  · obtain ⟨l, e, hl⟩ := o.kp.gens
    exact ⟨l, e, hl⟩
theorem Fm.Ok.unbase {G : Fm} {B s : Shared} (o : (G.rb B).Ok s) (k : Kp G.base B) (ht : G.T.In G.base.heap) : G.Ok s := by
  have none_of : ∀ b, B.heap.get? b = none → G.base.heap.get? b = none := fun b hb => by
    cases e : G.base.heap.get? b with
    | none => rfl
    | some ob => rw [k.heap _ _ e] at hb; cases hb
  obtain ⟨σ, h1, h2, h3, h4⟩ := o.sto
  refine ⟨o.aok, o.wf, none_of _ o.off, fun x hx c hc => none_of _ (o.cof x hx c hc), k.trans o.kp, ht, o.live, o.pins, o.gpins, σ, h1, h2, fun x a ds e => ?_, h4⟩
  obtain ⟨e1, e2, e3, r⟩ := h3 x a ds e
  exact ⟨e1, e2, fun hx => none_of _ (e3 hx), r⟩

/-- what stands when the generator is made -/
structure GC (F : Fm) (sc : Shared) : Prop where
  loc : ∃ o, sc.heap.get? F.env.locals = some o
  cel : ∀ y c, (F.env.kindOf y = some .cell ∨ F.env.kindOf y = some .free) → F.env.cells.lookup y = some c → ∃ o, sc.heap.get? c = some o
  wcl : ∀ y ∈ F.wc, ∀ c, F.env.cells.lookup y = some c → ∃ o, sc.heap.get? c = some o
  X : ∀ a ∈ F.X, ∃ o, sc.heap.get? a = some o
  base : Kp F.base sc
  pin : ∀ p ∈ F.pin, ∃ o, sc.heap.get? p.1 = some o
  gpin : ∀ p ∈ F.gpin, p.1 < sc.gens.size

theorem Fm.Ok.gc {F : Fm} {s : Shared} (o : F.Ok s) (hwc : ∀ y ∈ F.wc, F.env.kindOf y = some .cell) : GC F s := by
  obtain ⟨σ, ⟨⟨m, h1, _⟩, h2⟩, _⟩ := o.sto
  refine ⟨?_, fun y c hk hc => ?_, fun y hy c hc => ?_, o.live, o.kp, fun p hp => ⟨_, (o.pins p hp).1⟩, fun p hp => (Array.getElem?_eq_some_iff.mp (o.gpins p hp)).1⟩
  · obtain ⟨ob, _, _, e, _⟩ := ns_obj h1
    exact ⟨ob, e⟩
  · obtain ⟨ob, e, _⟩ := h2 y c hk hc
    exact ⟨ob, e⟩
  · obtain ⟨ob, e, _⟩ := h2 y c (.inl (hwc y hy)) hc
    exact ⟨ob, e⟩

/-- data of one piece alone -/
noncomputable def Flat1 (F : Fm) : Prop := (∀ x d, F.ρ x = some d → scal d = true) ∧ ∀ x a ds, F.mt x = some (a, ds) → ∀ d ∈ ds, scal d = true

theorem RpAll.scal {X Y : List Addr} {h h' : Heap} : ∀ {vs : List Value} {ds : List Dat}, RpAll X h vs ds → (∀ d ∈ ds, scal d = true) → RpAll Y h' vs ds
  | _, _, .nil, _ => .nil
  | _, _, .cons a r, hs => .cons (a.scal (hs _ List.mem_cons_self)) (RpAll.scal r fun d hd => hs d (List.mem_cons_of_mem _ hd))

theorem Fm.Ok.genStep {F : Fm} {s s' sc : Shared} {L : Addr} {g : Nat} {gs' : GenState} (o : F.Ok s) (C : GC F sc) (hfl : Flat1 F) (hg : g = sc.gens.size) (hb : gs'.bare = true) (hk : ∀ b ob, ¬ GP sc.heap L b ob → s.heap.get? b = some ob → s'.heap.get? b = some ob)
    (hgens : ∃ l : List GenState, s'.gens = s.gens.setIfInBounds g gs' ++ l.toArray ∧ ∀ z ∈ l, z.bare = true) (hos : s'.os = s.os) : F.Ok s' := by
  have old : ∀ b ob, (∃ z, sc.heap.get? b = some z) → s.heap.get? b = some ob → s'.heap.get? b = some ob := fun b ob ⟨z, hz⟩ e => hk b ob (fun h => by rw [h.1] at hz; cases hz) e
  obtain ⟨σ, h1, h2, h3, h4⟩ := o.sto
  obtain ⟨lc, ec, hlc⟩ := C.base.gens
  obtain ⟨ls, es, hls⟩ := o.kp.gens
  obtain ⟨l, el, hl⟩ := hgens
  refine ⟨o.aok, o.wf, o.off, o.cof, ⟨fun b ob e => old b ob ⟨ob, C.base.heap b ob e⟩ (o.kp.heap b ob e), ?_, hos.trans o.kp.os⟩, o.top0, fun a ha => ?_, fun p hp => ⟨old _ _ (C.pin p hp) (o.pins p hp).1, (o.pins p hp).2⟩, fun p hp => ?_, σ, ?_, fun x d e => ?_, fun x a ds e => ?_, h4⟩
  · refine ⟨(ls.toArray.setIfInBounds (g - F.base.gens.size) gs').toList ++ l, ?_, fun z hz => ?_⟩
    · rw [el, es]
      have hge : F.base.gens.size ≤ g := by rw [hg, ec]; simp
      rw [Array.setIfInBounds_append, if_neg (by omega), Array.append_assoc]
      simp
    · rcases List.mem_append.mp hz with hz | hz
      · simp only [List.setIfInBounds_toArray, List.mem_toArray] at hz
        rcases List.mem_or_eq_of_mem_set hz with hz | rfl
        · exact hls z hz
        · exact hb
      · exact hl z hz
  · obtain ⟨ob, e⟩ := o.live a ha
    exact ⟨ob, old a ob (C.X a ha) e⟩
  · have e := o.gpins p hp
    have hlt := C.gpin p hp
    rw [el]
    have h5 : p.1 < (s.gens.setIfInBounds g gs').size := by
      have := (Array.getElem?_eq_some_iff.mp e).1
      simpa using this
    rw [Array.getElem?_append_left h5, Array.getElem?_setIfInBounds_ne (by omega)]
    exact e
  · obtain ⟨⟨m, g4, g5⟩, g6⟩ := h1
    exact ⟨⟨m, g4.at' fun ob e => old _ ob C.loc e, g5⟩, fun y c hy hcc => let ⟨ob, e, hd⟩ := g6 y c hy hcc; ⟨ob, old c ob (C.cel y c hy hcc) e, hd⟩⟩
  · obtain ⟨v, e1, e2⟩ := h2 x d e
    exact ⟨v, e1, e2.scal (hfl.1 x d e)⟩
  · obtain ⟨e1, e2, e3, vs, n, e4, e5⟩ := h3 x a ds e
    exact ⟨e1, e2, e3, vs, n, old a _ (C.X a e2) e4, e5.scal (hfl.2 x a ds e)⟩
end Mine

end

section
open PySem PySem.W PyProof.Rows
set_option maxRecDepth 100000
set_option Elab.async false
set_option linter.unusedVariables false
namespace Mine

theorem GC.like {F G : Fm} {sc : Shared} (C : GC F sc) (L : Like F G) (hX : G.X = F.X) : GC G sc := by
  refine ⟨by rw [L.env]; exact C.loc, by rw [L.env]; exact C.cel, by rw [L.env, L.wc]; exact C.wcl, by rw [hX]; exact C.X, by rw [L.base]; exact C.base, by rw [L.pin]; exact C.pin, by rw [L.gpin]; exact C.gpin⟩

theorem letGo_gen {prog : Program} {w : World} {A : Around} {E : Value → Shared → Prop} {s : Shared} {elts : List Expr} {k : Nat} {pos : Pos} {a T : Addr} {g : Nat} {Q : Unit → Shared → Prop} (hg : s.heap.IsGen a g) (h : Q () s) :
    wpAny (model prog w) A (letOwnedTupleGo (.Tuple elts k pos) (.ref a) (.ref T)) Q E s := by
  obtain ⟨o, nm, qn, ho, hc, hd, hs⟩ := hg
  unfold letOwnedTupleGo
  refine wpAny_bind (wpAny_load ho ?_)
  rw [hc, hd]
  show wpAny _ A (if (["enumerate", "zip", "dict_itemiterator", "dict_reverseitemiterator", "odict_iterator", "itertools.zip_longest", "itertools.pairwise"].contains "generator" && _) = true then _ else _) Q E s
  rw [show (["enumerate", "zip", "dict_itemiterator", "dict_reverseitemiterator", "odict_iterator", "itertools.zip_longest", "itertools.pairwise"].contains "generator") = false from by decide +kernel, Bool.false_and]
  exact wpAny_pure h

section
variable {F : Fm} {rest : List Stmt} {Q : Flow → Shared → Prop} {s : Shared}

theorem ex_for_gen {x y gn : Str} {px py tp np p q : Pos} {tk : Nat} {e : Expr} {body : List Stmt} {txt : Str} {f : Addr} {fd : FuncData} {its : List (Nat × List Nat)} (Fam : Nat → Fm → Prop) (hlike : ∀ i G, Fam i G → Like F G ∧ G.X = F.X ∧ Flat1 G) (o : F.Ok s) (hn : 1 ≤ F.n)
    (hwc : ∀ y ∈ F.wc, F.env.kindOf y = some .cell) (K : FnOk F.T f fd (bodyOf 9) [sAddr]) (hsc : fd.scope = scopeOf 9) (gEn : F.T.G (Str.ofString "enumerate") = some (.type "enumerate"))
    (hx : F.T.G gn = some (.ref f)) (hk : F.env.kindOf gn = some .globalImplicit) (hd : (gn == ("__debug__" : Str)) = false) (he : Ev F e (.str txt)) (hst : notStar e = true) (hits : its = escs txt.cps.toList 0 false)
    (hSx : Stor F x) (hSy : Stor F y) (h0 : Fam 0 F) (hf : ∀ v, foldedSetIterable (.Call (.Name gn np) [e] [] q) F.env v = pure v)
    (turn : ∀ i it G B, its[i]? = some it → Fam i G → ∀ s, (((G.rb B).set x (.int it.1)).set y (.str ⟨it.2.toArray⟩)).Ok s → wpAny (model F.prog F.w) F.A (execs body F.env) (fun fl s' => fl = .next ∧ ∃ G', Fam (i + 1) G' ∧ (G'.rb B).Ok s') (fun _ _ => False) s)
    (done : ∀ G s, Fam its.length G → G.Ok s → wpAny (model F.prog F.w) F.A (execs rest F.env) Q (fun _ _ => False) s) :
    wpAny (model F.prog F.w) F.A (execs (.For (.Tuple [.Name x px, .Name y py] tk tp) (.Call (.Name gn np) [e] [] q) body [] p :: rest) F.env) Q (fun _ _ => False) s := by
  refine wpAny_execs_cons (wpAny_For ?_ hf)
  obtain ⟨ob, hK, hob⟩ := K.obj
  refine wpAny_Call_NameR (name_glob hx hk hd o ?_)
  refine callWith_def hob (EvL.cons he EvL.nil hst s o _ _ fun vs s₁ k₁ r₁ => ⟨(o.keep k₁).top.objs _ hK, ?_⟩) (starEach_cons hst _ _)
  have o₁ := o.keep k₁
  cases r₁ with
  | cons r₁ r' =>
    cases r'; cases r₁
    have C : GC F s₁ := o₁.gc hwc
    refine gen_call o₁ hn K hsc gEn fun a L g s₂ o₂ _ haL hna hnL hg gat => ?_
    rw [← hits] at gat
    refine wpAny_pyIter_gen gat.1 ?_
    clear o₁
    have hh : F.A.handled = none := o.aok.handled
    have hroom : F.A.depth < recursionLimit := by have := o.aok.depth; show F.A.depth < 1000; omega
    refine codeAny_forLoop_any (fun m s => ∃ i G, i ≤ its.length ∧ m = its.length - i ∧ Fam i G ∧ G.Ok s ∧ GAt F.prog F.w F.T F.A s₁.heap L a g its i s) ?_ its.length ⟨0, F, Nat.zero_le _, rfl, h0, o₂, gat⟩
    rintro m s₃ ⟨i, G, hi, rfl, hG, oG, hgen, gs, hgs, hgo⟩
    obtain ⟨LG, hXG, hflat⟩ := hlike i G hG
    have CG := C.like LG hXG
    have topG : F.T.In s₃.heap := by have := oG.top; rw [LG.T] at this; exact this
    have gaNot : ∀ ob, s₃.heap.get? a = some ob → ¬ GP s₁.heap L a ob := fun ob e h => by
      obtain ⟨oa, nm, qn, ho, hc, hd', hs'⟩ := hgen
      rw [e] at ho; cases ho
      rcases h.2 with h | ⟨_, h | h | h⟩
      · exact haL h
      all_goals (rw [hc] at h; injection h with h; exact absurd h (by decide))
    have glt : g < s₃.gens.size := (Array.getElem?_eq_some_iff.mp hgs).1
    have hgo' := hgo (s₃.setGen g .running) (fun _ _ _ e => e) topG
    -- what the generator's turn leaves
    have after : ∀ (s₄ : Shared) (gs' : GenState), gs'.bare = true → Kp (maskS (GP s₁.heap L) (s₃.setGen g .running)) s₄ → ∀ h', (∀ b o, s₄.heap.get? b = some o → h'.get? b = some o) → G.Ok { s₄.setGen g gs' with heap := h' } ∧ ({ s₄.setGen g gs' with heap := h' } : Shared).heap.IsGen a g ∧ ({ s₄.setGen g gs' with heap := h' } : Shared).gens[g]? = some gs' := by
      intro s₄ gs' hb kp h' hh'
      have keep : ∀ b ob, ¬ GP s₁.heap L b ob → s₃.heap.get? b = some ob → h'.get? b = some ob := fun b ob hnp e => hh' b ob (kp.heap b ob (maskH_get e hnp))
      obtain ⟨l, el, hl⟩ := kp.gens
      have el' : s₄.gens = s₃.gens.setIfInBounds g .running ++ l.toArray := el
      have eg : (s₄.setGen g gs').gens = s₃.gens.setIfInBounds g gs' ++ l.toArray := by
        show s₄.gens.setIfInBounds g gs' = _
        rw [el', Array.setIfInBounds_append, if_pos (by simpa using glt)]
        simp
      refine ⟨oG.genStep CG hflat hg hb keep ⟨l, eg, hl⟩ kp.os, ?_, ?_⟩
      · obtain ⟨oa, nm, qn, ho, r⟩ := hgen
        exact ⟨oa, nm, qn, keep _ _ (gaNot _ ho) ho, r⟩
      · show (s₄.setGen g gs').gens[g]? = some gs'
        rw [eg, Array.getElem?_append_left (by simpa using glt)]
        simp [glt]
    refine pyNext_gen (P := fun n s₀ s₁' => n = 0 ∧ Kp (maskS (GP s₁.heap L) s₀) s₁') hh topG.lim hroom hgen hgs hgo' (fun v s₄ gs' hb hv => ?_) (fun s₄ hp h' hk' => ?_)
    · obtain ⟨⟨it, hit, rv⟩, kp, hkap⟩ := hv
      cases hm : its.length - i with
      | zero =>
        rw [hm] at hkap
        exact (hkap s₄ (fun _ _ _ e => e) ((mask_T (hc := s₁.heap) (show F.T.In (s₃.setGen g .running).heap from topG) ((o.keep k₁).top)).keep kp.heap)).elim
      | succ m =>
        rw [hm] at hkap hit
        have hlt : i < its.length := by omega
        have hidx : its.length - 1 - (m + 1 - 1) = i := by omega
        rw [hidx] at hit
        obtain ⟨o₅, hgen₅, hgs₅⟩ := after s₄ gs' hb kp s₄.heap (fun _ _ e => e)
        have e5 : ({ s₄.setGen g gs' with heap := s₄.heap } : Shared) = s₄.setGen g gs' := rfl
        rw [e5] at o₅ hgen₅ hgs₅
        cases rv with
        | tuple et _ ra =>
          rename_i Tp vs nn
          cases ra with
          | cons r1 ra =>
            cases ra with
            | cons r2 ra =>
              cases ra
              refine letGo_gen hgen₅ ?_
              obtain ⟨o₆, kB⟩ := o₅.rebase
              have st := assign_two (G := G.rb (maskS (ownP G) (s₄.setGen g gs'))) (tk := tk) (tp := tp) (px := px) (py := py) (x := x) (y := y) (d1 := .int it.1) (d2 := .str ⟨it.2.toArray⟩)
                (Q := fun _ s₆ => wpAny (model F.prog F.w) F.A (execs body F.env) (fun f s₃ => match f with
                  | .next | .cont => ∃ m', m' < m + 1 ∧ ∃ i G, i ≤ its.length ∧ m' = its.length - i ∧ Fam i G ∧ G.Ok s₃ ∧ GAt F.prog F.w F.T F.A s₁.heap L a g its i s₃
                  | .brk => False
                  | .ret v => Q (.ret v) s₃) (fun _ _ => False) s₆) (E := fun _ _ => False) o₆ (s := s₄.setGen g gs') ⟨_, et, rfl, _, rfl⟩ (r1.scal rfl) (r2.scal rfl)
                (by unfold Stor; show G.env.kindOf x = _ ∨ (G.env.kindOf x = _ ∧ x ∈ G.wc); rw [LG.env, LG.wc]; exact hSx) (by unfold Stor; show G.env.kindOf y = _ ∨ (G.env.kindOf y = _ ∧ y ∈ G.wc); rw [LG.env, LG.wc]; exact hSy) fun s₆ o₇ _ => ?_
              · have e1 : (G.rb (maskS (ownP G) (s₄.setGen g gs'))).prog = F.prog := LG.prog
                have e2 : (G.rb (maskS (ownP G) (s₄.setGen g gs'))).w = F.w := LG.w
                have e3 : (G.rb (maskS (ownP G) (s₄.setGen g gs'))).A = F.A := LG.A
                have e4 : (G.rb (maskS (ownP G) (s₄.setGen g gs'))).env = F.env := LG.env
                rw [e1, e2, e3, e4] at st
                exact wpAny_mono st (fun _ s₆ h => wpAny_mono h (fun f s₇ h' => by cases f <;> first | exact h' | exact h'.elim) fun _ _ x => x.elim) fun _ _ x => x.elim
              · refine wpAny_mono (turn i it G _ hit hG s₆ o₇) (fun fl s₇ h => ?_) fun _ _ x => x
                obtain ⟨rfl, G', hG', o₈⟩ := h
                obtain ⟨LG', hXG', hflat'⟩ := hlike (i + 1) G' hG'
                have kB' : Kp G'.base (maskS (ownP G) (s₄.setGen g gs')) := by rw [LG'.base, ← LG.base]; exact kB
                have tB : G'.T.In G'.base.heap := by rw [LG'.base, LG'.T]; exact o.top0
                have kp8 : Kp (maskS (ownP G) (s₄.setGen g gs')) s₇ := o₈.kp
                refine ⟨its.length - (i + 1), by omega, i + 1, G', hlt, rfl, hG', o₈.unbase kB' tB, ?_⟩
                have notOwn : ∀ b ob, GP s₁.heap L b ob → ¬ ownP G b ob := fun b ob hgp ho => by
                  rcases ho with rfl | ⟨z, hz, hl⟩ | ⟨z, hz, ds, hm'⟩
                  · obtain ⟨oo, e⟩ := CG.loc
                    rw [hgp.1] at e; cases e
                  · obtain ⟨oo, e⟩ := CG.wcl z hz b hl
                    rw [hgp.1] at e; cases e
                  · obtain ⟨σ, _, _, h3, _⟩ := o₅.sto
                    obtain ⟨oo, e⟩ := CG.X b (h3 z b ds hm').2.1
                    rw [hgp.1] at e; cases e
                refine ⟨?_, gs', gens_keep kp8 hgs₅, fun s'' hs'' ht'' => ?_⟩
                · obtain ⟨oa, nm, qn, ho, r⟩ := hgen₅
                  refine ⟨oa, nm, qn, kp8.heap a oa (maskH_get ho fun hown => ?_), r⟩
                  rcases hown with h | ⟨z, hz, hl⟩ | ⟨z, hz, ds, hm'⟩
                  · obtain ⟨oo, e⟩ := CG.loc
                    rw [← h, hna] at e; cases e
                  · obtain ⟨oo, e⟩ := CG.wcl z hz a hl
                    rw [hna] at e; cases e
                  · obtain ⟨σ, _, _, h3, _⟩ := o₅.sto
                    obtain ⟨oo, e⟩ := CG.X a (h3 z a ds hm').2.1
                    rw [hna] at e; cases e
                · have hm1 : its.length - (i + 1) = m := by omega
                  rw [hm1]
                  exact hkap s'' (fun b ob hgp e => hs'' b ob hgp (kp8.heap b ob (maskH_get (show (s₄.setGen g gs').heap.get? b = some ob from e) (notOwn b ob hgp)))) ht''
    · have hin : i = its.length := by have := hp.1; omega
      subst hin
      obtain ⟨o₅, _, _⟩ := after s₄ .finished rfl hp.2 h' hk'
      exact wpAny_execs_nil (wpAny_mono (done G _ hG o₅) (fun _ _ x => x) fun _ _ x => x.elim)
end
end Mine

end

section
open PySem PySem.W PyProof.Rows
set_option maxRecDepth 100000
set_option Elab.async false
set_option linter.unusedVariables false
namespace Mine

noncomputable def FnAt (T : TopT) (k : Nat) (names : List Str) (g : Str) : Prop := ∃ f fd, T.G g = some (.ref f) ∧ FnOk T f fd (bodyOf k) names ∧ fd.scope = scopeOf k
noncomputable def CnG (prog : Program) (w : World) (T : TopT) (n : Nat) (g : Str) (ds : List Dat) (d : Dat) : Prop := ∃ f o fd, T.G g = some (.ref f) ∧ (f, o) ∈ T.K ∧ o.data = .func fd ∧ Cn prog w T n f ds d

structure Fr (F : Fm) (prog : Program) (w : World) (T : TopT) (n k : Nat) (names : List Str) (ds : List Dat) (wc wm : List Str) : Prop where
  prog : F.prog = prog
  w : F.w = w
  T : F.T = T
  n : F.n = n
  kind : ∀ x, F.env.kindOf x = (scopeOf k).names.lookup x
  scope : F.env.scope = scopeOf k
  ρ : ∀ x, F.ρ x = (names.zip ds).lookup x
  mt : ∀ x, F.mt x = none
  wc : F.wc = wc
  wm : F.wm = wm
  pin : F.pin = []
  gpin : F.gpin = []

section
variable {prog : Program} {w : World} {T : TopT} {n k : Nat} {names : List Str} {g : Str} {ds : List Dat} {d : Dat}

theorem CnG.more {m : Nat} (h : CnG prog w T n g ds d) (hm : n ≤ m) : CnG prog w T m g ds d := by
  obtain ⟨f, o, fd, h1, h2, h3, h4⟩ := h
  exact ⟨f, o, fd, h1, h2, h3, fun A X s vs ha => h4 A X s vs (ha.less hm)⟩

theorem CnG.intro (K : FnAt T k names g) (wc wm : List Str) (hlen : ds.length = names.length) (hco : (scopeOf k).isCoroutine = false) (hgen : (scopeOf k).isGenerator = false)
    (h : ∀ F, Fr F prog w T n k names ds wc wm → ∀ s, F.Ok s → wpAny (model F.prog F.w) F.A (execs (bodyOf k) F.env) (fun fl s' => ∃ v, fl = .ret v ∧ Kp F.base s' ∧ Rp F.X s'.heap v d) (fun _ _ => False) s) : CnG prog w T (n + 1) g ds d := by
  obtain ⟨f, fd, h1, h2, h3⟩ := K
  obtain ⟨o, h4, h5⟩ := h2.obj
  refine ⟨f, o, fd, h1, h4, h5, ?_⟩
  refine Cn.intro h2 (by rw [h3]; exact hco) (by rw [h3]; exact hgen) wc wm hlen fun F e1 e2 e3 e4 e5 e6 e7 e8 e9 e10 e11 e12 e13 s o => ?_
  exact h F ⟨e1, e2, e3, e4, fun x => by rw [e5 x, h3], by rw [e6, h3], e8, e9, e10, e11, e12, e13⟩ s o
end

section
variable {F : Fm}
theorem Ev.callG {x : Str} {np p : Pos} {e : Expr} {es : List Expr} {ds : List Dat} {d : Dat} (hc : CnG F.prog F.w F.T F.n x ds d) (hk : F.env.kindOf x = some .globalImplicit) (hd : (x == ("__debug__" : Str)) = false) (ha : EvL F p (e :: es) ds) (hn : notStar e = true) : Ev F (.Call (.Name x np) (e :: es) [] p) d := by
  obtain ⟨f, o, fd, h1, h2, h3, h4⟩ := hc
  exact Ev.call h1 hk hd h2 h3 ha h4 hn

section
variable {rest : List Stmt} {Q : Flow → Shared → Prop} {E : Value → Shared → Prop} {s : Shared}
noncomputable abbrev Go (F : Fm) (rest : List Stmt) (Q : Flow → Shared → Prop) (E : Value → Shared → Prop) (s : Shared) : Prop := wpAny (model F.prog F.w) F.A (execs rest F.env) Q E s
theorem xassign {x : Str} {px p : Pos} {value : Expr} {d : Dat} (o : F.Ok s) (hv : Ev F value d) (hx : Stor F x) (hs : swapsWith value (some (.Name x px)) p.line F.env = pure false)
    (k : ∀ s', (F.set x d).Ok s' → Go (F.set x d) rest Q E s') : Go F (.Assign [.Name x px] value p :: rest) Q E s := ex_assign o hv hx hs k
theorem xnil {x : Str} {px p q : Pos} (o : F.Ok s) (hx : Stor F x)
    (k : ∀ s' a, F.base.heap.get? a = none → ((F.addX a).own x a []).Ok s' → Go ((F.addX a).own x a []) rest Q E s') : Go F (.Assign [.Name x px] (.List [] q) p :: rest) Q E s := ex_nil o hx k
theorem xappend {x : Str} {np apos p q : Pos} {e : Expr} {a : Addr} {ds : List Dat} {d : Dat} (o : F.Ok s) (hx : F.mt x = some (a, ds)) (hwm : x ∈ F.wm)
    (hl : F.env.kindOf x = some .local ∨ F.env.kindOf x = some .cell ∨ F.env.kindOf x = some .free) (hd : (x == ("__debug__" : Str)) = false) (hn : (x == ("__classdict__" : Str)) = false)
    (he : Ev F e d) (hsz : ds.length < sizeLine) (hi : interactive F.env = false) (hline : (apos.endLine == p.line) = true) (hst : notStar e = true)
    (k : ∀ s', (F.app x a (ds ++ [d])).Ok s' → Go (F.app x a (ds ++ [d])) rest Q E s') :
    Go F (.Expr (.Call (.Attribute (.Name x np) (Str.ofString "append") apos) [e] [] p) q :: rest) Q E s := ex_append o hx hwm hl hd hn he hsz hi hline hst k
theorem xaugS {x : Str} {px p : Pos} {value : Expr} {a b : Str} (o : F.Ok s) (hv : F.ρ x = some (.str a)) (hl : F.env.kindOf x = some .local ∨ F.env.kindOf x = some .cell) (he : Ev F value (.str b)) (hx : Stor F x) (hsz : a.length + b.length ≤ sizeLine)
    (k : ∀ s', (F.set x (.str (a ++ b))).Ok s' → Go (F.set x (.str (a ++ b))) rest Q E s') : Go F (.AugAssign (.Name x px) .Add value p :: rest) Q E s := ex_augS o hv hl he hx hsz k
theorem xaugI {x : Str} {px p : Pos} {value : Expr} {a b : Int} (o : F.Ok s) (hv : F.ρ x = some (.int a)) (hl : F.env.kindOf x = some .local ∨ F.env.kindOf x = some .cell) (he : Ev F value (.int b)) (hx : Stor F x)
    (k : ∀ s', (F.set x (.int (a + b))).Ok s' → Go (F.set x (.int (a + b))) rest Q E s') : Go F (.AugAssign (.Name x px) .Add value p :: rest) Q E s := ex_augI o hv hl he hx k
theorem xcomp {y : Str} {py p : Pos} {elt target iter : Expr} {ifs : List Expr} {scope : Scope} {pos : Pos} {names : List Str} {dss : List (List Dat)} {keep : List Dat → Bool} {fn : List Dat → Dat} (o : F.Ok s)
    (hsw : swapsWith (.ListComp elt [⟨target, iter, ifs, 0⟩] scope pos) (some (.Name y py)) p.line F.env = pure true) (hy : Stor F y)
    (src : Src F iter target names dss) (S : ScOk F scope names) (hnd : names.Nodup) (hsz : dss.length < sizeLine) (hs : ∀ x, foldedSetIterable iter F.env x = pure x)
    (hturn : ∀ ds ∈ dss, ∀ H, CompFr F scope names ds H → TL H ifs (keep ds) ∧ (keep ds = true → Ev H elt (fn ds)))
    (k : ∀ s', (F.set y (.list ((dss.filter keep).map fn))).Ok s' → Go (F.set y (.list ((dss.filter keep).map fn))) rest Q E s') :
    Go F (.Assign [.Name y py] (.ListComp elt [⟨target, iter, ifs, 0⟩] scope pos) p :: rest) Q E s := ex_comp o hsw hy src S hnd hsz hs hturn k
theorem xtwo {x y : Str} {px py tp p : Pos} {tk : Nat} {e : Expr} {d1 d2 : Dat} (o : F.Ok s) (he : Ev F e (.tuple [d1, d2])) (hx : Stor F x) (hy : Stor F y)
    (hs : swapsWithSole [.Tuple [.Name x px, .Name y py] tk tp] e p.line F.env = pure false) (hw : swappedStores [.Tuple [.Name x px, .Name y py] tk tp] e F.env = pure none)
    (k : ∀ s', ((F.set x d1).set y d2).Ok s' → Go ((F.set x d1).set y d2) rest Q E s') :
    Go F (.Assign [.Tuple [.Name x px, .Name y py] tk tp] e p :: rest) Q E s := ex_two o he hx hy hs hw k
theorem xif {t : Expr} {b : Bool} {xs ys : List Stmt} {p : Pos} (o : F.Ok s) (ht : Tst F t b)
    (k : ∀ s', F.Ok s' → Go F (if b then xs else ys) (fun f s₂ => match f with | .next => Go F rest Q E s₂ | f => Q f s₂) E s') :
    Go F (.If t xs ys p :: rest) Q E s := ex_if o ht k
theorem xret {e : Expr} {p : Pos} {d : Dat} (o : F.Ok s) (he : Ev F e d) (k : ∀ v s', Kp s s' → F.Ok s' → Rp F.X s'.heap v d → Q (.ret v) s') : Go F (.Return (some e) p :: rest) Q E s := ex_ret o he k
end
theorem set_self {x : Str} {d : Dat} : (F.set x d).ρ x = some d := upd_self
theorem set_other {x y : Str} {d : Dat} (h : y ≠ x) : (F.set x d).ρ y = F.ρ y := upd_other h
theorem set_mt {x y : Str} {d : Dat} (h : y ≠ x) : (F.set x d).mt y = F.mt y := upd_other h

theorem end_ret {s s' : Shared} {v : Value} {d : Dat} (o : F.Ok s') (r : Rp F.X s'.heap v d) : ∃ v', Flow.ret v = .ret v' ∧ Kp F.base s' ∧ Rp F.X s'.heap v' d := ⟨v, rfl, o.kp, r⟩
end

section
variable {prog : Program} {w : World} {T : TopT}

/-- ISNONTERMINAL -/
theorem cn_isnt (K : FnAt T 63 [Str.ofString "x"] (Str.ofString "ISNONTERMINAL")) {t : Tok} (gNT : T.G (Str.ofString "NT_OFFSET") = some (.int 256 t)) (i : Int) :
    CnG prog w T 1 (Str.ofString "ISNONTERMINAL") [.int i] (.bool (decide (i ≥ 256))) :=
  CnG.intro K [] [] rfl rfl rfl fun F R s o => by
    obtain ⟨e1, e2, e3, en, kind, scope, ρ, mt, wc, wm, pin, gpin⟩ := R
    subst e1 e2 e3
    refine xret o ?_ fun v s' k o' r => ⟨v, rfl, o'.kp, r⟩
    refine Ev.cmp (Ev.name_local (d := .int i) ((ρ _).trans rfl) ((kind _).trans (by decide +kernel)) (by decide +kernel)) (Ev.glob_int gNT ((kind _).trans (by decide +kernel)) (by decide +kernel)) CmpR.ge

noncomputable def tick : Str := Str.ofString "'"
noncomputable def decD (x : Str) : Dat := if (splitM x tick 2).length ≤ 2 then .tuple [.none, .none, .str x] else .list ((splitM x tick 2).map Dat.str)
theorem cn_dec (K : FnAt T 11 [Str.ofString "s"] (Str.ofString "decode_rfc2231")) {t : Tok} (gT : T.G (Str.ofString "TICK") = some (.str tick t)) (gLen : T.G (Str.ofString "len") = some (.builtin "len")) (x : Str)
    (h1 : (decide (x.length < tick.length) || decide (Builtin.Str.strKind x < Builtin.Str.strKind tick)) = false) (hf : (Builtin.Str.occurrences x tick 0 x.length 2).isEmpty = false) (hx : x.length ≤ sizeLine) (hsz : (splitM x tick 2).length ≤ 100) :
    CnG prog w T 1 (Str.ofString "decode_rfc2231") [.str x] (decD x) :=
  CnG.intro K [] [] rfl rfl rfl fun F R s o => by
    obtain ⟨e1, e2, e3, en, kind, scope, ρ, mt, wc, wm, pin, gpin⟩ := R
    subst e1 e2 e3
    have kS : F.env.kindOf (Str.ofString "s") = some .local := (kind _).trans (by decide +kernel)
    have kP : F.env.kindOf (Str.ofString "parts") = some .local := (kind _).trans (by decide +kernel)
    have rS : F.ρ (Str.ofString "s") = some (.str x) := (ρ _).trans rfl
    refine xassign o (Ev.splitM (m := 2) rfl (Ev.name_local rS kS (by decide +kernel)) (Ev.glob_str gT ((kind _).trans (by decide +kernel)) (by decide +kernel)) Ev.int rfl (by decide +kernel) rfl rfl h1 (by decide +kernel) hf hx (Nat.le_trans hsz (by decide)) (by decide)) (.inl kP) (by with_unfolding_all rfl) fun s₁ o₁ => ?_
    refine xif o₁ (Tst.cmp (Ev.lenL gLen ((kind _).trans (by decide +kernel)) (by decide +kernel) (Ev.name_local set_self kP (by decide +kernel)) (by rw [List.length_map]; exact Nat.le_trans hsz (by decide))) Ev.int CmpR.le) fun s₂ o₂ => ?_
    have hl : (decide ((((splitM x tick 2).map Dat.str).length : Int) ≤ 2)) = decide ((splitM x tick 2).length ≤ 2) := by rw [List.length_map]; congr 1; simp; omega
    rw [hl]
    unfold decD
    by_cases h2 : (splitM x tick 2).length ≤ 2
    · rw [decide_eq_true h2, if_pos rfl, if_pos h2]
      refine xret o₂ (Ev.tuple (EvL.cons Ev.non (EvL.cons Ev.non (EvL.cons (Ev.name_local ((set_other (by decide +kernel)).trans rS) kS (by decide +kernel)) EvL.nil))) (by simp [sizeLine])) fun v s' k o' r => ⟨v, rfl, o'.kp, r⟩
    · rw [decide_eq_false h2, if_neg (by decide), if_neg h2]
      refine wpAny_execs_nil ?_
      refine xret o₂ (Ev.name_local set_self kP (by decide +kernel)) fun v s' k o' r => ⟨v, rfl, o'.kp, r⟩
end
end Mine

end

section
open PySem PySem.W PyProof.Rows
set_option maxRecDepth 100000
set_option Elab.async false
set_option linter.unusedVariables false
namespace Mine
open Builtin

noncomputable def asc : Str := Str.ofString "ascii"
noncomputable def by8 (l : List Nat) : Array UInt8 := l.toArray.map Nat.toUInt8

section
variable {prog : Program} {w : World} {A : Around} {E : Value → Shared → Prop} {s : Shared}

theorem enc_tree (x : Str) (t u : Tok) : «str.encode» ⟨[.str x t, .str asc u], []⟩ = (do ret (← (do mkBytes (← _codecs.encodeNarrow "str.encode" _codecs.asciiCodec none (.str x t) x)))) := by kernel_rfl

theorem call_encode {l : List Nat} {t u : Tok} {Q : Value → Shared → Prop} (hl : ∀ c ∈ l, c < 128) (hsz : l.length ≤ sizeLine) (h : ∀ t' tk, Q (.bytes (by8 l) t') { s with toks := tk }) :
    wpAny (model prog w) A (call (.builtin "str.encode") [.str ⟨l.toArray⟩ t, .str asc u]) Q E s := by
  refine wpAny_call (codeAny_call_builtin PySem.F.slot_str_encode.plain PySem.F.entry_str_encode (PySem.F.slot_str_encode.check _ _ _ _ _ _ _ _ (typeIs_str _ _ _) (PySem.F.args_str_encode_2 _ _) ?_))
  rw [enc_tree]
  refine wpAny_bind (wpAny_bind (encode_ascii hl hsz ?_))
  refine wpAny_mkBytes (wpAny_pure (h _ _)) (by simp; exact hsz)

theorem dec_tree {c : UInt8} {cs : List UInt8} {t u : Tok} : «bytes.decode» ⟨[.bytes (c :: cs).toArray t, .str asc u], []⟩ = (mkStr (Str.ofString "utf-8") >>= fun _ => mkStr asc >>= fun e => mkStr (Str.ofString "bytes.decode") >>= fun d =>
    call (.builtin "_codecs.decode.text") [.bytes (c :: cs).toArray t, e, .none, d] >>= fun v => ret v) := by kernel_rfl
theorem road_asc {id : String} {b : Array UInt8} : _codecs.decodeRoad id b asc none [] = (_codecs.runDecoder id _codecs.asciiDecoder none true b 0 [] >>= fun r => mkStr ⟨r.1⟩) := by kernel_rfl

theorem decode_run {id : String} {l : List Nat} {Q : Array Nat × Nat → Shared → Prop} (hl : ∀ c ∈ l, c < 128) (hsz : l.length ≤ sizeLine) (h : ∀ n, Q (l.toArray, n) s) :
    wpAny (model prog w) A (_codecs.runDecoder id _codecs.asciiDecoder none true (by8 l) 0 []) Q E s := by
  unfold _codecs.runDecoder
  have hz : (by8 l).size = l.length := by simp [by8]
  refine wpAny_bind (range_forB (fun i st => st.1 = i ∧ st.2.1 = (l.take i).toArray) (fun i st hi hst Q' ky kd => ?_) ⟨rfl, by simp⟩ (fun st hst => ?_))
  · obtain ⟨p, out, fl⟩ := st
    obtain ⟨h1, h2⟩ := hst
    obtain rfl : p = i := h1
    obtain rfl : out = (l.take p).toArray := h2
    rw [hz] at hi
    show wpAny _ _ (if (l.take p).toArray.size > sizeLine then _ else _) _ _ s
    rw [if_neg (by simp; omega)]
    show wpAny _ _ (if p ≥ (by8 l).size then _ else _) _ _ s
    rw [if_neg (by omega)]
    have hc : ((by8 l).getD p 0).toNat = l[p] := by
      have : l[p] < 128 := hl _ (List.getElem_mem hi)
      simp only [by8, Array.getD_eq_getD_getElem?, Array.getElem?_map, List.getElem?_toArray, List.getElem?_eq_getElem hi, Option.map_some, Option.getD_some]
      rw [Nat.toUInt8_eq, UInt8.toNat_ofNat']
      exact Nat.mod_eq_of_lt (by omega)
    have hf : _codecs.asciiDecoder.find true (by8 l) p = .char l[p] (p + 1) := by
      show (if ((by8 l).getD p 0).toNat < 128 then _ else _) = _
      rw [hc, if_pos (hl _ (List.getElem_mem hi))]
    rw [hf]
    refine wpAny_pure (ky _ ⟨rfl, ?_⟩)
    show (l.take p).toArray ++ [l[p]].toArray = _
    rw [List.take_add_one, List.getElem?_eq_getElem hi]
    simp
  · obtain ⟨p, out, fl⟩ := st
    obtain ⟨h1, h2⟩ := hst
    obtain rfl : out = (l.take (by8 l).size).toArray := h2
    rw [hz, List.take_length]
    exact wpAny_pure (h _)
end

section
variable {prog : Program} {w : World} {A : Around} {E : Value → Shared → Prop} {s : Shared}
theorem meets_textA {l : List Nat} {t t1 t2 : Tok} {d : Str} (hl : ∀ c ∈ l, c < 128) (hsz : l.length ≤ sizeLine) :
    Meets («_codecs.decode.text» ⟨[.bytes (by8 l) t, .str asc t1, .none, .str d t2], []⟩) (fun _ R s => ∀ t' tk, R (.ok (.ret (.str ⟨l.toArray⟩ t'))) { s with toks := tk }) := by
  refine .of_wp fun prog w A R s h => ?_
  show wpAny _ _ (Bytes.bytesLike _ (.bytes (by8 l) t) >>= fun r => _) _ _ s
  refine wpAny_bind (wpAny_of_eq KBd.like_eq ?_)
  refine wpAny_bind (wpAny_of_eq KBd.held_eq ?_)
  show wpAny _ _ (_codecs.decodeRoad _ (by8 l) asc none [] >>= fun v => _) _ _ s
  rw [road_asc]
  refine wpAny_bind (wpAny_bind (decode_run hl hsz fun n => ?_))
  exact wpAny_mkStr (wpAny_pure ⟨_, rfl, h _ _⟩) (by show l.toArray.size ≤ _; rw [List.size_toArray]; exact hsz)

theorem call_decode {l : List Nat} {t u : Tok} {Q : Value → Shared → Prop} (hne : l ≠ []) (hl : ∀ c ∈ l, c < 128) (hsz : l.length ≤ sizeLine) (h : ∀ t' tk, Q (.str ⟨l.toArray⟩ t') { s with toks := tk }) :
    wpAny (model prog w) A (call (.builtin "bytes.decode") [.bytes (by8 l) t, .str asc u]) Q E s := by
  refine wpAny_call (codeAny_call_builtin FB.slot_bytes_decode.plain FB.entry_bytes_decode (FB.slot_bytes_decode.check _ _ _ _ _ _ _ _ (typeIs_bytes _ _ _) (args_bdecode _ _) ?_))
  cases l with
  | nil => exact absurd rfl hne
  | cons a l =>
    have e : by8 (a :: l) = (Nat.toUInt8 a :: l.map Nat.toUInt8).toArray := by simp [by8]
    rw [e, dec_tree]
    refine wpAny_bind (wpAny_mkStr ?_ (by decide))
    refine wpAny_bind (wpAny_mkStr ?_ (by decide))
    refine wpAny_bind (wpAny_mkStr ?_ (by decide))
    rw [← e]
    exact wpAny_bind (call_function_meets KBd.kind_text KBd.plain_text KBd.entry_text (KBd.args_text _ _ _ _) (meets_textA hl hsz) fun t' tk => wpAny_pure (h _ _))
end

section
variable {F : Fm}
theorem bytesObj {X : List Addr} {x : Array UInt8} (s : Shared) (va : Value) (r : Rp X s.heap va (.bytes x)) : s.TypeIs va "bytes" ∧ (∀ b, va = .ref b → ∃ ob, s.heap.get? b = some ob ∧ ob.dict = none) := by
  cases r; exact ⟨typeIs_bytes _ _ _, fun b h => nomatch h⟩
theorem Ev.bytes {x : List UInt8} {k : Nat} {p : Pos} : Ev F (.Constant (.bytes x) k p) (.bytes x.toArray) := fun s _ Q E kk => Constant_bytes (kk _ _ Kp.tok (.bytes _ _))

theorem Ev.encode {n : Str} {o e : Expr} {ap p : Pos} {l : List Nat} (hn : n = Str.ofString "encode") (ho : Ev F o (.str ⟨l.toArray⟩)) (he : Ev F e (.str asc)) (hbase : attributeBase o n F.env (eval o F.env) = eval o F.env) (hline : (ap.endLine == p.line) = true) (hst : notStar e = true)
    (hl : ∀ c ∈ l, c < 128) (hsz : l.length ≤ sizeLine) : Ev F (.Call (.Attribute o n ap) [e] [] p) (.bytes (by8 l)) := by
  subst hn
  refine Ev.meth ho hbase hline PySem.F.plainAttrs_str PySem.F.slot_str_encode PySem.F.type_str_encode (by simp [hst]) (by decide) strObj (EvL.cons he EvL.nil hst) fun s ok va vs ra rs Q E k => ?_
  cases ra
  cases rs with
  | cons r r' =>
    cases r'; cases r
    exact call_encode hl hsz fun t' tk => k _ _ Kp.tok (.bytes _ _)
theorem Ev.decode {n : Str} {o e : Expr} {ap p : Pos} {l : List Nat} (hn : n = Str.ofString "decode") (ho : Ev F o (.bytes (by8 l))) (he : Ev F e (.str asc)) (hbase : attributeBase o n F.env (eval o F.env) = eval o F.env) (hline : (ap.endLine == p.line) = true) (hst : notStar e = true)
    (hne : l ≠ []) (hl : ∀ c ∈ l, c < 128) (hsz : l.length ≤ sizeLine) : Ev F (.Call (.Attribute o n ap) [e] [] p) (.str ⟨l.toArray⟩) := by
  subst hn
  refine Ev.meth ho hbase hline FB.plainAttrs_bytes FB.slot_bytes_decode FB.type_bytes_decode (by simp [hst]) (by decide) bytesObj (EvL.cons he EvL.nil hst) fun s ok va vs ra rs Q E k => ?_
  cases ra
  cases rs with
  | cons r r' =>
    cases r'; cases r
    exact call_decode hne hl hsz fun t' tk => k _ _ Kp.tok (.str _ _)

/-- a text of the pattern's kind -/
noncomputable def dv (k : Bool) (l : List Nat) : Dat := if k = true then .bytes (l.toArray.map Nat.toUInt8) else .str ⟨l.toArray⟩
theorem rp_vv {X : List Addr} {h : Heap} {v : Value} {k : Bool} {l : List Nat} (r : Rp X h v (dv k l)) : ∃ t, v = vv k l t := by
  cases k with
  | false => cases r; exact ⟨_, rfl⟩
  | true => cases r; exact ⟨_, rfl⟩
theorem vv_rp {X : List Addr} {h : Heap} {k : Bool} {l : List Nat} {t : Tok} : Rp X h (vv k l t) (dv k l) := by
  cases k with
  | false => exact .str _ _
  | true => exact .bytes _ _

theorem Ev.subP {n pn : Str} {e1 e2 : Expr} {np ap p : Pos} {P C : Addr} {k : Bool} {code : Array Nat} {l r : List Nat} {nx : Nat → Option (Nat × Nat)} {tl : Nat → List Nat} (hn : n = Str.ofString "sub") (hx : F.T.G pn = some (.ref P)) (hk : F.env.kindOf pn = some .globalImplicit) (hd : (pn == ("__debug__" : Str)) = false)
    (hP : ∀ h, F.T.In h → PatOk h P C k code) (h1 : Ev F e1 (dv k r)) (h2 : Ev F e2 (dv k l)) (hline : (ap.endLine == p.line) = true) (hs1 : notStar e1 = true) (hs2 : notStar e2 = true)
    (Fi : Finds k code l r nx tl) (hj : JoinOk k) (hl : k = true → ∀ c ∈ l, c < 256) (hlen : l.length ≤ 1000000) (hZ : (tl 0).length ≤ 1000000) (hr : r.toArray.contains 92 = false) (hr' : (r.toArray.map Nat.toUInt8).contains 92 = false) :
    Ev F (.Call (.Attribute (.Name pn np) n ap) [e1, e2] [] p) (dv k (tl 0)) := by
  subst hn
  intro s o Q E kk
  refine meth_wp rfl hline plainAttrs_pat slot_sub type_sub (by simp [hs1, hs2]) (by simp) (name_glob hx hk hd o ?_)
  refine ⟨(hP _ o.top).typeIs, fun a ha => ?_, EvL.cons h1 (EvL.cons h2 EvL.nil hs2) hs1 s o _ _ fun vs s₁ k₁ r₁ => ?_⟩
  · cases ha
    obtain ⟨ob, vs, e1, e2, e3, _⟩ := (hP _ o.top).pat
    exact ⟨ob, e1, e3⟩
  · cases r₁ with
    | cons ra r' =>
      cases r' with
      | cons rb r' =>
        cases r'
        obtain ⟨t1, rfl⟩ := rp_vv ra
        obtain ⟨t2, rfl⟩ := rp_vv rb
        exact sub_call Fi hj hl hlen hZ (hP _ (o.keep k₁).top) hr hr' fun t s' k' => kk _ _ (k₁.trans k') vv_rp
end

section
variable {prog : Program} {w : World} {T : TopT}
theorem cn_fix (K : FnAt T 6 [Str.ofString "data"] (Str.ofString "_fix_eols")) {t : Tok} (gC : T.G (Str.ofString "CRLF") = some (.str ⟨[13, 10].toArray⟩ t)) {P C : Addr} (gP : T.G (Str.ofString "_twin_re_2") = some (.ref P)) (hP : ∀ h, T.In h → PatOk h P C false code2)
    (l : List Nat) (hl : l.length ≤ 1000000) (hz : (fixL l).length ≤ 1000000) : CnG prog w T 1 (Str.ofString "_fix_eols") [.str ⟨l.toArray⟩] (.str ⟨(fixL l).toArray⟩) :=
  CnG.intro K [] [] rfl rfl rfl fun F R s o => by
    obtain ⟨e1, e2, e3, en, kind, scope, ρ, mt, wc, wm, pin, gpin⟩ := R
    subst e1 e2 e3
    refine xret o (d := .str ⟨(fixL l).toArray⟩) ?_ fun v s' k o' r => ⟨v, rfl, o'.kp, r⟩
    have := Ev.subP (F := F) (n := Str.ofString "sub") (pn := Str.ofString "_twin_re_2") (e1 := .Name (Str.ofString "CRLF") ⟨9, 26, 9, 30⟩) (e2 := .Name (Str.ofString "data") ⟨9, 32, 9, 36⟩) (k := false) (r := [13, 10]) (l := l) (np := ⟨9, 11, 9, 21⟩) (ap := ⟨9, 11, 9, 25⟩) (p := ⟨9, 11, 9, 37⟩)
      rfl gP ((kind _).trans (by decide +kernel)) (by decide +kernel) hP (Ev.glob_str gC ((kind _).trans (by decide +kernel)) (by decide +kernel)) (Ev.name_local (d := .str ⟨l.toArray⟩) ((ρ _).trans rfl) ((kind _).trans (by decide +kernel)) (by decide +kernel)) rfl rfl rfl
      (finds2 l hl) joinS (fun h => by cases h) hl hz (by decide +kernel) (by decide +kernel)
    exact this
theorem cn_quote (K : FnAt T 5 [Str.ofString "bindata"] (Str.ofString "_quote_periods")) {P C : Addr} (gP : T.G (Str.ofString "_twin_re_1") = some (.ref P)) (hP : ∀ h, T.In h → PatOk h P C true code1)
    (l : List Nat) (hl : l.length ≤ 1000000) (h8 : ∀ c ∈ l, c < 256) (hz : (quoteL true l).length ≤ 1000000) : CnG prog w T 1 (Str.ofString "_quote_periods") [.bytes (by8 l)] (.bytes (by8 (quoteL true l))) :=
  CnG.intro K [] [] rfl rfl rfl fun F R s o => by
    obtain ⟨e1, e2, e3, en, kind, scope, ρ, mt, wc, wm, pin, gpin⟩ := R
    subst e1 e2 e3
    refine xret o (d := .bytes (by8 (quoteL true l))) ?_ fun v s' k o' r => ⟨v, rfl, o'.kp, r⟩
    have := Ev.subP (F := F) (n := Str.ofString "sub") (pn := Str.ofString "_twin_re_1") (e1 := .Constant (.bytes [46, 46]) 0 ⟨7, 26, 7, 31⟩) (e2 := .Name (Str.ofString "bindata") ⟨7, 33, 7, 40⟩) (k := true) (r := [46, 46]) (l := l) (np := ⟨7, 11, 7, 21⟩) (ap := ⟨7, 11, 7, 25⟩) (p := ⟨7, 11, 7, 41⟩)
      rfl gP ((kind _).trans (by decide +kernel)) (by decide +kernel) hP (by have h9 : dv true [46, 46] = .bytes [46, 46].toArray := congrArg Dat.bytes (by decide +kernel); rw [h9]; exact Ev.bytes) (Ev.name_local (d := .bytes (by8 l)) ((ρ _).trans rfl) ((kind _).trans (by decide +kernel)) (by decide +kernel)) rfl rfl rfl
      (finds1 l hl) joinB (fun _ => h8) hl hz (by decide +kernel) (by decide +kernel)
    exact this
end
end Mine

end

section
open PySem PySem.W PyProof.Rows
set_option maxRecDepth 100000
set_option Elab.async false
set_option linter.unusedVariables false
namespace Mine

/-- start, where a mark was opened, the pieces -/
noncomputable abbrev StripSt := Nat × Option Nat × List Str
noncomputable def stripStep (x : Str) (st : StripSt) (it : Nat × List Nat) : StripSt :=
  if it.2 = [34] then
    match st.2.1 with
    | none => (st.1, some it.1, st.2.2)
    | some q => (it.1 + 1, none, if st.1 = q then st.2.2 else st.2.2 ++ [Txt.slice x (some (st.1 : Int)) (some (q : Int))])
  else st
noncomputable def optI : Option Nat → Dat
  | none => .none
  | some q => .int (q : Nat)
noncomputable def sStart : Str := Str.ofString "start"
noncomputable def sOpen : Str := Str.ofString "open_pos"
noncomputable def sRes : Str := Str.ofString "result"
noncomputable def sFor : Stmt := nth (bodyOf 10) 4

theorem it_eq (l : List Nat) : ((⟨l.toArray⟩ : Str) == Str.ofString "\"") = decide (l = [34]) := by
  have e : Str.ofString "\"" = ⟨[34].toArray⟩ := by decide +kernel
  rw [e, Bool.eq_iff_iff]
  simp only [beq_iff_eq, decide_eq_true_eq]
  constructor
  · intro h
    injection h with h
    simpa using h
  · rintro rfl; rfl

section
variable {F : Fm} {s : Shared}

theorem strip_turn (o : F.Ok s) {x : Str} {st : StripSt} {it : Nat × List Nat} {a : Addr} (hlen : x.length ≤ 1000) (hsz : st.2.2.length < 3000)
    (kind : ∀ y, F.env.kindOf y = (scopeOf 10).names.lookup y) (hint : interactive F.env = false)
    (rA : F.ρ sAddr = some (.str x)) (rS : F.ρ (Str.ofString "start") = some (.int (st.1 : Nat))) (rO : F.ρ (Str.ofString "open_pos") = some (optI st.2.1)) (rP : F.ρ sPos = some (.int (it.1 : Nat))) (rC : F.ρ sCh = some (.str ⟨it.2.toArray⟩))
    (rR : F.mt (Str.ofString "result") = some (a, st.2.2.map Dat.str)) (hwm : Str.ofString "result" ∈ F.wm) {Q : Flow → Shared → Prop}
    (k : ∀ (ρ' : Str → Option Dat) (mt' : Str → Option (Addr × List Dat)) s', ({ F with ρ := ρ', mt := mt' } : Fm).Ok s' → (∀ y, y ≠ Str.ofString "start" → y ≠ Str.ofString "open_pos" → ρ' y = F.ρ y) → ρ' (Str.ofString "start") = some (.int ((stripStep x st it).1 : Nat)) → ρ' (Str.ofString "open_pos") = some (optI (stripStep x st it).2.1) →
      mt' (Str.ofString "result") = some (a, (stripStep x st it).2.2.map Dat.str) → (∀ y p, y ≠ Str.ofString "result" → mt' y = some p → F.mt y = some p) → Q .next s') :
    Go F (forBody sFor) Q (fun _ _ => False) s := by
  have kS : F.env.kindOf (Str.ofString "start") = some .local := (kind _).trans (by decide +kernel)
  have kO : F.env.kindOf (Str.ofString "open_pos") = some .local := (kind _).trans (by decide +kernel)
  have kP : F.env.kindOf sPos = some .local := (kind _).trans (by decide +kernel)
  have kC : F.env.kindOf sCh = some .local := (kind _).trans (by decide +kernel)
  have kA : F.env.kindOf sAddr = some .local := (kind _).trans (by decide +kernel)
  have kR : F.env.kindOf (Str.ofString "result") = some .local := (kind _).trans (by decide +kernel)
  refine xif o (Tst.cmp (Ev.name_local rC kC (by decide +kernel)) Ev.str CmpR.eqStr (by with_unfolding_all rfl)) fun s1 o1 => ?_
  rw [it_eq]
  by_cases h34 : it.2 = [34]
  · rw [decide_eq_true h34, if_pos rfl]
    cases hop : st.2.1 with
    | none =>
      have rO' : F.ρ (Str.ofString "open_pos") = some .none := by rw [rO, hop]; rfl
      have hst : stripStep x st it = (st.1, some it.1, st.2.2) := by unfold stripStep; rw [if_pos h34, hop]
      refine xif o1 (Tst.cmp (Ev.name_local rO' kO (by decide +kernel)) Ev.non CmpR.noneIsNone (by with_unfolding_all rfl)) fun s2 o2 => ?_
      refine xassign o2 (Ev.name_local rP kP (by decide +kernel)) (.inl kO) (by with_unfolding_all rfl) fun s3 o3 => ?_
      refine wpAny_execs_nil (wpAny_execs_nil (wpAny_execs_nil ?_))
      refine k _ _ s3 o3 (fun y _ h => upd_other h) ?_ ?_ ?_ (fun y p _ h => ?_)
      · rw [hst]; exact (upd_other (by decide +kernel)).trans rS
      · rw [hst]; exact upd_self
      · rw [hst]; exact (upd_other (by decide +kernel)).trans rR
      · by_cases hy : y = Str.ofString "open_pos"
        · subst hy; rw [upd_self] at h; cases h
        · rw [upd_other hy] at h; exact h
    | some q =>
      have rO' : F.ρ (Str.ofString "open_pos") = some (.int (q : Nat)) := by rw [rO, hop]; rfl
      refine xif o1 (Tst.cmp (Ev.name_local rO' kO (by decide +kernel)) Ev.non CmpR.isNone (by with_unfolding_all rfl)) fun s2 o2 => ?_
      refine xif o2 (Tst.cmp (Ev.name_local rS kS (by decide +kernel)) (Ev.name_local rO' kO (by decide +kernel)) CmpR.neInt (by with_unfolding_all rfl)) fun s3 o3 => ?_
      -- the rest of the turn, from the pieces on
      have rest : ∀ (Q2 : Flow → Shared → Prop), (∀ s', Q .next s' → Q2 .next s') → ∀ (mt' : Str → Option (Addr × List Dat)) s4, ({ F with mt := mt' } : Fm).Ok s4 → mt' (Str.ofString "result") = some (a, (stripStep x st it).2.2.map Dat.str) → (∀ y p, y ≠ Str.ofString "result" → mt' y = some p → F.mt y = some p) →
          (stripStep x st it).1 = it.1 + 1 → (stripStep x st it).2.1 = none → Go ({ F with mt := mt' } : Fm) (forBody sFor |> fun l => match l with
            | [.If _ [.If _ _ (_ :: r) _] _ _] => r
            | _ => []) Q2 (fun _ _ => False) s4 := by
        intro Q2 hQ2 mt' s4 o4 hm hm' e1 e2
        refine xassign (F := { F with mt := mt' }) o4 (Ev.add (Ev.name_local (F := { F with mt := mt' }) rP kP (by decide +kernel)) Ev.int) (.inl kS) (by with_unfolding_all rfl) fun s5 o5 => ?_
        refine xassign o5 Ev.non (.inl kO) (by with_unfolding_all rfl) fun s6 o6 => ?_
        refine wpAny_execs_nil (hQ2 _ ?_)
        refine k _ _ s6 o6 (fun y h1 h2 => (upd_other h2).trans (upd_other h1)) ?_ ?_ ?_ (fun y p hy h => ?_)
        · rw [e1]
          show upd (upd F.ρ (Str.ofString "start") (some _)) (Str.ofString "open_pos") (some _) (Str.ofString "start") = _
          rw [upd_other (by decide +kernel), upd_self]; push_cast; rfl
        · rw [e2]; exact upd_self
        · show upd (upd mt' (Str.ofString "start") none) (Str.ofString "open_pos") none (Str.ofString "result") = _
          rw [upd_other (by decide +kernel), upd_other (by decide +kernel)]; exact hm
        · refine hm' y p hy ?_
          by_cases h1 : y = Str.ofString "open_pos"
          · subst h1; have h' : upd (upd mt' (Str.ofString "start") none) (Str.ofString "open_pos") none (Str.ofString "open_pos") = some p := h
            rw [upd_self] at h'; cases h'
          · have h' : upd (upd mt' (Str.ofString "start") none) (Str.ofString "open_pos") none y = some p := h
            rw [upd_other h1] at h'
            by_cases h2 : y = Str.ofString "start"
            · subst h2; rw [upd_self] at h'; cases h'
            · rw [upd_other h2] at h'; exact h'
      have hst : stripStep x st it = (it.1 + 1, none, if st.1 = q then st.2.2 else st.2.2 ++ [Txt.slice x (some (st.1 : Int)) (some (q : Int))]) := by unfold stripStep; rw [if_pos h34, hop]
      by_cases hq : st.1 = q
      · have hb : ((st.1 : Int) != (q : Int)) = false := by rw [hq]; simp
        rw [hb]
        refine wpAny_execs_nil (rest _ (fun s' h => wpAny_execs_nil (wpAny_execs_nil h)) F.mt s3 o3 ?_ (fun _ _ _ h => h) ?_ ?_)
        · rw [hst]; show _ = some (a, List.map Dat.str (if st.1 = q then _ else _)); rw [if_pos hq]; exact rR
        · rw [hst]
        · rw [hst]
      · have hb : ((st.1 : Int) != (q : Int)) = true := by
          rw [bne_iff_ne]; intro h; exact hq (by omega)
        rw [hb]
        refine xappend o3 rR hwm (.inl kR) (by decide +kernel) (by decide +kernel) (Ev.sliceS (Ev.name_local rA kA (by decide +kernel)) (EvP.so (Ev.name_local rS kS (by decide +kernel))) (EvP.so (Ev.name_local rO' kO (by decide +kernel))) (Nat.le_trans hlen (by decide))) (by rw [List.length_map]; exact Nat.lt_of_lt_of_le hsz (by decide)) hint rfl rfl fun s4 o4 => ?_
        refine wpAny_execs_nil (rest _ (fun s' h => wpAny_execs_nil (wpAny_execs_nil h)) (upd F.mt (Str.ofString "result") (some (a, st.2.2.map Dat.str ++ [Dat.str (Txt.slice x (some (st.1 : Int)) (some (q : Int)))]))) s4 o4 ?_ (fun y p hy h => ?_) ?_ ?_)
        · rw [hst]; show _ = some (a, List.map Dat.str (if st.1 = q then _ else _)); rw [if_neg hq, List.map_append]; exact upd_self
        · rw [upd_other hy] at h; exact h
        · rw [hst]
        · rw [hst]
  · rw [decide_eq_false h34, if_neg (by decide)]
    have hst : stripStep x st it = st := by unfold stripStep; rw [if_neg h34]
    refine wpAny_execs_nil (wpAny_execs_nil ?_)
    exact k F.ρ F.mt s1 o1 (fun _ _ _ => rfl) (by rw [hst]; exact rS) (by rw [hst]; exact rO) (by rw [hst]; exact rR) fun _ _ _ h => h
end
end Mine

end

section
open PySem PySem.W PyProof.Rows
set_option maxRecDepth 100000
set_option Elab.async false
set_option linter.unusedVariables false
namespace Mine

theorem escs_length : ∀ (l : List Nat) (p : Nat) (e : Bool), (escs l p e).length ≤ l.length + 1
  | [], p, e => by cases e <;> simp [escs]
  | c :: r, p, e => by
    unfold escs
    split
    · have := escs_length r (p + 1) false; simp; omega
    · split
      · have := escs_length r (p + 1) true; simp; omega
      · have := escs_length r (p + 1) false; simp; omega

noncomputable def stAt (x : Str) (k : Nat) : StripSt := ((escs x.cps.toList 0 false).take k).foldl (stripStep x) (0, none, [])
theorem stAt_succ {x : Str} {k : Nat} {it : Nat × List Nat} (h : (escs x.cps.toList 0 false)[k]? = some it) : stAt x (k + 1) = stripStep x (stAt x k) it := by
  unfold stAt
  rw [List.take_add_one, h, Option.toList_some, List.foldl_append]; rfl
theorem step_len (x : Str) (st : StripSt) (it : Nat × List Nat) : (stripStep x st it).2.2.length ≤ st.2.2.length + 1 := by
  unfold stripStep
  split
  · split
    · simp
    · split <;> simp
  · simp
theorem stAt_len (x : Str) : ∀ k, (stAt x k).2.2.length ≤ k
  | 0 => by simp [stAt]
  | k + 1 => by
    cases h : (escs x.cps.toList 0 false)[k]? with
    | none =>
      have : stAt x (k + 1) = stAt x k := by
        unfold stAt
        rw [List.take_add_one, h]; simp
      rw [this]; have := stAt_len x k; omega
    | some it =>
      rw [stAt_succ h]
      have := step_len x (stAt x k) it
      have := stAt_len x k
      omega
theorem step_piece (x : Str) (st : StripSt) (it : Nat × List Nat) (h : ∀ y ∈ st.2.2, y.length ≤ x.length) : ∀ y ∈ (stripStep x st it).2.2, y.length ≤ x.length := by
  unfold stripStep
  split
  · split
    · exact h
    · split
      · exact h
      · intro y hy
        rcases List.mem_append.mp hy with hy | hy
        · exact h y hy
        · rw [List.mem_singleton.mp hy]; exact Txt.slice_le _ _ _
  · exact h
theorem stAt_piece (x : Str) : ∀ k, ∀ y ∈ (stAt x k).2.2, y.length ≤ x.length
  | 0 => by simp [stAt]
  | k + 1 => by
    cases h : (escs x.cps.toList 0 false)[k]? with
    | none =>
      have : stAt x (k + 1) = stAt x k := by
        unfold stAt
        rw [List.take_add_one, h]; simp
      rw [this]; exact stAt_piece x k
    | some it =>
      rw [stAt_succ h]
      exact step_piece x _ it (stAt_piece x k)

noncomputable def stEnd (x : Str) : StripSt := (escs x.cps.toList 0 false).foldl (stripStep x) (0, none, [])
noncomputable def pieces (x : Str) : List Str := if (stEnd x).1 < x.length then (stEnd x).2.2 ++ [Txt.slice x (some ((stEnd x).1 : Int)) none] else (stEnd x).2.2
noncomputable def stripD (x : Str) : List Nat := (pieces x).flatMap (·.cps.toList)
theorem stAt_end (x : Str) : stAt x (escs x.cps.toList 0 false).length = stEnd x := by unfold stAt stEnd; rw [List.take_length]
theorem flat_len : ∀ (xs : List Str) (n : Nat), (∀ y ∈ xs, y.length ≤ n) → (xs.flatMap (·.cps.toList)).length ≤ xs.length * n
  | [], n, _ => by simp
  | x :: xs, n, h => by
    have h1 := flat_len xs n fun y hy => h y (List.mem_cons_of_mem _ hy)
    have h2 := h x List.mem_cons_self
    have h3 : x.cps.toList.length = x.length := by simp [Str.length]
    rw [List.flatMap_cons, List.length_append, List.length_cons, h3, Nat.succ_mul]
    omega
theorem pieces_len (x : Str) : (pieces x).length ≤ x.length + 2 := by
  have h1 := stAt_len x (escs x.cps.toList 0 false).length
  rw [stAt_end] at h1
  have h2 := escs_length x.cps.toList 0 false
  have h3 : x.cps.toList.length = x.length := by simp [Str.length]
  unfold pieces
  split
  · simp; omega
  · omega
theorem pieces_le (x : Str) : ∀ y ∈ pieces x, y.length ≤ x.length := by
  have h1 := stAt_piece x (escs x.cps.toList 0 false).length
  rw [stAt_end] at h1
  unfold pieces
  split
  · intro y hy
    rcases List.mem_append.mp hy with hy | hy
    · exact h1 y hy
    · rw [List.mem_singleton.mp hy]; exact Txt.slice_le _ _ _
  · exact h1

theorem glued_strs (xs : List Str) : Builtin.Str.glued ⟨#[]⟩ xs = ⟨(xs.flatMap (·.cps.toList)).toArray⟩ := by
  have h := glued_nil (xs.map (·.cps.toList))
  have e : (xs.map (·.cps.toList)).map (fun x => (⟨x.toArray⟩ : Str)) = xs := by
    rw [List.map_map]
    conv => rhs; rw [← List.map_id xs]
    exact List.map_congr_left fun x _ => by simp
  rw [e] at h
  rw [h, List.flatMap_map]; rfl
theorem foldl_strs (xs : List Str) : xs.foldl (fun a p => a + p.length + (⟨#[]⟩ : Str).length) 0 = (xs.flatMap (·.cps.toList)).length := by
  have h := foldl_len (xs.map (·.cps.toList)) 0
  have e : (xs.map (·.cps.toList)).map (fun x => (⟨x.toArray⟩ : Str)) = xs := by
    rw [List.map_map]
    conv => rhs; rw [← List.map_id xs]
    exact List.map_congr_left fun x _ => by simp
  rw [e] at h
  rw [h, List.flatMap_map, Nat.zero_add]; rfl
end Mine

end

section
open PySem PySem.W PyProof.Rows
set_option maxRecDepth 100000
set_option Elab.async false
set_option linter.unusedVariables false
namespace Mine

structure StripFam (F : Fm) (x : Str) (a : Addr) (i : Nat) (G : Fm) : Prop where
  like : Like F G
  X : G.X = F.X
  flat : Flat1 G
  addr : G.ρ sAddr = some (.str x)
  start : G.ρ (Str.ofString "start") = some (.int ((stAt x i).1 : Nat))
  opn : G.ρ (Str.ofString "open_pos") = some (optI (stAt x i).2.1)
  res : G.mt (Str.ofString "result") = some (a, (stAt x i).2.2.map Dat.str)

set_option maxHeartbeats 2000000 in
theorem cn_strip {prog : Program} {w : World} {T : TopT} (K9 : FnAt T 9 [sAddr] (Str.ofString "_iter_escaped_chars")) (K : FnAt T 10 [sAddr] (Str.ofString "_strip_quoted_realnames")) (gEn : T.G (Str.ofString "enumerate") = some (.type "enumerate")) (gLen : T.G (Str.ofString "len") = some (.builtin "len"))
    (x : Str) (hx : 34 ∈ x.cps.toList) (hlen : x.length ≤ 1000) : CnG prog w T 2 (Str.ofString "_strip_quoted_realnames") [.str x] (.str ⟨(stripD x).toArray⟩) :=
  CnG.intro K [] [Str.ofString "result"] rfl rfl rfl fun F R s o => by
    obtain ⟨e1, e2, e3, en, kind, scope, ρ, mt, wc, wm, pin, gpin⟩ := R
    subst e1 e2 e3
    obtain ⟨f9, fd9, h91, h92, h93⟩ := K9
    have kS : F.env.kindOf (Str.ofString "start") = some .local := (kind _).trans (by decide +kernel)
    have kO : F.env.kindOf (Str.ofString "open_pos") = some .local := (kind _).trans (by decide +kernel)
    have kP : F.env.kindOf sPos = some .local := (kind _).trans (by decide +kernel)
    have kC : F.env.kindOf sCh = some .local := (kind _).trans (by decide +kernel)
    have kA : F.env.kindOf sAddr = some .local := (kind _).trans (by decide +kernel)
    have kR : F.env.kindOf (Str.ofString "result") = some .local := (kind _).trans (by decide +kernel)
    have hint : interactive F.env = false := by unfold interactive; rw [scope]; rfl
    have rA : F.ρ sAddr = some (.str x) := (ρ _).trans rfl
    have hlq : Str.ofString "\"" = ⟨#[34]⟩ := by decide +kernel
    have hcon : (!(Txt.contains x (Str.ofString "\""))) = false := by
      rw [hlq]; unfold Txt.contains; rw [StrLaws.found_one, decide_eq_true hx]; rfl
    refine xif o (Tst.cmp Ev.str (Ev.name_local rA kA (by decide +kernel)) CmpR.notInStr (by with_unfolding_all rfl)) fun s1 o1 => ?_
    rw [hcon]
    refine wpAny_execs_nil ?_
    refine xassign o1 Ev.int (.inl kS) (by with_unfolding_all rfl) fun s2 o2 => ?_
    refine xassign o2 Ev.non (.inl kO) (by with_unfolding_all rfl) fun s3 o3 => ?_
    refine xnil o3 (.inl kR) fun s4 a hbase o4 => ?_
    generalize hF4 : (Fm.addX ((F.set (Str.ofString "start") (.int 0)).set (Str.ofString "open_pos") .none) a).own (Str.ofString "result") a [] = F4 at o4
    have F4prog : F4.prog = F.prog := by rw [← hF4]; rfl
    have F4w : F4.w = F.w := by rw [← hF4]; rfl
    have F4T : F4.T = F.T := by rw [← hF4]; rfl
    have F4A : F4.A = F.A := by rw [← hF4]; rfl
    have F4env : F4.env = F.env := by rw [← hF4]; rfl
    have F4base : F4.base = F.base := by rw [← hF4]; rfl
    have F4X : F4.X = a :: F.X := by rw [← hF4]; rfl
    have F4n : F4.n = F.n := by rw [← hF4]; rfl
    have F4wc : F4.wc = [] := by rw [← hF4]; exact wc
    have F4wm : F4.wm = [Str.ofString "result"] := by rw [← hF4]; exact wm
    have r4A : F4.ρ sAddr = some (.str x) := by
      rw [← hF4]
      show upd (upd (upd F.ρ (Str.ofString "start") (some (.int 0))) (Str.ofString "open_pos") (some .none)) (Str.ofString "result") none sAddr = _
      rw [upd_other (by decide +kernel), upd_other (by decide +kernel), upd_other (by decide +kernel)]; exact rA
    have r4S : F4.ρ (Str.ofString "start") = some (.int ((0 : Nat) : Int)) := by
      rw [← hF4]
      show upd (upd (upd F.ρ (Str.ofString "start") (some (.int 0))) (Str.ofString "open_pos") (some .none)) (Str.ofString "result") none (Str.ofString "start") = _
      rw [upd_other (by decide +kernel), upd_other (by decide +kernel), upd_self]; rfl
    have r4O : F4.ρ (Str.ofString "open_pos") = some .none := by
      rw [← hF4]
      show upd (upd (upd F.ρ (Str.ofString "start") (some (.int 0))) (Str.ofString "open_pos") (some .none)) (Str.ofString "result") none (Str.ofString "open_pos") = _
      rw [upd_other (by decide +kernel), upd_self]
    have r4R : F4.mt (Str.ofString "result") = some (a, []) := by
      rw [← hF4]
      show upd (upd (upd F.mt (Str.ofString "start") none) (Str.ofString "open_pos") none) (Str.ofString "result") (some (a, [])) (Str.ofString "result") = _
      exact upd_self
    have flat4 : Flat1 F4 := by
      rw [← hF4]
      refine ⟨fun y d h => ?_, fun y b ds h => ?_⟩
      · have h' : upd (upd (upd F.ρ (Str.ofString "start") (some (.int 0))) (Str.ofString "open_pos") (some .none)) (Str.ofString "result") none y = some d := h
        unfold upd at h'
        split at h'
        · cases h'
        · split at h'
          · cases h'; rfl
          · split at h'
            · cases h'; rfl
            · rw [ρ] at h'
              have : ([sAddr].zip [Dat.str x]).lookup y = some d := h'
              simp only [List.zip_cons_cons, List.zip_nil_right, List.lookup_cons, List.lookup_nil] at this
              split at this
              · cases this; rfl
              · cases this
      · have h' : upd (upd (upd F.mt (Str.ofString "start") none) (Str.ofString "open_pos") none) (Str.ofString "result") (some (a, [])) y = some (b, ds) := h
        unfold upd at h'
        split at h'
        · cases h'; simp
        · split at h'
          · cases h'
          · split at h'
            · cases h'
            · rw [mt] at h'; cases h'
    have hR : sRes = Str.ofString "result" := rfl
    refine ex_for_gen (its := escs x.cps.toList 0 false) (txt := x) (StripFam F4 x a) (fun i G h => ⟨h.like, h.X, h.flat⟩) o4 (by rw [F4n, en]; exact Nat.le_refl _) (by rw [F4wc]; intro y hy; cases hy)
      (by rw [F4T]; exact h92) h93 (by rw [F4T]; exact gEn) (by rw [F4T]; exact h91) (by rw [F4env]; exact (kind _).trans (by decide +kernel)) (by decide +kernel) (Ev.name_local r4A (by rw [F4env]; exact kA) (by decide +kernel)) rfl rfl
      (.inl (by rw [F4env]; exact kP)) (.inl (by rw [F4env]; exact kC)) ⟨Like.refl _, rfl, flat4, r4A, r4S, r4O, r4R⟩ (fun _ => rfl) ?_ ?_
    · intro i it G B hit hG s5 o5
      have LG := hG.like
      have st := strip_turn (F := ((G.rb B).set (Str.ofString "pos") (.int it.1)).set (Str.ofString "ch") (.str ⟨it.2.toArray⟩)) (x := x) (st := stAt x i) (it := it) (a := a) o5 hlen
        (by
          have h1 := stAt_len x i
          have h2 := escs_length x.cps.toList 0 false
          have h3 : x.cps.toList.length = x.length := by simp [Str.length]
          have h4 : i < (escs x.cps.toList 0 false).length := (List.getElem?_eq_some_iff.mp hit).1
          omega)
        (fun y => by show G.env.kindOf y = _; rw [LG.env, F4env]; exact kind y) (by show interactive G.env = false; rw [LG.env, F4env]; exact hint)
        (by show upd (upd G.ρ (Str.ofString "pos") (some (.int it.1))) (Str.ofString "ch") (some (.str ⟨it.2.toArray⟩)) sAddr = _; rw [upd_other (by decide +kernel), upd_other (by decide +kernel)]; exact hG.addr)
        (by show upd (upd G.ρ (Str.ofString "pos") (some (.int it.1))) (Str.ofString "ch") (some (.str ⟨it.2.toArray⟩)) (Str.ofString "start") = _; rw [upd_other (by decide +kernel), upd_other (by decide +kernel)]; exact hG.start)
        (by show upd (upd G.ρ (Str.ofString "pos") (some (.int it.1))) (Str.ofString "ch") (some (.str ⟨it.2.toArray⟩)) (Str.ofString "open_pos") = _; rw [upd_other (by decide +kernel), upd_other (by decide +kernel)]; exact hG.opn)
        (by show upd (upd G.ρ (Str.ofString "pos") (some (.int it.1))) (Str.ofString "ch") (some (.str ⟨it.2.toArray⟩)) sPos = _; rw [upd_other (by decide +kernel), upd_self])
        (by show upd (upd G.ρ (Str.ofString "pos") (some (.int it.1))) (Str.ofString "ch") (some (.str ⟨it.2.toArray⟩)) sCh = _; rw [upd_self])
        (by show upd (upd G.mt (Str.ofString "pos") none) (Str.ofString "ch") none (Str.ofString "result") = _; rw [upd_other (by decide +kernel), upd_other (by decide +kernel)]; exact hG.res)
        (by show Str.ofString "result" ∈ G.wm; rw [LG.wm, F4wm]; exact List.mem_cons_self)
        (Q := fun fl s' => fl = .next ∧ ∃ G', StripFam F4 x a (i + 1) G' ∧ (G'.rb B).Ok s') fun ρ' mt' s6 o6 hρ h1 h2 h3 hmt => ⟨rfl, { G with ρ := ρ', mt := mt' }, ?_, o6⟩
      · have e1 : (((G.rb B).set (Str.ofString "pos") (.int it.1)).set (Str.ofString "ch") (.str ⟨it.2.toArray⟩)).prog = F4.prog := LG.prog
        have e2 : (((G.rb B).set (Str.ofString "pos") (.int it.1)).set (Str.ofString "ch") (.str ⟨it.2.toArray⟩)).w = F4.w := LG.w
        have e3 : (((G.rb B).set (Str.ofString "pos") (.int it.1)).set (Str.ofString "ch") (.str ⟨it.2.toArray⟩)).A = F4.A := LG.A
        have e4 : (((G.rb B).set (Str.ofString "pos") (.int it.1)).set (Str.ofString "ch") (.str ⟨it.2.toArray⟩)).env = F4.env := LG.env
        unfold Go at st
        rw [e1, e2, e3, e4] at st
        exact st
      · have hS := stAt_succ hit
        refine ⟨⟨LG.prog, LG.w, LG.T, LG.n, LG.A, LG.env, LG.base, LG.wc, LG.wm, LG.pin, LG.gpin⟩, hG.X, ⟨fun y d h => ?_, fun y b ds h => ?_⟩, ?_, by rw [hS]; exact h1, by rw [hS]; exact h2, by rw [hS]; exact h3⟩
        · have h' : ρ' y = some d := h
          by_cases hy1 : y = Str.ofString "start"
          · subst hy1; rw [h1] at h'; cases h'; rfl
          · by_cases hy2 : y = Str.ofString "open_pos"
            · subst hy2; rw [h2] at h'
              cases hq : (stripStep x (stAt x i) it).2.1 with
              | none => rw [hq] at h'; cases h'; rfl
              | some q => rw [hq] at h'; cases h'; rfl
            · rw [hρ y hy1 hy2] at h'
              have h'' : upd (upd G.ρ (Str.ofString "pos") (some (.int it.1))) (Str.ofString "ch") (some (.str ⟨it.2.toArray⟩)) y = some d := h'
              unfold upd at h''
              split at h''
              · cases h''; rfl
              · split at h''
                · cases h''; rfl
                · exact hG.flat.1 y d h''
        · have h' : mt' y = some (b, ds) := h
          by_cases hy : y = Str.ofString "result"
          · subst hy; rw [h3] at h'; cases h'
            intro d hd
            obtain ⟨z, _, rfl⟩ := List.mem_map.mp hd
            rfl
          · have h'' : upd (upd G.mt (Str.ofString "pos") none) (Str.ofString "ch") none y = some (b, ds) := hmt y _ hy h'
            unfold upd at h''
            split at h''
            · cases h''
            · split at h''
              · cases h''
              · exact hG.flat.2 y b ds h''
        · show ρ' sAddr = _
          rw [hρ _ (by decide +kernel) (by decide +kernel)]
          show upd (upd G.ρ (Str.ofString "pos") (some (.int it.1))) (Str.ofString "ch") (some (.str ⟨it.2.toArray⟩)) sAddr = _
          rw [upd_other (by decide +kernel), upd_other (by decide +kernel)]; exact hG.addr
    · intro G s5 hG o5
      have LG := hG.like
      have hst : stAt x (escs x.cps.toList 0 false).length = stEnd x := stAt_end x
      have gS := hG.start
      have gR := hG.res
      rw [hst] at gS gR
      rw [← LG.prog, ← LG.w, ← LG.A, ← LG.env]
      have kS' : G.env.kindOf (Str.ofString "start") = some .local := by rw [LG.env, F4env]; exact kS
      have kA' : G.env.kindOf sAddr = some .local := by rw [LG.env, F4env]; exact kA
      have kR' : G.env.kindOf (Str.ofString "result") = some .local := by rw [LG.env, F4env]; exact kR
      have kL' : G.env.kindOf (Str.ofString "len") = some .globalImplicit := by rw [LG.env, F4env]; exact (kind _).trans (by decide +kernel)
      have gL' : G.T.G (Str.ofString "len") = some (.builtin "len") := by rw [LG.T, F4T]; exact gLen
      have hint' : interactive G.env = false := by rw [LG.env, F4env]; exact hint
      have hwm' : Str.ofString "result" ∈ G.wm := by rw [LG.wm, F4wm]; exact List.mem_cons_self
      have hsl : x.length ≤ sizeLine := Nat.le_trans hlen (by decide)
      have he0 : Str.ofString "" = ⟨#[]⟩ := by decide +kernel
      have hpl := pieces_len x
      have hfl := flat_len (pieces x) x.length (pieces_le x)
      have hbig : (pieces x).length * x.length ≤ 1002 * 1000 := Nat.mul_le_mul (by omega) hlen
      have hfin : ∀ (H : Fm) s6, H.Ok s6 → H.env = G.env → H.T = G.T → H.base = F.base → H.X = G.X → H.mt (Str.ofString "result") = some (a, (pieces x).map Dat.str) → Go H [nth (bodyOf 10) 6] (fun fl s' => ∃ v, fl = .ret v ∧ Kp F.base s' ∧ Rp F.X s'.heap v (.str ⟨(stripD x).toArray⟩)) (fun _ _ => False) s6 := by
        intro H s6 o6 hE hT hB hX hm
        have key : Builtin.Str.glued (Str.ofString "") (pieces x) = ⟨(stripD x).toArray⟩ := by rw [he0]; exact glued_strs _
        refine xret o6 (d := .str ⟨(stripD x).toArray⟩) ?_ fun v s7 k o7 r => ⟨v, rfl, by rw [← hB]; exact o7.kp, r.scal rfl⟩
        rw [← key]
        refine Ev.joinM rfl Ev.str hm (.inl (by rw [hE]; exact kR')) (by decide +kernel) (by decide +kernel) rfl rfl ?_ ?_
        · rw [key]
          show (stripD x).toArray.size ≤ sizeLine
          rw [List.size_toArray, sizeLine_eq]
          show ((pieces x).flatMap _).length ≤ _
          omega
        · unfold Builtin.Str.tooLong
          rw [List.foldl_toArray' (h := by simp), he0, foldl_strs]
          refine decide_eq_false ?_
          have := sizeLine_eq
          omega
      refine xif o5 (Tst.cmp (Ev.name_local gS kS' (by decide +kernel)) (Ev.lenS gL' kL' (by decide +kernel) (Ev.name_local hG.addr kA' (by decide +kernel)) hsl) CmpR.lt (by with_unfolding_all rfl)) fun s6 o6 => ?_
      have hdec : decide (((stEnd x).1 : Int) < (x.length : Int)) = decide ((stEnd x).1 < x.length) := by simp
      rw [hdec]
      by_cases hlt : (stEnd x).1 < x.length
      · rw [decide_eq_true hlt]
        refine xappend o6 gR hwm' (.inl kR') (by decide +kernel) (by decide +kernel) (Ev.sliceS (Ev.name_local hG.addr kA' (by decide +kernel)) (EvP.so (Ev.name_local gS kS' (by decide +kernel))) EvP.no hsl) ?_ hint' rfl rfl fun s7 o7 => ?_
        · rw [List.length_map]
          have h1 := stAt_len x (escs x.cps.toList 0 false).length
          rw [stAt_end] at h1
          have h2 := escs_length x.cps.toList 0 false
          have h3 : x.cps.toList.length = x.length := by simp [Str.length]
          have := sizeLine_eq
          omega
        · refine wpAny_execs_nil (hfin (G.app (Str.ofString "result") a (List.map Dat.str (stEnd x).2.2 ++ [Dat.str (Txt.slice x (some ((stEnd x).1 : Int)) none)])) s7 o7 rfl rfl (LG.base.trans F4base) rfl ?_)
          show upd G.mt (Str.ofString "result") _ (Str.ofString "result") = _
          rw [upd_self]
          unfold pieces
          rw [if_pos hlt, List.map_append]; rfl
      · rw [decide_eq_false hlt]
        refine wpAny_execs_nil (hfin _ s6 o6 rfl rfl (LG.base.trans F4base) rfl ?_)
        rw [gR]
        unfold pieces
        rw [if_neg hlt]
end Mine

end

section
open PySem PySem.W PyProof.Rows
set_option maxRecDepth 100000
set_option Elab.async false
set_option linter.unusedVariables false
namespace Mine

section
variable {F : Fm}
theorem Ev.neg {e : Expr} {p : Pos} {i : Int} (h : Ev F e (.int i)) : Ev F (.UnaryOp .USub e p) (.int (-i)) := fun s o Q E k =>
  wpAny_UnaryOp (h s o _ _ fun v s₁ k₁ r₁ => by cases r₁; exact neg_int (k _ _ (k₁.trans Kp.tok) (.int _ _)))

theorem Ev.addN {l r : Expr} {p : Pos} {a b : Nat} (hl : Ev F l (.int (a : Nat))) (hr : Ev F r (.int (b : Nat))) : Ev F (.BinOp l .Add r p) (.int ((a + b : Nat) : Int)) := by
  have := Ev.add (p := p) hl hr
  rwa [← Int.natCast_add] at this
theorem Ev.modN {l r : Expr} {p : Pos} {a b : Nat} (hl : Ev F l (.int (a : Nat))) (hr : Ev F r (.int (b : Nat))) (hb : b ≠ 0) : Ev F (.BinOp l .Mod r p) (.int ((a % b : Nat) : Int)) := by
  have := Ev.mod (p := p) hl hr (by omega)
  rwa [Int.fmod_eq_emod_of_nonneg _ (by omega), ← Int.natCast_emod] at this
theorem Ev.divN {l r : Expr} {p : Pos} {a b : Nat} (hl : Ev F l (.int (a : Nat))) (hr : Ev F r (.int (b : Nat))) (hb : b ≠ 0) (hp : Builtin.divisionGoesByPylong a b = false) : Ev F (.BinOp l .FloorDiv r p) (.int ((a / b : Nat) : Int)) := by
  have := Ev.fdiv (p := p) hl hr (by omega) hp
  rwa [Int.fdiv_eq_ediv_of_nonneg _ (by omega), ← Int.natCast_ediv] at this
theorem Ev.nat {n : Nat} {k : Nat} {p : Pos} {i : Int} (h : i = (n : Int)) : Ev F (.Constant (.int i) k p) (.int (n : Nat)) := by rw [← h]; exact Ev.int

section
variable {rest : List Stmt} {Q : Flow → Shared → Prop} {E : Value → Shared → Prop} {s : Shared}
/-- x = [], and the new list is in no place that is kept apart -/
theorem xnil2 {x : Str} {px p q : Pos} (o : F.Ok s) (hx : Stor F x)
    (k : ∀ s' a, F.base.heap.get? a = none → a ∉ F.X → ((F.addX a).own x a []).Ok s' → Go ((F.addX a).own x a []) rest Q E s') : Go F (.Assign [.Name x px] (.List [] q) p :: rest) Q E s := by
  refine wpAny_execs_cons (wpAny_Assign_Name (wpAny_List (Calls.spliced_nil ⟨Nat.zero_le _, ?_⟩)) rfl)
  have o' := o.addX (lstO [] 0)
  have hno : ∀ y es, F.mt y ≠ some (s.heap.objs.size, es) := fun y es hy => by
    obtain ⟨σ, _, _, h3, _⟩ := o.sto
    obtain ⟨_, _, _, vs, n, e, _⟩ := h3 y _ es hy
    exact Nat.lt_irrefl _ (Heap.lt_size e)
  refine store_own (F := F.addX s.heap.objs.size) o' (vs := []) (n := 0) hx (Heap.get?_push_size _ rfl) (o.base_none (fresh_none _)) List.mem_cons_self hno .nil fun s₂ o₂ => k s₂ _ (o.base_none (fresh_none _)) (fresh_not_in o.live) o₂
/-- a name's own list is handed back -/
theorem xretM {x : Str} {px p : Pos} {a : Addr} {ds : List Dat} {X : List Addr} (o : F.Ok s) (hx : F.mt x = some (a, ds)) (hl : F.env.kindOf x = some .local ∨ F.env.kindOf x = some .cell ∨ F.env.kindOf x = some .free) (hd : (x == ("__debug__" : Str)) = false) (hn : (x == ("__classdict__" : Str)) = false)
    (hX : ∀ b ∈ X, b ∈ F.X) (haX : a ∉ X) (k : ∀ v s', F.Ok s' → Rp X s'.heap v (.list ds) → Q (.ret v) s') : Go F (.Return (some (.Name x px)) p :: rest) Q E s :=
  wpAny_execs_cons (wpAny_Return_some (name_mut hx hl hd hn o fun vs n e r => k _ s o (.list e haX (r.weaken hX))))
end

noncomputable def freeNs (l : List (Str × NameKind)) : List Str := (l.filter fun x => x.2 == .free).map (·.1)
theorem mem_freeNs {l : List (Str × NameKind)} {x : Str} (h : l.lookup x = some .free) : x ∈ freeNs l :=
  List.mem_map.mpr ⟨(x, .free), List.mem_filter.mpr ⟨mem_of_lookup h, rfl⟩, rfl⟩
theorem ScOk.mk2 {scope : Scope} {names : List Str} (hk : scope.kind = .function) (hn : (scope.names.map (·.1)).Nodup) (hf : ∀ x ∈ freeNs scope.names, F.env.kindOf x = some .cell ∨ F.env.kindOf x = some .free)
    (hna : ∀ x ∈ names, scope.names.lookup x = some .local ∨ scope.names.lookup x = some .cell) (ha : scope.names.lookup accN = none) : ScOk F scope names := ⟨hk, hn, fun x h => hf x (mem_freeNs h), hna, ha⟩
end

noncomputable def crlf : Str := Str.ofString "\r\n"
section
variable {prog : Program} {w : World} {T : TopT}
noncomputable def rowsD (y : Str) : Dat := .list (pickD ((splitS y crlf).map Dat.str) (some 2) (some (-1)) none)
theorem cn_rows (K : FnAt T 66 [Str.ofString "text"] (Str.ofString "_law_rows")) (x : Str) {n : Nat} (y : List Nat) (hS : CnG prog w T n (Str.ofString "_strip_quoted_realnames") [.str x] (.str ⟨y.toArray⟩))
    (h1 : (decide ((⟨y.toArray⟩ : Str).length < crlf.length) || decide (Builtin.Str.strKind ⟨y.toArray⟩ < Builtin.Str.strKind crlf)) = false) (hf : (Builtin.Str.occurrences ⟨y.toArray⟩ crlf 0 (⟨y.toArray⟩ : Str).length ((⟨y.toArray⟩ : Str).length + 1)).isEmpty = false) (hy : y.length ≤ 1000) (hsz : (splitS ⟨y.toArray⟩ crlf).length ≤ 1000) :
    CnG prog w T (n + 1) (Str.ofString "_law_rows") [.str x] (rowsD ⟨y.toArray⟩) :=
  CnG.intro K [] [] rfl rfl rfl fun F R s o => by
    obtain ⟨e1, e2, e3, en, kind, scope, ρ, mt, wc, wm, pin, gpin⟩ := R
    subst e1 e2 e3
    refine xret o (d := rowsD ⟨y.toArray⟩) ?_ fun v s' k o' r => ⟨v, rfl, o'.kp, r⟩
    refine Ev.sliceL_mid (Ev.split rfl (Ev.callG (by rw [en]; exact hS) ((kind _).trans (by decide +kernel)) (by decide +kernel) (EvL.cons (Ev.name_local (d := .str x) ((ρ _).trans rfl) ((kind _).trans (by decide +kernel)) (by decide +kernel)) EvL.nil) rfl) Ev.str rfl rfl rfl h1 (by decide +kernel) hf (by show y.toArray.size ≤ _; rw [List.size_toArray]; exact Nat.le_trans hy (by decide)) (Nat.le_trans hsz (by decide))) Ev.int (Ev.neg Ev.int) ?_
    rw [List.length_map]
    exact Nat.le_trans hsz (by decide)
end
end Mine

end

section
open PySem PySem.W PyProof.Rows
set_option maxRecDepth 100000
set_option Elab.async false
set_option linter.unusedVariables false
namespace Mine

noncomputable def dotS (n : Nat) : Str := ⟨(List.replicate n 46).toArray⟩
theorem dot_len (n : Nat) : (dotS n).length = n := by simp [dotS, Str.length]
theorem slice_dots (n a b : Nat) (h : a ≤ b) : Txt.slice (dotS n) (some (a : Int)) (some (b : Int)) = dotS (min (b - a) (n - a)) := by
  rw [txt_slice _ _ _ h]
  show (⟨(((List.replicate n 46).toArray.toList.drop a).take (b - a)).toArray⟩ : Str) = ⟨(List.replicate _ 46).toArray⟩
  rw [List.toList_toArray, List.drop_replicate, List.take_replicate]

/-- the numbers of a row of dots -/
noncomputable def numsR : Nat → Nat → List Int
  | 0, _ => []
  | _ + 1, 0 => []
  | _ + 1, 1 => [23]
  | f + 1, 2 => 23 :: numsR f 1
  | f + 1, r + 3 => 52 :: numsR f r
theorem numsR_eq : ∀ (f n : Nat), n ≤ f → numsR f n = List.replicate (n / 3) 52 ++ List.replicate (n % 3) 23
  | 0, n, h => by
    have : n = 0 := by omega
    subst this; rfl
  | f + 1, 0, _ => rfl
  | f + 1, 1, _ => rfl
  | f + 1, 2, h => by
    rw [numsR, numsR_eq f 1 (by omega)]; rfl
  | f + 1, r + 3, h => by
    rw [numsR, numsR_eq f r (by omega)]
    have h1 : (r + 3) / 3 = r / 3 + 1 := by omega
    have h2 : (r + 3) % 3 = r % 3 := by omega
    rw [h1, h2, List.replicate_succ]; rfl

structure TabD (D : List (PyData × PyData)) : Prop where
  d1 : Spec.lookup (.str (dotS 1)) D = some (.int 23)
  d2 : Spec.lookup (.str (dotS 2)) D = none
  d3 : Spec.lookup (.str (dotS 3)) D = some (.int 52)

structure NumFam (F : Fm) (n : Nat) (a : Addr) (m : Nat) (G : Fm) : Prop where
  like : Like F G
  X : G.X = F.X
  row : G.ρ (Str.ofString "row") = some (.str (dotS n))
  st : ∃ (k : Nat) (acc : List Int), m = n - k ∧ G.ρ (Str.ofString "k") = some (.int (k : Nat)) ∧ G.mt (Str.ofString "numbers") = some (a, acc.map Dat.int) ∧ acc ++ numsR n (n - k) = numsR n n ∧ acc.length ≤ n

theorem numsR_any {f g r : Nat} (hf : r ≤ f) (hg : r ≤ g) : numsR f r = numsR g r := by rw [numsR_eq f r hf, numsR_eq g r hg]

noncomputable def wBody : Stmt → List Stmt
  | .While _ b _ _ => b
  | _ => []

section
variable {F : Fm} {s : Shared}

/-- what the turn's size is -/
noncomputable def sizeOf (r : Nat) : Nat := if r = 2 then 1 else 3

theorem Ev.size (o : ∀ y, F.env.kindOf y = (scopeOf 67).names.lookup y) {n k : Nat} (hk : k < n) (hn : n ≤ 1000) {tab : Addr} {D : List (PyData × PyData)} (hT : TabOk F tab D) (gT : F.T.G (Str.ofString "EXACT_TOKEN_TYPES") = some (.ref tab)) (gM : F.T.G (Str.ofString "max") = some (.builtin "max")) (hD : TabD D)
    (rR : F.ρ (Str.ofString "row") = some (.str (dotS n))) (rK : F.ρ (Str.ofString "k") = some (.int (k : Nat))) :
    Ev F (match nth (wBody (nth (bodyOf 67) 2)) 0 with | .Assign _ v _ => v | _ => .Constant .none 0 ⟨0, 0, 0, 0⟩) (.int (sizeOf (n - k) : Nat)) := by
  have kR : F.env.kindOf (Str.ofString "row") = some .cell := (o _).trans (by decide +kernel)
  have kK : F.env.kindOf (Str.ofString "k") = some .cell := (o _).trans (by decide +kernel)
  have kM : F.env.kindOf (Str.ofString "max") = some .globalImplicit := (o _).trans (by decide +kernel)
  -- the comprehension, by what it keeps
  have comp : ∀ (keep : Nat → Bool), (∀ j, j = 2 ∨ j = 3 → (Spec.lookup (.str (dotS (min j (n - k)))) D).isSome = keep j) →
      Ev F (match nth (wBody (nth (bodyOf 67) 2)) 0 with | .Assign _ (.Call _ [.BinOp _ _ c _] _ _) _ => c | _ => .Constant .none 0 ⟨0, 0, 0, 0⟩) (.list (((([Dat.int 2, Dat.int 3].map fun d => [d]).filter fun ds => match ds with | [.int i] => keep i.toNat | _ => false)).map fun ds => ds.headD .none)) := by
    intro keep hkeep
    refine Ev.comp (names := [Str.ofString "more"]) (Src.tuple (Ev.tuple (EvL.cons Ev.int (EvL.cons Ev.int EvL.nil))) rfl) (ScOk.mk2 rfl (by decide +kernel) (fun x hx => ?_) (by decide +kernel) (by decide +kernel)) (by decide) (by decide) (fun _ => rfl) ?_
    · have hx' : x ∈ [Str.ofString "k", Str.ofString "row"] := hx
      simp only [List.mem_cons, List.not_mem_nil, or_false] at hx'
      rcases hx' with rfl | rfl
      · exact .inl kK
      · exact .inl kR
    · intro ds hds H fr
      have hT' : TabOk H tab D := fun h hh => by rw [fr.prog, fr.w]; exact hT h (by rw [← fr.T]; exact hh)
      have kR' : H.env.kindOf (Str.ofString "row") = some .local ∨ H.env.kindOf (Str.ofString "row") = some .cell ∨ H.env.kindOf (Str.ofString "row") = some .free := .inr (fr.free _ (by decide +kernel))
      have kK' : H.env.kindOf (Str.ofString "k") = some .local ∨ H.env.kindOf (Str.ofString "k") = some .cell ∨ H.env.kindOf (Str.ofString "k") = some .free := .inr (fr.free _ (by decide +kernel))
      have kE' : H.env.kindOf (Str.ofString "EXACT_TOKEN_TYPES") = some .globalImplicit := fr.kind _ _ (by decide +kernel) (by decide)
      have kM' : H.env.kindOf (Str.ofString "more") = some .local := fr.kind _ _ (by decide +kernel) (by decide)
      have rR' : H.ρ (Str.ofString "row") = some (.str (dotS n)) := (fr.fr _ (by decide +kernel)).trans rR
      have rK' : H.ρ (Str.ofString "k") = some (.int (k : Nat)) := (fr.fr _ (by decide +kernel)).trans rK
      obtain ⟨j, hj, e⟩ : ∃ j : Nat, (j = 2 ∨ j = 3) ∧ ds = [.int (j : Int)] := by
        simp only [List.map_cons, List.map_nil, List.mem_cons, List.not_mem_nil, or_false] at hds
        rcases hds with hds | hds
        · exact ⟨2, .inl rfl, hds⟩
        · exact ⟨3, .inr rfl, hds⟩
      have rM' : H.ρ (Str.ofString "more") = some (Dat.int (j : Nat)) := fr.tgt 0 _ _ rfl (by rw [e]; rfl)
      have nK : ∀ {q}, Ev H (.Name (Str.ofString "k") q) (.int (k : Nat)) := Ev.name rK' kK' (by decide +kernel) (by decide +kernel)
      have nM : ∀ {q}, Ev H (.Name (Str.ofString "more") q) (.int (j : Nat)) := Ev.name rM' (.inl kM') (by decide +kernel) (by decide +kernel)
      have hsl : Txt.slice (dotS n) (some ((k : Nat) : Int)) (some ((k + j : Nat) : Int)) = dotS (min j (n - k)) := by rw [slice_dots _ _ _ (by omega)]; congr 2; omega
      have sl : ∀ {p q p1 p2 p3 p4 p5}, Ev H (.Subscript (.Name (Str.ofString "row") p1) (.Slice (some (.Name (Str.ofString "k") p2)) (some (.BinOp (.Name (Str.ofString "k") p3) .Add (.Name (Str.ofString "more") p4) p5)) none q) p) (.str (dotS (min j (n - k)))) := by
        intros
        rw [← hsl]
        exact Ev.sliceS (Ev.name rR' kR' (by decide +kernel) (by decide +kernel)) (EvP.so nK) (EvP.so (Ev.addN nK nM)) (by rw [dot_len]; exact Nat.le_trans hn (by decide))
      rw [e]
      refine ⟨.inr ⟨_, rfl, ?_⟩, fun _ => nM⟩
      show Tst H _ (keep ((j : Int).toNat))
      rw [Int.toNat_natCast, ← hkeep j hj]
      exact Tst.inTab hT' (by rw [fr.T]; exact gT) kE' (by decide +kernel) sl
  have big : ∀ (ns : List Int) (m : Nat), Ev F (match nth (wBody (nth (bodyOf 67) 2)) 0 with | .Assign _ (.Call _ [.BinOp _ _ c _] _ _) _ => c | _ => .Constant .none 0 ⟨0, 0, 0, 0⟩) (.list (ns.map Dat.int)) → ns.length ≤ 2 →
      ((1 :: ns)[argBest (fun i j => decide (((1 :: ns)[i]?).getD 0 > ((1 :: ns)[j]?).getD 0)) ((1 :: ns).length - 1)]?) = some (m : Int) →
      Ev F (match nth (wBody (nth (bodyOf 67) 2)) 0 with | .Assign _ v _ => v | _ => .Constant .none 0 ⟨0, 0, 0, 0⟩) (.int (m : Nat)) := fun ns m h hl hm => by
    refine Ev.max (ns := 1 :: ns) gM kM (by decide +kernel) (Ev.catL (a := [.int 1]) (b := ns.map Dat.int) (Ev.list (EvL.cons Ev.int EvL.nil)) h ?_) rfl (by simp) hm
    simp [sizeLine]; omega
  by_cases h1 : n - k = 1
  · have e : sizeOf (n - k) = 3 := by unfold sizeOf; rw [if_neg (by omega)]
    rw [e]
    refine big [2, 3] 3 (comp (fun _ => true) fun j hj => ?_) (by decide) (by decide +kernel)
    have : min j (n - k) = 1 := by omega
    rw [this, hD.d1]; rfl
  · by_cases h2 : n - k = 2
    · have e : sizeOf (n - k) = 1 := by unfold sizeOf; rw [if_pos h2]
      rw [e]
      refine big [] 1 (comp (fun _ => false) fun j hj => ?_) (by decide) (by decide +kernel)
      have : min j (n - k) = 2 := by omega
      rw [this, hD.d2]; rfl
    · have e : sizeOf (n - k) = 3 := by unfold sizeOf; rw [if_neg h2]
      rw [e]
      refine big [3] 3 (comp (fun j => j == 3) fun j hj => ?_) (by decide) (by decide +kernel)
      rcases hj with rfl | rfl
      · have : min 2 (n - k) = 2 := by omega
        rw [this, hD.d2]; rfl
      · have : min 3 (n - k) = 3 := by omega
        rw [this, hD.d3]; rfl
end
end Mine

end

section
open PySem PySem.W PyProof.Rows
set_option maxRecDepth 100000
set_option Elab.async false
set_option linter.unusedVariables false
namespace Mine

noncomputable def valOf (r : Nat) : Int := if r ≥ 3 then 52 else 23
theorem numsR_len : ∀ (f n : Nat), (numsR f n).length ≤ n
  | 0, n => by simp [numsR]
  | f + 1, 0 => by simp [numsR]
  | f + 1, 1 => by simp [numsR]
  | f + 1, 2 => by
    have := numsR_len f 1
    simp [numsR]; omega
  | f + 1, r + 3 => by
    have := numsR_len f r
    simp [numsR]; omega
theorem numsR_zero (f : Nat) : numsR f 0 = [] := by cases f <;> rfl
theorem numsR_step {n r : Nat} (h1 : 1 ≤ r) (h2 : r ≤ n) : numsR n r = valOf r :: numsR n (r - sizeOf r) := by
  have e := numsR_any (f := n) (g := r) (r := r) h2 (Nat.le_refl _)
  rw [e, numsR_any (f := n) (g := r) (r := r - sizeOf r) (by omega) (by omega)]
  match r, h1 with
  | 1, _ => rfl
  | 2, _ =>
    show numsR 2 2 = 23 :: numsR 2 1
    rfl
  | r + 3, _ =>
    have hv : valOf (r + 3) = 52 := by unfold valOf; rw [if_pos (by omega)]
    have hs : r + 3 - sizeOf (r + 3) = r := by unfold sizeOf; rw [if_neg (by omega)]; omega
    rw [hv, hs]
    show 52 :: numsR (r + 2) r = 52 :: numsR (r + 3) r
    rw [numsR_any (f := r + 2) (g := r + 3) (by omega) (by omega)]

section
variable {prog : Program} {w : World} {T : TopT}
set_option maxHeartbeats 1000000 in
theorem cn_numbers (K : FnAt T 67 [Str.ofString "row"] (Str.ofString "_law_numbers")) {tab : Addr} {D : List (PyData × PyData)} (hT : ∀ h, T.In h → StrTab prog w h tab D) (gT : T.G (Str.ofString "EXACT_TOKEN_TYPES") = some (.ref tab)) (gM : T.G (Str.ofString "max") = some (.builtin "max")) (gLen : T.G (Str.ofString "len") = some (.builtin "len")) (hD : TabD D)
    (n : Nat) (hn : n ≤ 1000) : CnG prog w T 1 (Str.ofString "_law_numbers") [.str (dotS n)] (.list ((numsR n n).map Dat.int)) :=
  CnG.intro K [Str.ofString "k"] [Str.ofString "numbers"] rfl rfl rfl fun F R s o => by
    obtain ⟨e1, e2, e3, en, kind, scope, ρ, mt, wc, wm, pin, gpin⟩ := R
    subst e1 e2 e3
    have kR : F.env.kindOf (Str.ofString "row") = some .cell := (kind _).trans (by decide +kernel)
    have kK : F.env.kindOf (Str.ofString "k") = some .cell := (kind _).trans (by decide +kernel)
    have kN : F.env.kindOf (Str.ofString "numbers") = some .local := (kind _).trans (by decide +kernel)
    have kS : F.env.kindOf (Str.ofString "size") = some .local := (kind _).trans (by decide +kernel)
    have kL : F.env.kindOf (Str.ofString "len") = some .globalImplicit := (kind _).trans (by decide +kernel)
    have kE : F.env.kindOf (Str.ofString "EXACT_TOKEN_TYPES") = some .globalImplicit := (kind _).trans (by decide +kernel)
    have hint : interactive F.env = false := by unfold interactive; rw [scope]; rfl
    have rR : F.ρ (Str.ofString "row") = some (.str (dotS n)) := (ρ _).trans rfl
    refine xnil2 o (.inl kN) fun s1 a hbase haX o1 => ?_
    refine xassign o1 Ev.int (.inr ⟨kK, by show Str.ofString "k" ∈ F.wc; rw [wc]; exact List.mem_cons_self⟩) (by with_unfolding_all rfl) fun s2 o2 => ?_
    generalize hF2 : ((F.addX a).own (Str.ofString "numbers") a []).set (Str.ofString "k") (.int 0) = F2 at o2
    have F2env : F2.env = F.env := by rw [← hF2]; rfl
    have F2T : F2.T = F.T := by rw [← hF2]; rfl
    have F2prog : F2.prog = F.prog := by rw [← hF2]; rfl
    have F2w : F2.w = F.w := by rw [← hF2]; rfl
    have F2base : F2.base = F.base := by rw [← hF2]; rfl
    have F2X : F2.X = a :: F.X := by rw [← hF2]; rfl
    have F2wc : F2.wc = [Str.ofString "k"] := by rw [← hF2]; exact wc
    have F2wm : F2.wm = [Str.ofString "numbers"] := by rw [← hF2]; exact wm
    have r2R : F2.ρ (Str.ofString "row") = some (.str (dotS n)) := by
      rw [← hF2]
      show upd (upd F.ρ (Str.ofString "numbers") none) (Str.ofString "k") (some (.int 0)) (Str.ofString "row") = _
      rw [upd_other (by decide +kernel), upd_other (by decide +kernel)]; exact rR
    have r2K : F2.ρ (Str.ofString "k") = some (.int ((0 : Nat) : Int)) := by
      rw [← hF2]
      show upd (upd F.ρ (Str.ofString "numbers") none) (Str.ofString "k") (some (.int 0)) (Str.ofString "k") = _
      rw [upd_self]; rfl
    have r2N : F2.mt (Str.ofString "numbers") = some (a, ([] : List Int).map Dat.int) := by
      rw [← hF2]
      show upd (upd F.mt (Str.ofString "numbers") (some (a, []))) (Str.ofString "k") none (Str.ofString "numbers") = _
      rw [upd_other (by decide +kernel), upd_self]; rfl
    refine ex_while (NumFam F2 n a) (fun i G h => h.like) o2 n ⟨Like.refl _, rfl, r2R, 0, [], by omega, r2K, r2N, rfl, Nat.zero_le _⟩ fun m G hG => ?_
    have LG := hG.like
    obtain ⟨k, acc, hm, gK, gN, hacc, hal⟩ := hG.st
    have Ekind : ∀ y, G.env.kindOf y = (scopeOf 67).names.lookup y := fun y => by rw [LG.env, F2env]; exact kind y
    have kR' : G.env.kindOf (Str.ofString "row") = some .cell := (Ekind _).trans (by decide +kernel)
    have kK' : G.env.kindOf (Str.ofString "k") = some .cell := (Ekind _).trans (by decide +kernel)
    have kN' : G.env.kindOf (Str.ofString "numbers") = some .local := (Ekind _).trans (by decide +kernel)
    have kS' : G.env.kindOf (Str.ofString "size") = some .local := (Ekind _).trans (by decide +kernel)
    have kL' : G.env.kindOf (Str.ofString "len") = some .globalImplicit := (Ekind _).trans (by decide +kernel)
    have kE' : G.env.kindOf (Str.ofString "EXACT_TOKEN_TYPES") = some .globalImplicit := (Ekind _).trans (by decide +kernel)
    have GT : G.T = F.T := LG.T.trans F2T
    have hT' : TabOk G tab D := fun h hh => by rw [LG.prog, LG.w, F2prog, F2w]; exact hT h (by rw [← GT]; exact hh)
    have hwm' : Str.ofString "numbers" ∈ G.wm := by rw [LG.wm, F2wm]; exact List.mem_cons_self
    have hwc' : Str.ofString "k" ∈ G.wc := by rw [LG.wc, F2wc]; exact List.mem_cons_self
    have hint' : interactive G.env = false := by rw [LG.env, F2env]; exact hint
    have hlt : decide (((k : Nat) : Int) < ((dotS n).length : Int)) = decide (k < n) := by rw [dot_len]; simp
    refine ⟨decide (k < n), ?_, fun hb s3 o3 => ?_, fun hb s3 o3 => ?_⟩
    · rw [← hlt]
      exact Tst.cmp (Ev.name_cell gK kK' (by decide +kernel)) (Ev.lenS (by rw [GT]; exact gLen) kL' (by decide +kernel) (Ev.name_cell hG.row kR' (by decide +kernel)) (by rw [dot_len]; exact Nat.le_trans hn (by decide))) CmpR.lt (by with_unfolding_all rfl)
    · have hkn : k < n := of_decide_eq_true hb
      rw [← LG.prog, ← LG.w, ← LG.A, ← LG.env]
      refine xassign o3 (Ev.size Ekind hkn hn hT' (by rw [GT]; exact gT) (by rw [GT]; exact gM) hD hG.row gK) (.inl kS') (by with_unfolding_all rfl) fun s4 o4 => ?_
      have hn4 : (G.set (Str.ofString "size") (.int (sizeOf (n - k) : Nat))).mt (Str.ofString "numbers") = some (a, acc.map Dat.int) := (set_mt (by decide +kernel)).trans gN
      have rK4 : (G.set (Str.ofString "size") (.int (sizeOf (n - k) : Nat))).ρ (Str.ofString "k") = some (.int (k : Nat)) := (set_other (by decide +kernel)).trans gK
      have rR4 : (G.set (Str.ofString "size") (.int (sizeOf (n - k) : Nat))).ρ (Str.ofString "row") = some (.str (dotS n)) := (set_other (by decide +kernel)).trans hG.row
      have rS4 : (G.set (Str.ofString "size") (.int (sizeOf (n - k) : Nat))).ρ (Str.ofString "size") = some (.int (sizeOf (n - k) : Nat)) := set_self
      have hsl : Txt.slice (dotS n) (some ((k : Nat) : Int)) (some ((k + sizeOf (n - k) : Nat) : Int)) = dotS (min (sizeOf (n - k)) (n - k)) := by rw [slice_dots _ _ _ (by omega)]; congr 2; omega
      have hval : natD ((Spec.lookup (.str (dotS (min (sizeOf (n - k)) (n - k)))) D).getD (.int (-1))) = some (.int (valOf (n - k))) := by
        by_cases h1 : n - k = 1
        · have : min (sizeOf (n - k)) (n - k) = 1 := by rw [h1]; rfl
          rw [this, hD.d1, h1]; rfl
        · by_cases h2 : n - k = 2
          · have : min (sizeOf (n - k)) (n - k) = 1 := by rw [h2]; rfl
            rw [this, hD.d1, h2]; rfl
          · have h3 : sizeOf (n - k) = 3 := by unfold sizeOf; rw [if_neg h2]
            have : min (sizeOf (n - k)) (n - k) = 3 := by rw [h3]; omega
            have hv : valOf (n - k) = 52 := by unfold valOf; rw [if_pos (by omega)]
            rw [this, hD.d3, hv]; rfl
      refine xappend o4 hn4 hwm' (.inl kN') (by decide +kernel) (by decide +kernel) (Ev.getTab2 (F := G.set (Str.ofString "size") (.int (sizeOf (n - k) : Nat))) (D := D) (m := -1) hT' (by show G.T.G _ = _; rw [GT]; exact gT) kE' (by decide +kernel) rfl rfl rfl rfl
        (Ev.sliceS (Ev.name_cell rR4 kR' (by decide +kernel)) (EvP.so (Ev.name_cell rK4 kK' (by decide +kernel))) (EvP.so (Ev.addN (Ev.name_cell rK4 kK' (by decide +kernel)) (Ev.name_local rS4 kS' (by decide +kernel)))) (by rw [dot_len]; exact Nat.le_trans hn (by decide)))
        (Ev.neg Ev.int) (by rw [hsl]; exact hval)) ?_ hint' rfl rfl fun s5 o5 => ?_
      · rw [List.length_map]; exact Nat.lt_of_le_of_lt (Nat.le_trans hal hn) (by decide)
      · refine xaugI o5 rK4 (.inr kK') (Ev.name_local rS4 kS' (by decide +kernel)) (.inr ⟨kK', hwc'⟩) fun s6 o6 => ?_
        refine wpAny_execs_nil ⟨n - (k + sizeOf (n - k)), ((G.set (Str.ofString "size") (.int (sizeOf (n - k) : Nat))).app (Str.ofString "numbers") a (acc.map Dat.int ++ [Dat.int (valOf (n - k))])).set (Str.ofString "k") (.int ((k : Int) + (sizeOf (n - k) : Nat))), ?_, ⟨⟨LG.prog, LG.w, LG.T, LG.n, LG.A, LG.env, LG.base, LG.wc, LG.wm, LG.pin, LG.gpin⟩, hG.X, ?_, k + sizeOf (n - k), acc ++ [valOf (n - k)], rfl, ?_, ?_, ?_, ?_⟩, o6⟩
        · have : 1 ≤ sizeOf (n - k) := by unfold sizeOf; split <;> omega
          omega
        · show upd (upd G.ρ (Str.ofString "size") (some (.int (sizeOf (n - k) : Nat)))) (Str.ofString "k") (some (.int ((k : Int) + (sizeOf (n - k) : Nat)))) (Str.ofString "row") = _
          rw [upd_other (by decide +kernel)]; exact rR4
        · show upd (upd G.ρ (Str.ofString "size") (some (.int (sizeOf (n - k) : Nat)))) (Str.ofString "k") (some (.int ((k : Int) + (sizeOf (n - k) : Nat)))) (Str.ofString "k") = _
          rw [upd_self, Int.natCast_add]
        · show upd (upd (upd G.mt (Str.ofString "size") none) (Str.ofString "numbers") (some (a, acc.map Dat.int ++ [Dat.int (valOf (n - k))]))) (Str.ofString "k") none (Str.ofString "numbers") = _
          rw [upd_other (by decide +kernel), upd_self, List.map_append]; rfl
        · rw [← hacc, List.append_assoc, numsR_step (r := n - k) (by omega) (by omega)]
          congr 2
          rw [Nat.sub_sub]; rfl
        · have h5 := congrArg List.length hacc
          have h6 := numsR_len n n
          have h7 := numsR_step (n := n) (r := n - k) (by omega) (by omega)
          rw [h7] at h5
          simp at h5 ⊢
          omega
    · have hkn : ¬ k < n := of_decide_eq_false hb
      have h0 : n - k = 0 := by omega
      rw [h0, numsR_zero, List.append_nil] at hacc
      rw [hacc] at gN
      rw [← LG.prog, ← LG.w, ← LG.A, ← LG.env]
      refine xretM (X := F.X) o3 gN (.inl kN') (by decide +kernel) (by decide +kernel) (fun b hb => by rw [hG.X, F2X]; exact List.mem_cons_of_mem _ hb) haX fun v s4 o4 r => ⟨v, rfl, ?_, r⟩
      have := o4.kp
      rw [LG.base, F2base] at this
      exact this
end
end Mine

end

section
open PySem PySem.W PyProof.Rows
set_option maxRecDepth 100000
set_option Elab.async false
set_option linter.unusedVariables false
namespace Mine
open Builtin Builtin.Str StrLaws

noncomputable def occF (x sub : Str) (hi : Nat) : (fuel i free lim : Nat) → List Nat
  | 0, _, _, _ => []
  | fuel + 1, i, free, lim => if ((0 < lim ∧ free ≤ i) ∧ i + sub.length ≤ hi) ∧ subAt x sub i = true then i :: occF x sub hi fuel (i + 1) (i + sub.length) (lim - 1) else occF x sub hi fuel (i + 1) free lim
theorem occF_eq (x sub : Str) (hi limit : Nat) : ∀ (fuel i free : Nat) (acc : Array Nat), acc.size ≤ limit →
    (forIn (List.range' i fuel) (acc, free) (occBody x sub hi limit)).run.fst.toList = acc.toList ++ occF x sub hi fuel i free (limit - acc.size)
  | 0, i, free, acc, h => by simp [occF]
  | fuel + 1, i, free, acc, h => by
    rw [List.range'_succ, List.forIn_cons]
    unfold occBody
    unfold occF
    by_cases hc : ((acc.size < limit ∧ free ≤ i) ∧ i + sub.length ≤ hi) ∧ subAt x sub i = true
    · rw [if_pos hc, if_pos (by refine ⟨⟨⟨?_, hc.1.1.2⟩, hc.1.2⟩, hc.2⟩; have := hc.1.1.1; omega)]
      have ih := occF_eq x sub hi limit fuel (i + 1) (i + sub.length) (acc.push i) (by have := hc.1.1.1; simp; omega)
      have e : limit - (acc.push i).size = limit - acc.size - 1 := by simp; omega
      rw [e] at ih
      show (forIn (List.range' (i + 1) fuel) (acc.push i, i + sub.length) (occBody x sub hi limit)).run.fst.toList = _
      rw [ih]; simp
    · rw [if_neg hc, if_neg (by intro h'; apply hc; refine ⟨⟨⟨?_, h'.1.1.2⟩, h'.1.2⟩, h'.2⟩; have := h'.1.1.1; omega)]
      exact occF_eq x sub hi limit fuel (i + 1) free acc h
theorem occ_is (x sub : Str) (lo hi limit : Nat) : occurrences x sub lo hi limit = occF x sub hi (hi + 1 - lo) lo lo limit := by
  rw [occ_eq, occF_eq x sub hi limit _ _ _ #[] (by simp)]; simp

noncomputable def partsF (x : Str) (w : Nat) : Nat → List Nat → List Str
  | st, [] => [strSub x st x.length]
  | st, c :: cs => strSub x st c :: partsF x w (c + w) cs
theorem partsF_eq (x : Str) (w : Nat) : ∀ (cs : List Nat) (st : Nat), ((st :: cs.map (· + w)).zip (cs ++ [x.length])).map (fun (i, j) => strSub x i j) = partsF x w st cs
  | [], st => rfl
  | c :: cs, st => by
    rw [List.map_cons, List.cons_append, List.zip_cons_cons, List.map_cons, partsF_eq x w cs (c + w)]; rfl
theorem parts_is (x : Str) (w : Nat) (cs : List Nat) : partsBetween x cs w = partsF x w 0 cs := partsF_eq x w cs 0

/-- a text parted, sign by sign -/
noncomputable def cutL (sep : List Nat) : List Nat → List Nat → (skip lim : Nat) → List (List Nat)
  | [], acc, _, _ => [acc]
  | _ :: r, acc, s + 1, lim => cutL sep r acc s lim
  | c :: r, acc, 0, lim => if 0 < lim ∧ sep <+: (c :: r) then acc :: cutL sep r [] (sep.length - 1) (lim - 1) else cutL sep r (acc ++ [c]) 0 lim

theorem subAt_iff {l sep : List Nat} (hs : sep ≠ []) (i : Nat) : (i + sep.length ≤ l.length ∧ subAt ⟨l.toArray⟩ ⟨sep.toArray⟩ i = true) ↔ sep <+: l.drop i := by
  unfold subAt
  have hlen : (⟨sep.toArray⟩ : Str).length = sep.length := by simp [Str.length]
  have h0 : 0 < sep.length := by
    cases sep with
    | nil => exact absurd rfl hs
    | cons a r => simp
  rw [hlen]
  constructor
  · rintro ⟨h1, h2⟩
    have h3 : (cut l i (i + sep.length)).toArray = sep.toArray := by
      have := beq_iff_eq.mp h2
      rw [← cut_arr]; exact this
    have h4 : cut l i (i + sep.length) = sep := by simpa using h3
    unfold cut at h4
    rw [Nat.add_sub_cancel_left] at h4
    rw [← h4]
    exact List.take_prefix _ _
  · intro h
    have h1 := h.length_le
    rw [List.length_drop] at h1
    have h5 : (l.drop i).take sep.length = sep := (List.prefix_iff_eq_take.mp h).symm
    refine ⟨by omega, ?_⟩
    rw [beq_iff_eq]
    show l.toArray.extract i (i + sep.length) = sep.toArray
    rw [cut_arr]
    unfold cut
    rw [Nat.add_sub_cancel_left, h5]

theorem cut_snoc {l : List Nat} {st p : Nat} (h : st ≤ p) (hp : p < l.length) : cut l st (p + 1) = cut l st p ++ [l.toArray.getD p 0] := by
  unfold cut
  have e : p + 1 - st = (p - st) + 1 := by omega
  rw [e, List.take_add_one]
  congr 1
  rw [List.getElem?_drop, show st + (p - st) = p by omega, List.getElem?_eq_getElem hp]
  simp [hp]
theorem cut_none {l : List Nat} {a b : Nat} (h : b ≤ a) : cut l a b = [] := by
  unfold cut
  rw [show b - a = 0 by omega]; simp
theorem strSub_cut (l : List Nat) (i j : Nat) : strSub ⟨l.toArray⟩ i j = ⟨(cut l i j).toArray⟩ := by
  unfold strSub
  show (⟨l.toArray.extract i j⟩ : Str) = _
  rw [cut_arr]

theorem parts_go {l sep : List Nat} (hs : sep ≠ []) : ∀ (fuel p st free lim : Nat), fuel = l.length + 1 - p → p ≤ l.length → (free ≤ p → st ≤ p) → (p < free → st = free) →
    partsF ⟨l.toArray⟩ sep.length st (occF ⟨l.toArray⟩ ⟨sep.toArray⟩ l.length fuel p free lim) = (cutL sep (l.drop p) (cut l st p) (free - p) lim).map fun z => (⟨z.toArray⟩ : Str)
  | 0, p, st, free, lim, hf, hp, _, _ => by omega
  | fuel + 1, p, st, free, lim, hf, hp, h1, h2 => by
    have hlen : (⟨sep.toArray⟩ : Str).length = sep.length := by simp [Str.length]
    have hl : (⟨l.toArray⟩ : Str).length = l.length := by simp [Str.length]
    have h0 : 0 < sep.length := by
      cases sep with
      | nil => exact absurd rfl hs
      | cons a r => simp
    unfold occF
    rw [hlen]
    by_cases hpl : p = l.length
    · subst hpl
      have hfu : fuel = 0 := by omega
      subst hfu
      rw [if_neg (by intro h; have := h.1.2; omega)]
      rw [List.drop_length]
      show [strSub ⟨l.toArray⟩ st (⟨l.toArray⟩ : Str).length] = _
      rw [hl, strSub_cut]
      unfold cutL; rfl
    · have hp' : p < l.length := by omega
      have hd := drop_get hp'
      by_cases hfr : free ≤ p
      · have hsk : free - p = 0 := by omega
        rw [hsk]
        by_cases hc : 0 < lim ∧ sep <+: l.drop p
        · have hsub := (subAt_iff hs p).mpr hc.2
          rw [if_pos ⟨⟨⟨hc.1, hfr⟩, hsub.1⟩, hsub.2⟩]
          have e : cutL sep (l.drop p) (cut l st p) 0 lim = cut l st p :: cutL sep (l.drop (p + 1)) [] (sep.length - 1) (lim - 1) := by
            have hc' := hc
            rw [hd] at hc' ⊢
            rw [cutL, if_pos hc']
          rw [e, List.map_cons]
          show strSub ⟨l.toArray⟩ st p :: partsF ⟨l.toArray⟩ sep.length (p + sep.length) _ = _
          rw [strSub_cut]
          congr 1
          have ih := parts_go (l := l) hs fuel (p + 1) (p + sep.length) (p + sep.length) (lim - 1) (by omega) (by omega) (fun h => h) (fun _ => rfl)
          rw [cut_none (by omega), show p + sep.length - (p + 1) = sep.length - 1 by omega] at ih
          exact ih
        · rw [if_neg (by rintro ⟨⟨⟨g1, g2⟩, g3⟩, g4⟩; exact hc ⟨g1, (subAt_iff hs p).mp ⟨g3, g4⟩⟩)]
          have e : cutL sep (l.drop p) (cut l st p) 0 lim = cutL sep (l.drop (p + 1)) (cut l st p ++ [l.toArray.getD p 0]) 0 lim := by
            have hc' := hc
            rw [hd] at hc' ⊢
            rw [cutL, if_neg hc']
          rw [e, ← cut_snoc (h1 hfr) hp']
          have ih := parts_go (l := l) hs fuel (p + 1) st free lim (by omega) (by omega) (fun _ => by have := h1 hfr; omega) (fun h => by omega)
          rw [show free - (p + 1) = 0 by omega] at ih
          exact ih
      · rw [if_neg (by rintro ⟨⟨⟨g1, g2⟩, g3⟩, g4⟩; exact hfr g2)]
        have hst := h2 (by omega)
        subst hst
        have hsk : st - p = (st - (p + 1)) + 1 := by omega
        rw [hsk, hd, cutL, cut_none (by omega)]
        have ih := parts_go (l := l) hs fuel (p + 1) st st lim (by omega) (by omega) (fun h => h) (fun _ => rfl)
        rw [cut_none (by omega)] at ih
        exact ih

theorem parts_cut {l sep : List Nat} (hs : sep ≠ []) (lim : Nat) : partsBetween ⟨l.toArray⟩ (occurrences ⟨l.toArray⟩ ⟨sep.toArray⟩ 0 (⟨l.toArray⟩ : Str).length lim) (⟨sep.toArray⟩ : Str).length = (cutL sep l [] 0 lim).map fun z => (⟨z.toArray⟩ : Str) := by
  have hlen : (⟨sep.toArray⟩ : Str).length = sep.length := by simp [Str.length]
  have hl : (⟨l.toArray⟩ : Str).length = l.length := by simp [Str.length]
  rw [hlen, hl, parts_is, occ_is]
  have := parts_go (l := l) hs (l.length + 1 - 0) 0 0 0 lim (by omega) (by omega) (fun h => h) (fun _ => rfl)
  simpa [cut] using this

/-! how a text is parted -/
theorem cut_skip {sep : List Nat} {h : Nat} {t : List Nat} (hs : sep = h :: t) {v : List Nat} {lim : Nat} : ∀ {u acc : List Nat}, (∀ c ∈ u, c ≠ h) → cutL sep (u ++ v) acc 0 lim = cutL sep v (acc ++ u) 0 lim
  | [], acc, _ => by simp
  | c :: u, acc, hu => by
    have hc := hu c List.mem_cons_self
    rw [List.cons_append, cutL, if_neg (by rintro ⟨_, hp⟩; subst hs; exact hc (List.cons_prefix_cons.mp hp).1.symm)]
    rw [cut_skip hs fun d hd => hu d (List.mem_cons_of_mem _ hd)]
    simp
theorem cut_over {sep : List Nat} {v : List Nat} {lim : Nat} : ∀ {u : List Nat}, cutL sep (u ++ v) [] u.length lim = cutL sep v [] 0 lim
  | [] => rfl
  | c :: u => by rw [List.cons_append, List.length_cons, cutL]; exact cut_over
theorem cut_hit {sep : List Nat} {h : Nat} {t : List Nat} (hs : sep = h :: t) {v acc : List Nat} {lim : Nat} (hl : 0 < lim) : cutL sep (sep ++ v) acc 0 lim = acc :: cutL sep v [] 0 (lim - 1) := by
  subst hs
  rw [List.cons_append, cutL, if_pos ⟨hl, by rw [← List.cons_append]; exact List.prefix_append _ _⟩]
  congr 1
  exact cut_over
theorem cut_end {sep acc : List Nat} {lim : Nat} : cutL sep [] acc 0 lim = [acc] := rfl
theorem cut_rest {sep v acc : List Nat} : cutL sep v acc 0 0 = [acc ++ v] := by
  induction v generalizing acc with
  | nil => simp [cutL]
  | cons c v ih => rw [cutL, if_neg (by rintro ⟨h, _⟩; omega), ih]; simp
theorem cut_count {sep : List Nat} : ∀ (v acc : List Nat) (sk lim : Nat), (cutL sep v acc sk lim).length ≤ lim + 1
  | [], acc, sk, lim => by simp [cutL]
  | c :: v, acc, sk + 1, lim => by rw [cutL]; exact cut_count v acc sk lim
  | c :: v, acc, 0, lim => by
    rw [cutL]
    split
    · rename_i h
      have := cut_count (sep := sep) v [] (sep.length - 1) (lim - 1)
      rw [List.length_cons]; omega
    · exact cut_count v _ 0 lim
end Mine

end

section
open PySem PySem.W PyProof.Rows
set_option maxRecDepth 100000
set_option Elab.async false
set_option linter.unusedVariables false
namespace Mine

noncomputable def crl : List Nat := [13, 10]
noncomputable def dots (n : Nat) : List Nat := List.replicate n 46
noncomputable def endsL : Nat → List Nat
  | 0 => [10]
  | 1 => [13]
  | _ => [13, 10]
noncomputable def hidL : Nat → List Nat
  | 0 => []
  | 1 => [46]
  | 2 => [92, 34]
  | _ => [10, 46]
noncomputable def tkL (b : Bool) : List Nat := if b = true then [39] else []
noncomputable def markL (tk : Bool) (h : Nat) : List Nat := [34] ++ hidL h ++ tkL tk ++ [34]
noncomputable def partL (own : Nat) (tk : Nat → Bool) (h e d : Nat → Nat) (k : Nat) : List Nat := (if k = own then [] else markL (tk k) (h k)) ++ dots (d k) ++ endsL (e k)
noncomputable def typedL (head : List Nat) (e0 own : Nat) (tk : Nat → Bool) (h e d : Nat → Nat) : List Nat := head ++ (endsL e0 ++ ([13] ++ (partL own tk h e d 0 ++ (partL own tk h e d 1 ++ partL own tk h e d 2))))

noncomputable def fhid : Nat → List Nat
  | 0 => []
  | 1 => [46]
  | 2 => [92, 34]
  | _ => [13, 10, 46]
noncomputable def fmark (tk : Bool) (h : Nat) : List Nat := [34] ++ fhid h ++ tkL tk ++ [34]
noncomputable def fpart (own : Nat) (tk : Nat → Bool) (h d : Nat → Nat) (k : Nat) : List Nat := (if k = own then [] else fmark (tk k) (h k)) ++ dots (d k) ++ crl
noncomputable def qhid : Nat → List Nat
  | 0 => []
  | 1 => [46]
  | 2 => [92, 34]
  | _ => [13, 10, 46, 46]
noncomputable def qmark (tk : Bool) (h : Nat) : List Nat := [34] ++ qhid h ++ tkL tk ++ [34]
noncomputable def qpart (own : Nat) (tk : Nat → Bool) (h d : Nat → Nat) (k : Nat) : List Nat := (if k = own then [] else qmark (tk k) (h k)) ++ dots (d k) ++ crl
/-- what is sent behind the head -/
noncomputable def restQ (own : Nat) (tk : Nat → Bool) (h d : Nat → Nat) : List Nat := crl ++ (crl ++ (qpart own tk h d 0 ++ (qpart own tk h d 1 ++ qpart own tk h d 2)))

theorem fix_ends {i : Nat} {v : List Nat} (hv : v.head? ≠ some 10) : fixL (endsL i ++ v) = crl ++ fixL v := by
  match i with
  | 0 => exact fix_lf v
  | 1 => exact fix_cr hv
  | i + 2 => exact fix_crlf v
theorem fix_dots {n : Nat} {v : List Nat} : fixL (dots n ++ v) = dots n ++ fixL v :=
  fix_skip fun c hc => by rw [List.eq_of_mem_replicate hc]; rfl
theorem fix_tk {b : Bool} {v : List Nat} : fixL (tkL b ++ v) = tkL b ++ fixL v := by
  refine fix_skip fun c hc => ?_
  cases b with
  | false => simp [tkL] at hc
  | true => simp [tkL] at hc; rw [hc]; rfl
theorem fix_hid {h : Nat} {v : List Nat} : fixL (hidL h ++ v) = fhid h ++ fixL v := by
  match h with
  | 0 => rfl
  | 1 => exact fix_one rfl
  | 2 => exact (fix_one rfl).trans (congrArg (92 :: ·) (fix_one rfl))
  | h + 3 => exact (fix_lf _).trans (congrArg (fun z => 13 :: 10 :: z) (fix_one rfl))
theorem fix_mark {tk : Bool} {h : Nat} {v : List Nat} : fixL (markL tk h ++ v) = fmark tk h ++ fixL v := by
  show fixL ([34] ++ hidL h ++ tkL tk ++ [34] ++ v) = [34] ++ fhid h ++ tkL tk ++ [34] ++ fixL v
  simp only [List.append_assoc]
  rw [List.singleton_append, fix_one rfl, fix_hid, fix_tk, List.singleton_append, fix_one rfl]
  simp
theorem part_head {own : Nat} {tk : Nat → Bool} {h e d : Nat → Nat} {k : Nat} {v : List Nat} (hd : ∀ k, 0 < d k) : (partL own tk h e d k ++ v).head? ≠ some 10 := by
  unfold partL
  split
  · have : d k = (d k - 1) + 1 := by have := hd k; omega
    rw [this, dots, List.replicate_succ]; simp
  · simp [markL]
theorem fix_part {own : Nat} {tk : Nat → Bool} {h e d : Nat → Nat} {k : Nat} {v : List Nat} (hv : v.head? ≠ some 10) : fixL (partL own tk h e d k ++ v) = fpart own tk h d k ++ fixL v := by
  unfold partL fpart
  split
  · simp only [List.nil_append, List.append_assoc]
    rw [fix_dots, fix_ends hv]
  · simp only [List.append_assoc]
    rw [fix_mark, fix_dots, fix_ends hv]
theorem fix_typed {head : List Nat} {e0 own : Nat} {tk : Nat → Bool} {h e d : Nat → Nat} (hh : ∀ c ∈ head, isNL c = false) (hd : ∀ k, 0 < d k) :
    fixL (typedL head e0 own tk h e d) = head ++ (crl ++ (crl ++ (fpart own tk h d 0 ++ (fpart own tk h d 1 ++ fpart own tk h d 2)))) := by
  unfold typedL
  rw [fix_skip hh, fix_ends (by simp)]
  have e1 : fixL ([13] ++ (partL own tk h e d 0 ++ (partL own tk h e d 1 ++ partL own tk h e d 2))) = crl ++ fixL (partL own tk h e d 0 ++ (partL own tk h e d 1 ++ partL own tk h e d 2)) := fix_cr (part_head hd)
  rw [e1, fix_part (part_head hd)]
  have e2 := fix_part (own := own) (tk := tk) (h := h) (e := e) (d := d) (k := 2) (v := []) (by simp)
  rw [List.append_nil] at e2
  have e3 := fix_part (own := own) (tk := tk) (h := h) (e := e) (d := d) (k := 1) (v := partL own tk h e d 2) (by have := part_head (own := own) (tk := tk) (h := h) (e := e) (k := 2) (v := []) hd; simpa using this)
  rw [e3, e2, fix_nil, List.append_nil]

/-! the second pattern -/
theorem q_skip {v : List Nat} : ∀ {u : List Nat}, (∀ c ∈ u, c ≠ 10) → quoteL false (u ++ v) = u ++ quoteL false v
  | [], _ => rfl
  | c :: u, h => by
    have hc : (c == 10) = false := by simpa using h c List.mem_cons_self
    rw [List.cons_append, quoteL, if_neg (by simp), hc, q_skip fun d hd => h d (List.mem_cons_of_mem _ hd)]; rfl
theorem q_crl {b : Bool} {v : List Nat} : quoteL b (crl ++ v) = crl ++ quoteL true v := by
  show quoteL b (13 :: 10 :: v) = 13 :: 10 :: quoteL true v
  rw [quoteL, if_neg (by simp), quoteL, if_neg (by simp)]; rfl
theorem q_one {b : Bool} {c : Nat} {v : List Nat} (h1 : c ≠ 46) (h2 : c ≠ 10) : quoteL b (c :: v) = c :: quoteL false v := by
  have hc : (c == 10) = false := by simpa using h2
  rw [quoteL, if_neg (by rintro ⟨_, h⟩; exact h1 h), hc]
theorem q_dot {v : List Nat} : quoteL true (46 :: v) = 46 :: 46 :: quoteL false v := by rw [quoteL, if_pos ⟨rfl, rfl⟩]
theorem q_dots {n : Nat} {v : List Nat} : quoteL false (dots n ++ v) = dots n ++ quoteL false v := q_skip fun c hc => by rw [List.eq_of_mem_replicate hc]; decide
theorem q_own {n : Nat} {v : List Nat} (hn : 0 < n) : quoteL true (dots n ++ v) = dots (n + 1) ++ quoteL false v := by
  have e : n = (n - 1) + 1 := by omega
  rw [e]
  show quoteL true (46 :: (dots (n - 1) ++ v)) = 46 :: 46 :: (dots (n - 1) ++ _)
  rw [q_dot, q_dots]
theorem q_tk {b : Bool} {v : List Nat} : quoteL false (tkL b ++ v) = tkL b ++ quoteL false v := by
  refine q_skip fun c hc => ?_
  cases b with
  | false => simp [tkL] at hc
  | true => simp [tkL] at hc; rw [hc]; decide
theorem q_hid {h : Nat} {v : List Nat} : quoteL false (fhid h ++ v) = qhid h ++ quoteL false v := by
  match h with
  | 0 => rfl
  | 1 => exact q_skip (u := [46]) (by decide)
  | 2 => exact q_skip (u := [92, 34]) (by decide)
  | h + 3 =>
    show quoteL false (crl ++ (46 :: v)) = _
    rw [q_crl, q_dot]; rfl
theorem q_mark {b tk : Bool} {h : Nat} {v : List Nat} : quoteL b (fmark tk h ++ v) = qmark tk h ++ quoteL false v := by
  show quoteL b ([34] ++ fhid h ++ tkL tk ++ [34] ++ v) = [34] ++ qhid h ++ tkL tk ++ [34] ++ quoteL false v
  simp only [List.append_assoc]
  rw [List.singleton_append, q_one (by decide) (by decide), q_hid, q_tk, List.singleton_append, q_one (by decide) (by decide)]
  simp
/-- the own row grows -/
noncomputable def grow (own : Nat) (d : Nat → Nat) (k : Nat) : Nat := d k + (if k = own then 1 else 0)
theorem q_part {own : Nat} {tk : Nat → Bool} {h d : Nat → Nat} {k : Nat} {v : List Nat} (hd : ∀ k, 0 < d k) : quoteL true (fpart own tk h d k ++ v) = qpart own tk h (grow own d) k ++ quoteL true v := by
  unfold fpart qpart grow
  by_cases hk : k = own
  · simp only [if_pos hk, List.nil_append, List.append_assoc]
    rw [q_own (hd k), q_crl]
  · simp only [if_neg hk, List.append_assoc, Nat.add_zero]
    rw [q_mark, q_dots, q_crl]
theorem q_head {head v : List Nat} (hh : ∀ c ∈ head, c ≠ 10 ∧ c ≠ 46) (b : Bool) : ∃ b', quoteL b (head ++ v) = head ++ quoteL b' v := by
  cases head with
  | nil => exact ⟨b, rfl⟩
  | cons c u =>
    have hc := hh c List.mem_cons_self
    refine ⟨false, ?_⟩
    rw [List.cons_append, q_one hc.2 hc.1, q_skip fun d hd => (hh d (List.mem_cons_of_mem _ hd)).1]; rfl
theorem sent_eq {head : List Nat} {e0 own : Nat} {tk : Nat → Bool} {h e d : Nat → Nat} (hh : ∀ c ∈ head, c ≠ 10 ∧ c ≠ 46 ∧ c ≠ 13) (hd : ∀ k, 0 < d k) :
    quoteL true (fixL (typedL head e0 own tk h e d)) = head ++ restQ own tk h (grow own d) := by
  rw [fix_typed (fun c hc => by have := hh c hc; unfold isNL; simp; omega) hd]
  obtain ⟨b', e1⟩ := q_head (v := crl ++ (crl ++ (fpart own tk h d 0 ++ (fpart own tk h d 1 ++ fpart own tk h d 2)))) (fun c hc => ⟨(hh c hc).1, (hh c hc).2.1⟩) true
  rw [e1, q_crl, q_crl, q_part hd, q_part hd]
  have e2 := q_part (own := own) (tk := tk) (h := h) (d := d) (k := 2) (v := []) hd
  rw [List.append_nil] at e2
  rw [e2]
  unfold restQ
  simp [quoteL]
end Mine

end

section
open PySem PySem.W PyProof.Rows
set_option maxRecDepth 100000
set_option Elab.async false
set_option linter.unusedVariables false
namespace Mine

/-- what stands without marks; q: within marks, e: behind a backslash -/
noncomputable def sl : List Nat → Bool → Bool → List Nat
  | [], _, _ => []
  | c :: r, q, e => (if q = true then [] else if c = 34 ∧ e = false then [] else [c]) ++ sl r (if c = 34 ∧ e = false then !q else q) (!e && c == 92)
noncomputable def sq : List Nat → Bool → Bool → Bool × Bool
  | [], q, e => (q, e)
  | c :: r, q, e => sq r (if c = 34 ∧ e = false then !q else q) (!e && c == 92)
theorem sl_app : ∀ (u v : List Nat) (q e : Bool), sl (u ++ v) q e = sl u q e ++ sl v (sq u q e).1 (sq u q e).2
  | [], v, q, e => rfl
  | c :: u, v, q, e => by
    rw [List.cons_append, sl, sl_app u v, sl, sq, List.append_assoc]
theorem sq_app : ∀ (u v : List Nat) (q e : Bool), sq (u ++ v) q e = sq v (sq u q e).1 (sq u q e).2
  | [], v, q, e => rfl
  | c :: u, v, q, e => by rw [List.cons_append, sq, sq_app u v, sq]

theorem slice_cut {x : Str} {a b : Nat} (h : a ≤ b) : (Txt.slice x (some (a : Int)) (some (b : Int))).cps.toList = cut x.cps.toList a b := by
  rw [txt_slice x a b h]; rfl
theorem slice_from {x : Str} {a : Nat} : (Txt.slice x (some (a : Int)) none).cps.toList = x.cps.toList.drop a := by
  rw [txt_slice_from]

noncomputable def flat (l : List Str) : List Nat := l.flatMap (·.cps.toList)
theorem flat_snoc (l : List Str) (y : Str) : flat (l ++ [y]) = flat l ++ y.cps.toList := by simp [flat]
theorem flat_slice {x : Str} {a b : Nat} {l : List Str} (h : a ≤ b) : flat (if a = b then l else l ++ [Txt.slice x (some (a : Int)) (some (b : Int))]) = flat l ++ cut x.cps.toList a b := by
  split
  · rename_i e
    subst e
    rw [cut_none (Nat.le_refl _), List.append_nil]
  · rw [flat_snoc, slice_cut h]

/-- the state of the stripping stands for what has been written -/
noncomputable def StOk (x : Str) (p : Nat) (st : StripSt) (q : Bool) (out : List Nat) : Prop :=
  match st.2.1 with
  | none => q = false ∧ st.1 ≤ p ∧ flat st.2.2 ++ cut x.cps.toList st.1 p = out
  | some o => q = true ∧ st.1 ≤ o ∧ o < p ∧ flat st.2.2 ++ cut x.cps.toList st.1 o = out

theorem strip_go {x : Str} : ∀ (r : List Nat) (p : Nat) (e q : Bool) (st : StripSt) (out : List Nat), x.cps.toList.drop p = r → p ≤ x.cps.size → (e = true → 0 < p) → StOk x p st q out →
    StOk x x.cps.size ((escs r p e).foldl (stripStep x) st) (sq r q e).1 (out ++ sl r q e)
  | [], p, e, q, st, out, hr, hp, he, h => by
    have hps : p = x.cps.size := by
      have := congrArg List.length hr
      simp at this; omega
    subst hps
    have e1 : (escs [] x.cps.size e).foldl (stripStep x) st = st := by
      cases e with
      | false => rfl
      | true =>
        show stripStep x st (x.cps.size - 1, [92]) = st
        unfold stripStep
        rw [if_neg (by simp)]
    rw [e1]
    show StOk x _ st q (out ++ [])
    rw [List.append_nil]; exact h
  | c :: r, p, e, q, st, out, hr, hp, he, h => by
    have hlt : p < x.cps.toList.length := by
      have := congrArg List.length hr
      simp at this ⊢; omega
    have hlt' : p < x.cps.size := by simpa using hlt
    have hd := drop_get hlt
    rw [hr] at hd
    have hcr := List.cons.inj hd
    have hr' : x.cps.toList.drop (p + 1) = r := hcr.2.symm
    have hcut : ∀ a, a ≤ p → cut x.cps.toList a (p + 1) = cut x.cps.toList a p ++ [c] := fun a ha => by rw [cut_snoc ha hlt, ← hcr.1]
    -- a sign that is no mark
    have plain : StOk x (p + 1) st q (out ++ (if q = true then [] else [c])) := by
      unfold StOk at h ⊢
      cases hop : st.2.1 with
      | none =>
        rw [hop] at h
        obtain ⟨h1, h2, h3⟩ := h
        refine ⟨h1, by omega, ?_⟩
        rw [hcut _ h2, ← List.append_assoc, h3, h1]; rfl
      | some o =>
        rw [hop] at h
        obtain ⟨h1, h2, h3, h4⟩ := h
        refine ⟨h1, h2, by omega, ?_⟩
        rw [h1, if_pos rfl, List.append_nil]; exact h4
    cases e with
    | true =>
      have e1 : escs (c :: r) p true = (p, [92, c]) :: escs r (p + 1) false := rfl
      rw [e1, List.foldl_cons]
      have e2 : stripStep x st (p, [92, c]) = st := by
        unfold stripStep
        rw [if_neg (by simp)]
      rw [e2]
      have ih := strip_go (x := x) r (p + 1) false q st _ hr' hlt' (by simp) plain
      have e3 : sl (c :: r) q true = (if q = true then [] else [c]) ++ sl r q false := by
        rw [sl]
        simp
      have e4 : sq (c :: r) q true = sq r q false := by rw [sq]; simp
      rw [e3, e4, ← List.append_assoc]
      exact ih
    | false =>
      by_cases h92 : c = 92
      · subst h92
        have e1 : escs (92 :: r) p false = escs r (p + 1) true := rfl
        rw [e1]
        have ih := strip_go (x := x) r (p + 1) true q st _ hr' hlt' (by omega) plain
        have e3 : sl (92 :: r) q false = (if q = true then [] else [92]) ++ sl r q true := by
          rw [sl]; simp
        have e4 : sq (92 :: r) q false = sq r q true := by rw [sq]; simp
        rw [e3, e4, ← List.append_assoc]
        exact ih
      · have e1 : escs (c :: r) p false = (p, [c]) :: escs r (p + 1) false := by
          show (if false = true then _ else if c = 92 then _ else _) = _
          rw [if_neg (by decide), if_neg h92]
        rw [e1, List.foldl_cons]
        by_cases h34 : c = 34
        · subst h34
          have e3 : sl (34 :: r) q false = sl r (!q) false := by
            rw [sl]; cases q <;> simp
          have e4 : sq (34 :: r) q false = sq r (!q) false := by rw [sq]; simp
          rw [e3, e4]
          have step : StOk x (p + 1) (stripStep x st (p, [34])) (!q) out := by
            unfold StOk at h
            cases hop : st.2.1 with
            | none =>
              rw [hop] at h
              obtain ⟨h1, h2, h3⟩ := h
              have e2 : stripStep x st (p, [34]) = (st.1, some p, st.2.2) := by
                unfold stripStep
                rw [if_pos rfl, hop]
              rw [e2]
              exact ⟨by rw [h1]; rfl, h2, by show p < p + 1; omega, h3⟩
            | some o =>
              rw [hop] at h
              obtain ⟨h1, h2, h3, h4⟩ := h
              have e2 : stripStep x st (p, [34]) = (p + 1, none, if st.1 = o then st.2.2 else st.2.2 ++ [Txt.slice x (some (st.1 : Int)) (some (o : Int))]) := by
                unfold stripStep
                rw [if_pos rfl, hop]
              rw [e2]
              refine ⟨by rw [h1]; rfl, Nat.le_refl _, ?_⟩
              show flat (if st.1 = o then st.2.2 else _) ++ cut x.cps.toList (p + 1) (p + 1) = out
              rw [cut_none (Nat.le_refl _), List.append_nil, flat_slice h2]
              exact h4
          exact strip_go (x := x) r (p + 1) false (!q) _ _ hr' hlt' (by simp) step
        · have e2 : stripStep x st (p, [c]) = st := by
            unfold stripStep
            rw [if_neg (by simpa using h34)]
          rw [e2]
          have ih := strip_go (x := x) r (p + 1) false q st _ hr' hlt' (by simp) plain
          have hb : (c == 92) = false := by simpa using h92
          have e3 : sl (c :: r) q false = (if q = true then [] else [c]) ++ sl r q false := by
            rw [sl, hb]
            simp [h34]
          have e4 : sq (c :: r) q false = sq r q false := by rw [sq, hb]; simp [h34]
          rw [e3, e4, ← List.append_assoc]
          exact ih

theorem strip_is {x : Str} (hq : (sq x.cps.toList false false).1 = false) : stripD x = sl x.cps.toList false false := by
  have h := strip_go (x := x) x.cps.toList 0 false false (0, none, []) [] rfl (Nat.zero_le _) (by simp) ⟨rfl, Nat.le_refl _, by simp [flat, cut]⟩
  rw [hq, List.nil_append] at h
  have hs : (escs x.cps.toList 0 false).foldl (stripStep x) (0, none, []) = stEnd x := rfl
  rw [hs] at h
  unfold StOk at h
  cases hop : (stEnd x).2.1 with
  | some o => rw [hop] at h; exact absurd h.1 (by simp)
  | none =>
    rw [hop] at h
    obtain ⟨_, h2, h3⟩ := h
    rw [← h3]
    unfold stripD pieces
    have hl : x.length = x.cps.size := rfl
    have hd : cut x.cps.toList (stEnd x).1 x.cps.size = x.cps.toList.drop (stEnd x).1 := by
      unfold cut
      rw [List.take_of_length_le (by simp)]
    split
    · show flat ((stEnd x).2.2 ++ [_]) = _
      rw [flat_snoc, slice_from, hd]
    · rename_i hn
      have : (stEnd x).1 = x.cps.size := by omega
      rw [hd, this, List.drop_of_length_le (by simp), List.append_nil]; rfl

/-! upon what is sent -/
theorem sl_dots {n : Nat} : sl (dots n) false false = dots n ∧ sq (dots n) false false = (false, false) := by
  induction n with
  | zero => exact ⟨rfl, rfl⟩
  | succ n ih =>
    have e : dots (n + 1) = 46 :: dots n := rfl
    rw [e, sl, sq]
    simp [ih]
theorem sl_crl : sl crl false false = crl ∧ sq crl false false = (false, false) := ⟨rfl, rfl⟩
theorem sl_qmark {tk : Bool} {h : Nat} : sl (qmark tk h) false false = [] ∧ sq (qmark tk h) false false = (false, false) := by
  match h with
  | 0 => cases tk <;> exact ⟨rfl, rfl⟩
  | 1 => cases tk <;> exact ⟨rfl, rfl⟩
  | 2 => cases tk <;> exact ⟨rfl, rfl⟩
  | h + 3 => cases tk <;> exact ⟨rfl, rfl⟩
theorem sl_part {own : Nat} {tk : Nat → Bool} {h d : Nat → Nat} {k : Nat} : sl (qpart own tk h d k) false false = dots (d k) ++ crl ∧ sq (qpart own tk h d k) false false = (false, false) := by
  unfold qpart
  have e0 : sl (if k = own then [] else qmark (tk k) (h k)) false false = [] ∧ sq (if k = own then [] else qmark (tk k) (h k)) false false = (false, false) := by
    split
    · exact ⟨rfl, rfl⟩
    · exact sl_qmark
  constructor
  · rw [sl_app, sl_app, sq_app, e0.1, e0.2]
    simp only [sl_dots.1, sl_dots.2, sl_crl.1]
    rfl
  · rw [sq_app, sq_app, e0.2]
    simp only [sl_dots.2, sl_crl.2]
noncomputable def plainQ (d : Nat → Nat) : List Nat := crl ++ (crl ++ (dots (d 0) ++ crl ++ (dots (d 1) ++ crl ++ (dots (d 2) ++ crl))))
theorem sl_rest {own : Nat} {tk : Nat → Bool} {h d : Nat → Nat} : sl (restQ own tk h d) false false = plainQ d ∧ (sq (restQ own tk h d) false false).1 = false := by
  unfold restQ plainQ
  constructor
  · rw [sl_app, sl_crl.1, sl_crl.2, sl_app, sl_crl.1, sl_crl.2, sl_app, sl_part.1, sl_part.2, sl_app, sl_part.1, sl_part.2, sl_part.1]
  · rw [sq_app, sl_crl.2, sq_app, sl_crl.2, sq_app, sl_part.2, sq_app, sl_part.2, sl_part.2]
end Mine

end

section
open PySem PySem.W PyProof.Rows
set_option maxRecDepth 100000
set_option Elab.async false
set_option linter.unusedVariables false
namespace Mine
open Builtin Builtin.Str

noncomputable def st (l : List Nat) : Str := ⟨l.toArray⟩
theorem st_len (l : List Nat) : (st l).length = l.length := by simp [st, Str.length]
theorem tick_eq : tick = st [39] := by decide +kernel
theorem crlf_eq : crlf = st crl := by decide +kernel

theorem kind_ge (x : Str) : 1 ≤ Builtin.Str.strKind x := by
  unfold Builtin.Str.strKind
  split
  · omega
  · split <;> omega
theorem pre_ok {x y : Str} (hk : Builtin.Str.strKind y = 1) (hl : y.length ≤ x.length) : (decide (x.length < y.length) || decide (Builtin.Str.strKind x < Builtin.Str.strKind y)) = false := by
  have := kind_ge x
  rw [Bool.or_eq_false_iff]
  exact ⟨decide_eq_false (by omega), decide_eq_false (by omega)⟩

theorem parts_count (x : Str) (w : Nat) : ∀ (cs : List Nat) (s : Nat), (partsF x w s cs).length = cs.length + 1
  | [], s => rfl
  | c :: cs, s => by rw [partsF, List.length_cons, parts_count x w cs]; rfl
theorem occ_some {l sep : List Nat} (hs : sep ≠ []) {lim : Nat} (h : 2 ≤ (cutL sep l [] 0 lim).length) : (occurrences (st l) (st sep) 0 (st l).length lim).isEmpty = false := by
  have e := congrArg List.length (parts_cut (l := l) hs lim)
  rw [parts_is, parts_count, List.length_map] at e
  have e' : (occurrences (st l) (st sep) 0 (st l).length lim).length + 1 = (cutL sep l [] 0 lim).length := e
  cases ho : occurrences (st l) (st sep) 0 (st l).length lim with
  | nil => rw [ho] at e'; simp at e'; omega
  | cons a r => rfl

theorem cut_one_len (c : Nat) : ∀ (l acc : List Nat) (lim : Nat), (cutL [c] l acc 0 lim).length = min lim (l.count c) + 1
  | [], acc, lim => by simp [cutL]
  | a :: l, acc, lim => by
    rw [cutL]
    by_cases h : 0 < lim ∧ [c] <+: (a :: l)
    · rw [if_pos h]
      have hc : c = a := by simpa using (List.cons_prefix_cons.mp h.2).1
      subst hc
      rw [List.length_cons, show [c].length - 1 = 0 from rfl, cut_one_len c l [] (lim - 1), List.count_cons_self]
      have := h.1
      omega
    · rw [if_neg h, cut_one_len c l _ lim]
      by_cases h0 : 0 < lim
      · have hc : a ≠ c := fun e => h ⟨h0, by rw [e]; simp⟩
        rw [List.count_cons_of_ne hc]
      · have : lim = 0 := by omega
        rw [this]; simp

theorem count_dots (n : Nat) : (dots n).count 39 = 0 := by
  rw [dots, List.count_replicate]; rfl
theorem count_qmark (tk : Bool) (h : Nat) : (qmark tk h).count 39 = if tk = true then 1 else 0 := by
  match h with
  | 0 => cases tk <;> rfl
  | 1 => cases tk <;> rfl
  | 2 => cases tk <;> rfl
  | h + 3 => cases tk <;> rfl
theorem count_part (own : Nat) (tk : Nat → Bool) (h d : Nat → Nat) (k : Nat) : (qpart own tk h d k).count 39 = if k ≠ own ∧ tk k = true then 1 else 0 := by
  unfold qpart
  rw [List.count_append, List.count_append, count_dots, show crl.count 39 = 0 from rfl]
  by_cases hk : k = own
  · simp [hk]
  · rw [if_neg hk, count_qmark]
    simp [hk]
theorem count_rest (own : Nat) (tk : Nat → Bool) (h d : Nat → Nat) : (restQ own tk h d).count 39 = (if 0 ≠ own ∧ tk 0 = true then 1 else 0) + ((if 1 ≠ own ∧ tk 1 = true then 1 else 0) + (if 2 ≠ own ∧ tk 2 = true then 1 else 0)) := by
  unfold restQ
  rw [List.count_append, List.count_append, List.count_append, List.count_append, count_part, count_part, count_part, show crl.count 39 = 0 from rfl]
  omega

theorem small_qmark (tk : Bool) (h : Nat) : (∀ c ∈ qmark tk h, c < 128) ∧ (qmark tk h).length ≤ 8 := by
  match h with
  | 0 => cases tk <;> exact ⟨by decide, by decide⟩
  | 1 => cases tk <;> exact ⟨by decide, by decide⟩
  | 2 => cases tk <;> exact ⟨by decide, by decide⟩
  | h + 3 => cases tk <;> exact ⟨by simp [qmark, qhid, tkL], by simp [qmark, qhid, tkL]⟩
theorem small_part (own : Nat) (tk : Nat → Bool) (h d : Nat → Nat) (k : Nat) : (∀ c ∈ qpart own tk h d k, c < 128) ∧ (qpart own tk h d k).length ≤ 10 + d k := by
  unfold qpart
  have hm := small_qmark (tk k) (h k)
  constructor
  · intro c hc
    rcases List.mem_append.mp hc with hc | hc
    · rcases List.mem_append.mp hc with hc | hc
      · split at hc
        · cases hc
        · exact hm.1 c hc
      · rw [List.eq_of_mem_replicate hc]; decide
    · exact (by decide : ∀ c ∈ crl, c < 128) c hc
  · rw [List.length_append, List.length_append, dots, List.length_replicate, show crl.length = 2 from rfl]
    split
    · simp; omega
    · have := hm.2; omega
theorem small_rest (own : Nat) (tk : Nat → Bool) (h d : Nat → Nat) : (∀ c ∈ restQ own tk h d, c < 128) ∧ (restQ own tk h d).length ≤ 34 + d 0 + d 1 + d 2 ∧ 4 ≤ (restQ own tk h d).length := by
  have h0 := small_part own tk h d 0
  have h1 := small_part own tk h d 1
  have h2 := small_part own tk h d 2
  have hc : ∀ c ∈ crl, c < 128 := by decide
  unfold restQ
  refine ⟨fun c hm => ?_, ?_, ?_⟩
  · simp only [List.mem_append] at hm
    rcases hm with hm | hm | hm | hm | hm
    · exact hc c hm
    · exact hc c hm
    · exact h0.1 c hm
    · exact h1.1 c hm
    · exact h2.1 c hm
  · simp only [List.length_append, show crl.length = 2 from rfl]
    omega
  · simp only [List.length_append, show crl.length = 2 from rfl]
    omega
theorem mark_in {own : Nat} {tk : Nat → Bool} {h d : Nat → Nat} : 34 ∈ restQ own tk h d := by
  unfold restQ qpart
  simp only [List.mem_append]
  by_cases h0 : 0 = own
  · refine .inr (.inr (.inr (.inl (.inl (.inl ?_)))))
    rw [if_neg (by omega)]; simp [qmark]
  · refine .inr (.inr (.inl (.inl (.inl ?_))))
    rw [if_neg h0]; simp [qmark]

theorem rows_cut {d : Nat → Nat} {lim : Nat} (hl : 5 ≤ lim) : cutL crl (plainQ d) [] 0 lim = [[], [], dots (d 0), dots (d 1), dots (d 2), []] := by
  have hd : ∀ n, ∀ c ∈ dots n, c ≠ 13 := fun n c hc => by rw [List.eq_of_mem_replicate hc]; decide
  have hs : crl = 13 :: [10] := rfl
  unfold plainQ
  rw [cut_hit hs (by omega), cut_hit hs (by omega)]
  rw [List.append_assoc, cut_skip hs (hd _), cut_hit hs (by omega)]
  rw [List.append_assoc, cut_skip hs (hd _), cut_hit hs (by omega)]
  rw [cut_skip hs (hd _)]
  have e : cutL crl crl ([] ++ dots (d 2)) 0 (lim - 1 - 1 - 1 - 1) = cutL crl (crl ++ []) ([] ++ dots (d 2)) 0 (lim - 1 - 1 - 1 - 1) := by rw [List.append_nil]
  rw [e, cut_hit hs (by omega), cut_end]
  simp
theorem letter_cut {a b : Nat} (ha : a ≠ 39) (hb : b ≠ 39) {v : List Nat} : cutL [39] ([a, 39, b, 39] ++ v) [] 0 2 = [[a], [b], v] := by
  have e1 : [a, 39, b, 39] ++ v = [a] ++ ([39] ++ ([b] ++ ([39] ++ v))) := rfl
  have hs : [39] = 39 :: ([] : List Nat) := rfl
  rw [e1, cut_skip hs (by simpa using ha), cut_hit hs (by decide), cut_skip hs (by simpa using hb), cut_hit hs (by decide), cut_rest]
  rfl

theorem plain_len (d : Nat → Nat) : (plainQ d).length = 10 + (d 0 + (d 1 + d 2)) := by
  unfold plainQ
  simp only [List.length_append, dots, List.length_replicate, show crl.length = 2 from rfl]
  omega

theorem pick_mid (a b c d e f : Dat) : pickD [a, b, c, d, e, f] (some 2) (some (-1)) none = [c, d, e] := by
  unfold pickD
  have h : sliceRange (sliceBounds (some 2) (some (-1)) none [a, b, c, d, e, f].length).1 (sliceBounds (some 2) (some (-1)) none [a, b, c, d, e, f].length).2.1 (sliceBounds (some 2) (some (-1)) none [a, b, c, d, e, f].length).2.2 = [2, 3, 4] := by
    show sliceRange (sliceBounds (some 2) (some (-1)) none 6).1 (sliceBounds (some 2) (some (-1)) none 6).2.1 (sliceBounds (some 2) (some (-1)) none 6).2.2 = _
    decide +kernel
  rw [h]; rfl
/-- the rows of a text that was sent -/
theorem rows_is (d : Nat → Nat) : rowsD (st (plainQ d)) = .list [.str (dotS (d 0)), .str (dotS (d 1)), .str (dotS (d 2))] := by
  unfold rowsD splitS
  rw [crlf_eq]
  have e := parts_cut (l := plainQ d) (sep := crl) (by decide) ((st (plainQ d)).length + 1)
  have e' : partsBetween (st (plainQ d)) (occurrences (st (plainQ d)) (st crl) 0 (st (plainQ d)).length ((st (plainQ d)).length + 1)) (st crl).length = _ := e
  rw [e', rows_cut (by rw [st_len, plain_len]; omega)]
  show Dat.list (pickD [.str (st []), .str (st []), .str (st (dots (d 0))), .str (st (dots (d 1))), .str (st (dots (d 2))), .str (st [])] (some 2) (some (-1)) none) = _
  rw [pick_mid]; rfl
end Mine

end

section
open PySem PySem.W PyProof.Rows
set_option maxRecDepth 100000
set_option Elab.async false
set_option linter.unusedVariables false
namespace Mine

theorem st_app (a b : List Nat) : st a ++ st b = st (a ++ b) := by
  show Str.mk (a.toArray ++ b.toArray) = Str.mk (a ++ b).toArray
  rw [List.append_toArray]
theorem CmpR.neStr {F : Fm} {a b : Str} : CmpR F .NotEq (.str a) (.str b) (a != b) := fun s o va vb ra rb Q E k => by cases ra; cases rb; exact PyProof.Rows.ne_str (k s (Kp.refl s))

section
variable {prog : Program} {w : World} {T : TopT}
theorem cn_rowsR (K9 : FnAt T 9 [sAddr] (Str.ofString "_iter_escaped_chars")) (K10 : FnAt T 10 [sAddr] (Str.ofString "_strip_quoted_realnames")) (K : FnAt T 66 [Str.ofString "text"] (Str.ofString "_law_rows")) (gEn : T.G (Str.ofString "enumerate") = some (.type "enumerate")) (gLen : T.G (Str.ofString "len") = some (.builtin "len"))
    (own : Nat) (tk : Nat → Bool) (h d : Nat → Nat) (hd : ∀ k, d k ≤ 60) : CnG prog w T 3 (Str.ofString "_law_rows") [.str (st (restQ own tk h d))] (.list [.str (dotS (d 0)), .str (dotS (d 1)), .str (dotS (d 2))]) := by
  have hs := small_rest own tk h d
  have h0 := hd 0
  have h1 := hd 1
  have h2 := hd 2
  have hl : (st (restQ own tk h d)).cps.toList = restQ own tk h d := by simp [st]
  have hst := cn_strip (prog := prog) (w := w) K9 K10 gEn gLen (st (restQ own tk h d)) (by rw [hl]; exact mark_in) (by rw [st_len]; omega)
  have e : stripD (st (restQ own tk h d)) = plainQ d := by
    rw [strip_is (by rw [hl]; exact sl_rest.2), hl, sl_rest.1]
  rw [e] at hst
  have hpl := plain_len d
  have hkc : Builtin.Str.strKind crlf = 1 := by decide +kernel
  have hlc : crlf.length = 2 := by decide +kernel
  have hcut := rows_cut (d := d) (lim := (st (plainQ d)).length + 1) (by rw [st_len]; omega)
  have hr := cn_rows (n := 2) K (st (restQ own tk h d)) (plainQ d) hst (pre_ok hkc (by rw [hlc]; show 2 ≤ (st (plainQ d)).length; rw [st_len]; omega))
    (by rw [crlf_eq]; exact occ_some (by decide) (by have hcut' : cutL crl (plainQ d) [] 0 ((⟨(plainQ d).toArray⟩ : Str).length + 1) = _ := hcut; rw [hcut']; simp)) (by omega)
    (by
      show (splitS (st (plainQ d)) crlf).length ≤ 1000
      unfold splitS
      rw [crlf_eq]
      have e' := parts_cut (l := plainQ d) (sep := crl) (by decide) ((st (plainQ d)).length + 1)
      have e'' := congrArg List.length e'
      rw [List.length_map, hcut] at e''
      have e3 : (Builtin.Str.partsBetween (st (plainQ d)) (Builtin.Str.occurrences (st (plainQ d)) (st crl) 0 (st (plainQ d)).length ((st (plainQ d)).length + 1)) (st crl).length).length = _ := e''
      rw [e3]; simp)
  have e2 : rowsD ⟨(plainQ d).toArray⟩ = .list [.str (dotS (d 0)), .str (dotS (d 1)), .str (dotS (d 2))] := rows_is d
  rw [e2] at hr
  exact hr

/-- what decode_rfc2231 makes of what was sent -/
noncomputable def decR (head : List Nat) (r : List Nat) : Dat :=
  match head with
  | [a, _, b, _] => .list [.str (st [a]), .str (st [b]), .str (st r)]
  | _ => .tuple [.none, .none, .str (st r)]
theorem dec_letter {a b : Nat} (ha : a ≠ 39) (hb : b ≠ 39) (r : List Nat) : decD (st ([a, 39, b, 39] ++ r)) = decR [a, 39, b, 39] r := by
  have e := parts_cut (l := [a, 39, b, 39] ++ r) (sep := [39]) (by decide) 2
  rw [letter_cut ha hb] at e
  have e' : splitM (st ([a, 39, b, 39] ++ r)) tick 2 = [st [a], st [b], st r] := by unfold splitM; rw [tick_eq]; exact e
  unfold decD
  rw [e', if_neg (by simp)]; rfl
theorem dec_note {r : List Nat} (hc : r.count 39 = 1) : decD (st r) = decR [] r := by
  have e := congrArg List.length (parts_cut (l := r) (sep := [39]) (by decide) 2)
  rw [List.length_map, cut_one_len, hc] at e
  have e' : (splitM (st r) tick 2).length = 2 := by unfold splitM; rw [tick_eq]; exact e
  unfold decD
  rw [if_pos (by omega)]; rfl
end
end Mine

end

section
open PySem PySem.W PyProof.Rows
set_option maxRecDepth 100000
set_option Elab.async false
set_option linter.unusedVariables false
namespace Mine

theorem set_set {F : Fm} {x : Str} {a b : Dat} : (F.set x a).set x b = F.set x b := by
  unfold Fm.set
  have h1 : upd (upd F.ρ x (some a)) x (some b) = upd F.ρ x (some b) := by
    funext y; unfold upd; split <;> rfl
  have h2 : upd (upd F.mt x none) x none = upd F.mt x none := by
    funext y; unfold upd; split <;> rfl
  simp only [h1, h2]

noncomputable def hidDat : List Dat := [.str (Str.ofString ""), .str (Str.ofString "."), .str (Str.ofString "\\\""), .str (Str.ofString "\n.")]
noncomputable def endsDat : List Dat := [.str (Str.ofString "\n"), .str (Str.ofString "\r"), .str (Str.ofString "\r\n")]
theorem hid_get {k : Nat} (hk : k < 4) : hidDat[k]? = some (.str (st (hidL k))) := by
  have e0 : Str.ofString "" = st [] := by decide +kernel
  have e1 : Str.ofString "." = st [46] := by decide +kernel
  have e2 : Str.ofString "\\\"" = st [92, 34] := by decide +kernel
  have e3 : Str.ofString "\n." = st [10, 46] := by decide +kernel
  unfold hidDat
  rw [e0, e1, e2, e3]
  match k, hk with
  | 0, _ => rfl
  | 1, _ => rfl
  | 2, _ => rfl
  | 3, _ => rfl
theorem ends_get {k : Nat} (hk : k < 3) : endsDat[k]? = some (.str (st (endsL k))) := by
  have e1 : Str.ofString "\n" = st [10] := by decide +kernel
  have e2 : Str.ofString "\r" = st [13] := by decide +kernel
  have e3 : Str.ofString "\r\n" = st [13, 10] := by decide +kernel
  unfold endsDat
  rw [e1, e2, e3]
  match k, hk with
  | 0, _ => rfl
  | 1, _ => rfl
  | 2, _ => rfl
theorem hid_len (k : Nat) : (hidL k).length ≤ 2 := by
  match k with
  | 0 => decide
  | 1 => decide
  | 2 => decide
  | k + 3 => simp [hidL]
theorem ends_len (k : Nat) : (endsL k).length ≤ 2 := by
  match k with
  | 0 => decide
  | 1 => decide
  | k + 2 => simp [endsL]

noncomputable def hOf (x k : Nat) : Nat := (k + x / 12) % 4
noncomputable def eOf (x k : Nat) : Nat := (k + x / 48) % 3
noncomputable def tkOf (head : List Nat) (own k : Nat) : Bool := (st head != Str.ofString "") || (((k : Nat) : Int) == (((own + 1) % 3 : Nat) : Int))

section
variable {F : Fm} {s : Shared}
theorem part_len (own : Nat) (tk : Nat → Bool) (h e d : Nat → Nat) (k : Nat) : (partL own tk h e d k).length ≤ 8 + d k := by
  have h1 := hid_len (h k)
  have h2 := ends_len (e k)
  unfold partL markL tkL dots
  split
  · simp; omega
  · simp only [List.length_append, List.length_replicate, List.length_singleton]
    split <;> simp <;> omega

theorem sent_turn (o : F.Ok s) (kind : ∀ y, F.env.kindOf y = (scopeOf 65).names.lookup y) {head t : List Nat} {own x i : Nat} {d : Nat → Nat}
    (rHead : F.ρ (Str.ofString "head") = some (.str (st head))) (rRows : F.ρ (Str.ofString "rows") = some (.list [.str (dotS (d 0)), .str (dotS (d 1)), .str (dotS (d 2))])) (rOwn : F.ρ (Str.ofString "own") = some (.int (own : Nat))) (rX : F.ρ (Str.ofString "x") = some (.int (x : Nat)))
    (rHid : F.ρ (Str.ofString "hidden") = some (.list hidDat)) (rEnds : F.ρ (Str.ofString "ends") = some (.list endsDat)) (rT : F.ρ (Str.ofString "typed") = some (.str (st t))) (rK : F.ρ (Str.ofString "k") = some (.int (i : Nat))) (hi : i < 3) (hx : x < 1000000) (ht : t.length ≤ 1000) (hd : ∀ k, d k ≤ 60)
    {Q : Flow → Shared → Prop} (k : ∀ s', (F.set (Str.ofString "typed") (.str (st (t ++ partL own (tkOf head own) (hOf x) (eOf x) d i)))).Ok s' → Q .next s') :
    Go F (forBody (nth (bodyOf 65) 3)) Q (fun _ _ => False) s := by
  have kHead : F.env.kindOf (Str.ofString "head") = some .local := (kind _).trans (by decide +kernel)
  have kRows : F.env.kindOf (Str.ofString "rows") = some .local := (kind _).trans (by decide +kernel)
  have kOwn : F.env.kindOf (Str.ofString "own") = some .local := (kind _).trans (by decide +kernel)
  have kX : F.env.kindOf (Str.ofString "x") = some .local := (kind _).trans (by decide +kernel)
  have kHid : F.env.kindOf (Str.ofString "hidden") = some .local := (kind _).trans (by decide +kernel)
  have kEnds : F.env.kindOf (Str.ofString "ends") = some .local := (kind _).trans (by decide +kernel)
  have kT : F.env.kindOf (Str.ofString "typed") = some .local := (kind _).trans (by decide +kernel)
  have kK : F.env.kindOf (Str.ofString "k") = some .local := (kind _).trans (by decide +kernel)
  have hdi := hd i
  -- the second statement, from any frame that has the row of marks behind
  have tail : ∀ (Q2 : Flow → Shared → Prop), (∀ s', Q .next s' → Q2 .next s') → ∀ (G : Fm) (t' : List Nat) s1, G.Ok s1 → G.env = F.env → (∀ y, y ≠ Str.ofString "typed" → G.ρ y = F.ρ y) → G.ρ (Str.ofString "typed") = some (.str (st t')) → t'.length ≤ 1010 →
      (∀ z, G.set (Str.ofString "typed") z = F.set (Str.ofString "typed") z) → t' ++ (dots (d i) ++ endsL (eOf x i)) = t ++ partL own (tkOf head own) (hOf x) (eOf x) d i → Go G [nth (forBody (nth (bodyOf 65) 3)) 1] Q2 (fun _ _ => False) s1 := by
    intro Q2 hQ2 G t' s1 o1 hE hρ hT hl hset heq
    have gK : G.ρ (Str.ofString "k") = some (.int (i : Nat)) := (hρ _ (by decide +kernel)).trans rK
    have gX : G.ρ (Str.ofString "x") = some (.int (x : Nat)) := (hρ _ (by decide +kernel)).trans rX
    have gRows : G.ρ (Str.ofString "rows") = some (.list [.str (dotS (d 0)), .str (dotS (d 1)), .str (dotS (d 2))]) := (hρ _ (by decide +kernel)).trans rRows
    have gEnds : G.ρ (Str.ofString "ends") = some (.list endsDat) := (hρ _ (by decide +kernel)).trans rEnds
    have hrow : ([.str (dotS (d 0)), .str (dotS (d 1)), .str (dotS (d 2))] : List Dat)[((i : Nat) : Int).toNat]? = some (.str (st (dots (d i)))) := by
      rw [Int.toNat_natCast]
      match i, hi with
      | 0, _ => rfl
      | 1, _ => rfl
      | 2, _ => rfl
    have hend : endsDat[((((i + x / 48) % 3 : Nat)) : Int).toNat]? = some (.str (st (endsL (eOf x i)))) := by
      rw [Int.toNat_natCast]; exact ends_get (Nat.mod_lt _ (by decide))
    have evX : ∀ {q}, Ev G (.Name (Str.ofString "x") q) (.int (x : Nat)) := Ev.name_local gX (by rw [hE]; exact kX) (by decide +kernel)
    have evK : ∀ {q}, Ev G (.Name (Str.ofString "k") q) (.int (i : Nat)) := Ev.name_local gK (by rw [hE]; exact kK) (by decide +kernel)
    have hel := ends_len (eOf x i)
    refine xaugS o1 hT (.inl (by rw [hE]; exact kT)) (Ev.cat (a := st (dots (d i))) (b := st (endsL (eOf x i))) (Ev.itemL (Ev.name_local gRows (by rw [hE]; exact kRows) (by decide +kernel)) evK (by omega) (by omega) hrow)
      (Ev.itemL (k := (((i + x / 48) % 3 : Nat) : Int)) (Ev.name_local gEnds (by rw [hE]; exact kEnds) (by decide +kernel)) (Ev.modN (b := 3) (Ev.addN evK (Ev.divN (b := 48) evX (Ev.nat rfl) (by decide) rfl)) (Ev.nat rfl) (by decide)) (by omega) (by omega) hend) ?_) (.inl (by rw [hE]; exact kT)) ?_ fun s2 o2 => ?_
    · rw [st_len, st_len, dots, List.length_replicate, sizeLine_eq]; omega
    · rw [st_app, st_len, st_len, List.length_append, dots, List.length_replicate, sizeLine_eq]; omega
    · rw [st_app, st_app, heq, hset] at o2
      exact wpAny_execs_nil (hQ2 _ (k s2 o2))
  have evOwn : ∀ {q}, Ev F (.Name (Str.ofString "own") q) (.int (own : Nat)) := Ev.name_local rOwn kOwn (by decide +kernel)
  have evK : ∀ {q}, Ev F (.Name (Str.ofString "k") q) (.int (i : Nat)) := Ev.name_local rK kK (by decide +kernel)
  have evX : ∀ {q}, Ev F (.Name (Str.ofString "x") q) (.int (x : Nat)) := Ev.name_local rX kX (by decide +kernel)
  refine xif o (Tst.cmp evK evOwn CmpR.neInt (by with_unfolding_all rfl)) fun s1 o1 => ?_
  by_cases hio : i = own
  · have hb : (((i : Nat) : Int) != ((own : Nat) : Int)) = false := by rw [hio]; simp
    rw [hb]
    refine wpAny_execs_nil (tail _ (fun _ h => h) F t s1 o1 rfl (fun _ _ => rfl) rT (by omega) (fun _ => rfl) ?_)
    unfold partL
    rw [if_pos hio, List.nil_append]
  · have hb : (((i : Nat) : Int) != ((own : Nat) : Int)) = true := by rw [bne_iff_ne]; intro h; exact hio (by omega)
    rw [hb]
    have hhid : hidDat[((((i + x / 12) % 4 : Nat)) : Int).toNat]? = some (.str (st (hidL (hOf x i)))) := by
      rw [Int.toNat_natCast]; exact hid_get (Nat.mod_lt _ (by decide))
    have hq : Str.ofString "\"" = st [34] := by decide +kernel
    have ht1 : Str.ofString "'" = st [39] := by decide +kernel
    have ht0 : Str.ofString "" = st [] := by decide +kernel
    have htk : tkL (tkOf head own i) = if tkOf head own i = true then [39] else [] := rfl
    have hhl := hid_len (hOf x i)
    have hkl : (tkL (tkOf head own i)).length ≤ 1 := by unfold tkL; split <;> simp
    have evQ : ∀ {k q}, Ev F (.Constant (.str (Str.ofString "\"")) k q) (.str (st [34])) := by intros; rw [← hq]; exact Ev.str
    refine xaugS o1 rT (.inl kT) (Ev.cat (a := st ([34] ++ hidL (hOf x i) ++ tkL (tkOf head own i))) (b := st [34]) ?_ evQ ?_) (.inl kT) ?_ fun s2 o2 => ?_
    · rw [← st_app, ← st_app]
      refine Ev.cat (Ev.cat evQ (Ev.itemL (k := (((i + x / 12) % 4 : Nat) : Int)) (Ev.name_local rHid kHid (by decide +kernel)) (Ev.modN (b := 4) (Ev.addN evK (Ev.divN (b := 12) evX (Ev.nat rfl) (by decide) rfl)) (Ev.nat rfl) (by decide)) (by omega) (by omega) hhid) ?_) ?_ ?_
      · rw [st_len, st_len, List.length_singleton, sizeLine_eq]; omega
      · refine Ev.ifExp (b := tkOf head own i) (Tst.or (a := st head != Str.ofString "") (b := ((i : Nat) : Int) == (((own + 1) % 3 : Nat) : Int)) (Tst.cmp (Ev.name_local rHead kHead (by decide +kernel)) Ev.str CmpR.neStr (by with_unfolding_all rfl)) fun _ => Tst.cmp evK (Ev.modN (b := 3) (Ev.addN (b := 1) evOwn (Ev.nat rfl)) (Ev.nat rfl) (by decide)) CmpR.eqInt (by with_unfolding_all rfl)) (fun h => ?_) (fun h => ?_)
        · rw [h]; show Ev F _ (.str (st [39])); rw [← ht1]; exact Ev.str
        · rw [h]; show Ev F _ (.str (st [])); rw [← ht0]; exact Ev.str
      · rw [st_app, st_len, st_len, List.length_append, List.length_singleton, sizeLine_eq]; omega
    · rw [st_len, st_len, List.length_append, List.length_append, List.length_singleton, sizeLine_eq]; omega
    · rw [st_app, st_len, st_len, List.length_append, List.length_append, List.length_append, List.length_singleton, sizeLine_eq]; omega
    · rw [st_app, st_app] at o2
      refine wpAny_execs_nil (tail _ (fun _ h => h) (F.set (Str.ofString "typed") (.str (st (t ++ ([34] ++ hidL (hOf x i) ++ tkL (tkOf head own i) ++ [34]))))) (t ++ ([34] ++ hidL (hOf x i) ++ tkL (tkOf head own i) ++ [34])) s2 o2 rfl (fun y hy => set_other hy) set_self ?_ (fun _ => set_set) ?_)
      · rw [List.length_append, List.length_append, List.length_append, List.length_append, List.length_singleton]; omega
      · unfold partL markL
        rw [if_neg hio]; simp
end
end Mine

end

section
open PySem PySem.W PyProof.Rows
set_option maxRecDepth 100000
set_option Elab.async false
set_option linter.unusedVariables false
namespace Mine

theorem fixG_len : ∀ (b : Bool) (l : List Nat), (fixG b l).length ≤ 2 * l.length
  | b, [] => by simp [fixG]
  | b, c :: r => by
    have h1 := fixG_len false r
    have h2 := fixG_len true r
    rw [fixG]
    split
    · split <;> simp <;> omega
    · split <;> simp <;> omega
theorem fixG_mem {P : Nat → Prop} (h13 : P 13) (h10 : P 10) : ∀ (b : Bool) (l : List Nat), (∀ c ∈ l, P c) → ∀ c ∈ fixG b l, P c
  | b, [], _, c, hc => by simp [fixG] at hc
  | b, a :: r, h, c, hc => by
    have ha := h a List.mem_cons_self
    have hr : ∀ c ∈ r, P c := fun c hc => h c (List.mem_cons_of_mem _ hc)
    rw [fixG] at hc
    split at hc
    · split at hc
      · exact fixG_mem h13 h10 false r hr c hc
      · rcases List.mem_cons.mp hc with rfl | hc
        · exact h13
        · rcases List.mem_cons.mp hc with rfl | hc
          · exact h10
          · exact fixG_mem h13 h10 false r hr c hc
    · split at hc
      · rcases List.mem_cons.mp hc with rfl | hc
        · exact h13
        · rcases List.mem_cons.mp hc with rfl | hc
          · exact h10
          · exact fixG_mem h13 h10 true r hr c hc
      · rcases List.mem_cons.mp hc with rfl | hc
        · exact ha
        · exact fixG_mem h13 h10 false r hr c hc
theorem part_mem (own : Nat) (tk : Nat → Bool) (h e d : Nat → Nat) (k : Nat) : ∀ c ∈ partL own tk h e d k, c < 128 := by
  have hh : ∀ j, ∀ c ∈ hidL j, c < 128 := fun j => by
    match j with
    | 0 => decide
    | 1 => decide
    | 2 => decide
    | j + 3 => simp [hidL]
  have he : ∀ j, ∀ c ∈ endsL j, c < 128 := fun j => by
    match j with
    | 0 => decide
    | 1 => decide
    | j + 2 => simp [endsL]
  intro c hc
  unfold partL at hc
  simp only [List.mem_append] at hc
  rcases hc with (hc | hc) | hc
  · split at hc
    · cases hc
    · unfold markL tkL at hc
      simp only [List.mem_append, List.mem_singleton] at hc
      rcases hc with ((hc | hc) | hc) | hc
      · omega
      · exact hh _ c hc
      · split at hc
        · simp at hc; omega
        · cases hc
      · omega
  · rw [List.eq_of_mem_replicate hc]; decide
  · exact he _ c hc
noncomputable def e0Of (x : Nat) : Nat := (x / 48 + 2) % 3
noncomputable def typedAt (head : List Nat) (own x : Nat) (d : Nat → Nat) (i : Nat) : List Nat := head ++ (endsL (e0Of x) ++ [13]) ++ (List.range i).flatMap (partL own (tkOf head own) (hOf x) (eOf x) d)
theorem typedAt_succ (head : List Nat) (own x : Nat) (d : Nat → Nat) (i : Nat) : typedAt head own x d (i + 1) = typedAt head own x d i ++ partL own (tkOf head own) (hOf x) (eOf x) d i := by
  unfold typedAt
  rw [List.range_succ, List.flatMap_append]; simp
theorem typedAt_len {head : List Nat} {own x : Nat} {d : Nat → Nat} (hh : head.length ≤ 4) (hd : ∀ k, d k ≤ 60) : ∀ i, (typedAt head own x d i).length ≤ 7 + 68 * i
  | 0 => by
    have := ends_len (e0Of x)
    simp [typedAt]; omega
  | i + 1 => by
    rw [typedAt_succ, List.length_append]
    have h1 := typedAt_len hh hd (own := own) (x := x) i
    have h2 := part_len own (tkOf head own) (hOf x) (eOf x) d i
    have := hd i
    omega
theorem typedAt_end (head : List Nat) (own x : Nat) (d : Nat → Nat) : typedAt head own x d 3 = typedL head (e0Of x) own (tkOf head own) (hOf x) (eOf x) d := by
  rw [typedAt_succ, typedAt_succ, typedAt_succ]
  unfold typedAt typedL
  simp
theorem typed_mem {head : List Nat} {e0 own : Nat} {tk : Nat → Bool} {h e d : Nat → Nat} (hh : ∀ c ∈ head, c < 128) : ∀ c ∈ typedL head e0 own tk h e d, c < 128 := by
  have he : ∀ j, ∀ c ∈ endsL j, c < 128 := fun j => by
    match j with
    | 0 => decide
    | 1 => decide
    | j + 2 => simp [endsL]
  intro c hc
  unfold typedL at hc
  simp only [List.mem_append, List.mem_singleton] at hc
  rcases hc with hc | hc | hc | hc | hc | hc
  · exact hh c hc
  · exact he _ c hc
  · omega
  · exact part_mem own tk h e d _ c hc
  · exact part_mem own tk h e d _ c hc
  · exact part_mem own tk h e d _ c hc

structure SentFam (F : Fm) (head : List Nat) (own x : Nat) (d : Nat → Nat) (i : Nat) (G : Fm) : Prop where
  like : Like F G
  X : G.X = F.X
  rest : ∀ y, y ≠ Str.ofString "typed" → y ≠ Str.ofString "k" → G.ρ y = F.ρ y
  typed : G.ρ (Str.ofString "typed") = some (.str (st (typedAt head own x d i)))

section
variable {prog : Program} {w : World} {T : TopT}
structure SentIn (prog : Program) (w : World) (T : TopT) : Prop where
  K5 : FnAt T 5 [Str.ofString "bindata"] (Str.ofString "_quote_periods")
  K6 : FnAt T 6 [Str.ofString "data"] (Str.ofString "_fix_eols")
  K11 : FnAt T 11 [Str.ofString "s"] (Str.ofString "decode_rfc2231")
  K65 : FnAt T 65 [Str.ofString "head", Str.ofString "rows", Str.ofString "own", Str.ofString "x"] (Str.ofString "_law_sent")
  gC : ∃ t, T.G (Str.ofString "CRLF") = some (.str ⟨[13, 10].toArray⟩ t)
  gT : ∃ t, T.G (Str.ofString "TICK") = some (.str tick t)
  gLen : T.G (Str.ofString "len") = some (.builtin "len")
  gRange : T.G (Str.ofString "range") = some (.type "range")
  P1 : ∃ P C, T.G (Str.ofString "_twin_re_1") = some (.ref P) ∧ ∀ h, T.In h → PatOk h P C true code1
  P2 : ∃ P C, T.G (Str.ofString "_twin_re_2") = some (.ref P) ∧ ∀ h, T.In h → PatOk h P C false code2

set_option maxHeartbeats 1000000 in
theorem cn_sent (I : SentIn prog w T) (head : List Nat) (own x : Nat) (d : Nat → Nat) (hh : ∀ c ∈ head, c ≠ 10 ∧ c ≠ 46 ∧ c ≠ 13 ∧ c < 128) (hl : head.length ≤ 4) (hx : x < 1000000) (hd : ∀ k, d k ≤ 59) (hd0 : ∀ k, 0 < d k)
    (hcount : 1 ≤ (head ++ restQ own (tkOf head own) (hOf x) (grow own d)).count 39) :
    CnG prog w T 2 (Str.ofString "_law_sent") [.str (st head), .list [.str (dotS (d 0)), .str (dotS (d 1)), .str (dotS (d 2))], .int (own : Nat), .int (x : Nat)] (decD (st (head ++ restQ own (tkOf head own) (hOf x) (grow own d)))) :=
  CnG.intro I.K65 [] [] rfl rfl rfl fun F R s o => by
    obtain ⟨e1, e2, e3, en, kind, scope, ρ, mt, wc, wm, pin, gpin⟩ := R
    subst e1 e2 e3
    have kHead : F.env.kindOf (Str.ofString "head") = some .local := (kind _).trans (by decide +kernel)
    have kX : F.env.kindOf (Str.ofString "x") = some .local := (kind _).trans (by decide +kernel)
    have kHid : F.env.kindOf (Str.ofString "hidden") = some .local := (kind _).trans (by decide +kernel)
    have kEnds : F.env.kindOf (Str.ofString "ends") = some .local := (kind _).trans (by decide +kernel)
    have kT : F.env.kindOf (Str.ofString "typed") = some .local := (kind _).trans (by decide +kernel)
    have kK : F.env.kindOf (Str.ofString "k") = some .local := (kind _).trans (by decide +kernel)
    have rHead : F.ρ (Str.ofString "head") = some (.str (st head)) := (ρ _).trans rfl
    have rRows : F.ρ (Str.ofString "rows") = some (.list [.str (dotS (d 0)), .str (dotS (d 1)), .str (dotS (d 2))]) := by
      rw [ρ]
      show List.lookup _ [(Str.ofString "head", Dat.str (st head)), (Str.ofString "rows", _), (Str.ofString "own", Dat.int _), (Str.ofString "x", Dat.int _)] = _
      rw [List.lookup_cons, show (Str.ofString "rows" == Str.ofString "head") = false from by decide +kernel, List.lookup_cons, beq_self_eq_true]
    have rOwn : F.ρ (Str.ofString "own") = some (.int (own : Nat)) := by
      rw [ρ]
      show List.lookup _ [(Str.ofString "head", Dat.str (st head)), (Str.ofString "rows", _), (Str.ofString "own", Dat.int _), (Str.ofString "x", Dat.int _)] = _
      rw [List.lookup_cons, show (Str.ofString "own" == Str.ofString "head") = false from by decide +kernel, List.lookup_cons, show (Str.ofString "own" == Str.ofString "rows") = false from by decide +kernel, List.lookup_cons, beq_self_eq_true]
    have rX : F.ρ (Str.ofString "x") = some (.int (x : Nat)) := by
      rw [ρ]
      show List.lookup _ [(Str.ofString "head", Dat.str (st head)), (Str.ofString "rows", _), (Str.ofString "own", Dat.int _), (Str.ofString "x", Dat.int _)] = _
      rw [List.lookup_cons, show (Str.ofString "x" == Str.ofString "head") = false from by decide +kernel, List.lookup_cons, show (Str.ofString "x" == Str.ofString "rows") = false from by decide +kernel, List.lookup_cons, show (Str.ofString "x" == Str.ofString "own") = false from by decide +kernel, List.lookup_cons, beq_self_eq_true]
    refine xassign o (d := .list hidDat) (Ev.list (EvL.cons Ev.str (EvL.cons Ev.str (EvL.cons Ev.str (EvL.cons Ev.str EvL.nil))))) (.inl kHid) (by with_unfolding_all rfl) fun s1 o1 => ?_
    refine xassign o1 (d := .list endsDat) (Ev.list (EvL.cons Ev.str (EvL.cons Ev.str (EvL.cons Ev.str EvL.nil)))) (.inl kEnds) (by with_unfolding_all rfl) fun s2 o2 => ?_
    generalize hF2 : (F.set (Str.ofString "hidden") (.list hidDat)).set (Str.ofString "ends") (.list endsDat) = F2 at o2
    have F2env : F2.env = F.env := by rw [← hF2]; rfl
    have F2T : F2.T = F.T := by rw [← hF2]; rfl
    have F2prog : F2.prog = F.prog := by rw [← hF2]; rfl
    have F2w : F2.w = F.w := by rw [← hF2]; rfl
    have F2base : F2.base = F.base := by rw [← hF2]; rfl
    have F2X : F2.X = F.X := by rw [← hF2]; rfl
    have F2n : F2.n = F.n := by rw [← hF2]; rfl
    have r2 : ∀ y, y ≠ Str.ofString "hidden" → y ≠ Str.ofString "ends" → F2.ρ y = F.ρ y := fun y h1 h2 => by
      rw [← hF2]
      show upd (upd F.ρ (Str.ofString "hidden") (some (.list hidDat))) (Str.ofString "ends") (some (.list endsDat)) y = _
      rw [upd_other h2, upd_other h1]
    have r2Hid : F2.ρ (Str.ofString "hidden") = some (.list hidDat) := by
      rw [← hF2]
      show upd (upd F.ρ (Str.ofString "hidden") (some (.list hidDat))) (Str.ofString "ends") (some (.list endsDat)) (Str.ofString "hidden") = _
      rw [upd_other (by decide +kernel), upd_self]
    have r2Ends : F2.ρ (Str.ofString "ends") = some (.list endsDat) := by
      rw [← hF2]
      show upd (upd F.ρ (Str.ofString "hidden") (some (.list hidDat))) (Str.ofString "ends") (some (.list endsDat)) (Str.ofString "ends") = _
      rw [upd_self]
    have r2Head : F2.ρ (Str.ofString "head") = some (.str (st head)) := (r2 _ (by decide +kernel) (by decide +kernel)).trans rHead
    have r2Rows := (r2 (Str.ofString "rows") (by decide +kernel) (by decide +kernel)).trans rRows
    have r2Own := (r2 (Str.ofString "own") (by decide +kernel) (by decide +kernel)).trans rOwn
    have r2X := (r2 (Str.ofString "x") (by decide +kernel) (by decide +kernel)).trans rX
    have hr13 : Str.ofString "\r" = st [13] := by decide +kernel
    have ht0 : st head ++ st (endsL (e0Of x)) ++ Str.ofString "\r" = st (typedAt head own x d 0) := by
      rw [hr13, st_app, st_app]
      unfold typedAt
      simp
    have hel := ends_len (e0Of x)
    have hend : endsDat[(((x / 48 + 2) % 3 : Nat) : Int).toNat]? = some (.str (st (endsL (e0Of x)))) := by
      rw [Int.toNat_natCast]; exact ends_get (Nat.mod_lt _ (by decide))
    have evX : ∀ {q}, Ev F2 (.Name (Str.ofString "x") q) (.int (x : Nat)) := Ev.name_local r2X (by rw [F2env]; exact kX) (by decide +kernel)
    refine xassign o2 (d := .str (st head ++ st (endsL (e0Of x)) ++ Str.ofString "\r")) (Ev.cat (Ev.cat (Ev.name_local r2Head (by rw [F2env]; exact kHead) (by decide +kernel))
      (Ev.itemL (k := (((x / 48 + 2) % 3 : Nat) : Int)) (Ev.name_local r2Ends (by rw [F2env]; exact kEnds) (by decide +kernel)) (Ev.modN (b := 3) (Ev.addN (b := 2) (Ev.divN (b := 48) evX (Ev.nat rfl) (by decide) rfl) (Ev.nat rfl)) (Ev.nat rfl) (by decide)) (by omega) (by omega) hend) ?_) Ev.str ?_) (.inl (by rw [F2env]; exact kT)) (by with_unfolding_all rfl) fun s3 o3 => ?_
    · rw [st_len, st_len, sizeLine_eq]; omega
    · rw [hr13, st_app, st_len, st_len, List.length_append, List.length_singleton, sizeLine_eq]; omega
    rw [ht0] at o3 ⊢
    have hlike : ∀ i G, SentFam (F2.set (Str.ofString "typed") (.str (st (typedAt head own x d 0)))) head own x d i G → Like (F2.set (Str.ofString "typed") (.str (st (typedAt head own x d 0)))) G := fun i G h => h.like
    have gen : ∀ i G, SentFam (F2.set (Str.ofString "typed") (.str (st (typedAt head own x d 0)))) head own x d i G → ∀ y, y ≠ Str.ofString "typed" → y ≠ Str.ofString "k" → G.ρ y = F2.ρ y := fun i G h y h1 h2 => (h.rest y h1 h2).trans (set_other h1)
    refine ex_for_range (n := 3) (SentFam (F2.set (Str.ofString "typed") (.str (st (typedAt head own x d 0)))) head own x d) hlike o3 (by show F2.T.G _ = _; rw [F2T]; exact I.gRange) (by show F2.env.kindOf _ = _; rw [F2env]; exact (kind _).trans (by decide +kernel)) (by decide +kernel) (Ev.nat rfl) (by decide) rfl
      (.inl (by show F2.env.kindOf _ = _; rw [F2env]; exact kK)) ⟨Like.refl _, rfl, fun _ _ _ => rfl, set_self⟩ (fun _ => rfl) ?_ ?_
    · intro i G pp hi hG hb s4 o4
      have LG := hG.like
      have hρ := gen i G hG
      have Hρ : ∀ y, y ≠ Str.ofString "typed" → y ≠ Str.ofString "k" → ((G.addPin pp).set (Str.ofString "k") (.int (i : Nat))).ρ y = F2.ρ y := fun y h1 h2 => (set_other h2).trans (hρ y h1 h2)
      have tl := typedAt_len (own := own) (x := x) (d := d) hl (fun k => by have := hd k; omega) i
      have st' := sent_turn (F := (G.addPin pp).set (Str.ofString "k") (.int (i : Nat))) (head := head) (t := typedAt head own x d i) (own := own) (x := x) (i := i) (d := d) o4
        (fun y => by show G.env.kindOf y = _; rw [LG.env]; show F2.env.kindOf y = _; rw [F2env]; exact kind y)
        ((Hρ _ (by decide +kernel) (by decide +kernel)).trans r2Head) ((Hρ _ (by decide +kernel) (by decide +kernel)).trans r2Rows) ((Hρ _ (by decide +kernel) (by decide +kernel)).trans r2Own) ((Hρ _ (by decide +kernel) (by decide +kernel)).trans r2X)
        ((Hρ _ (by decide +kernel) (by decide +kernel)).trans r2Hid) ((Hρ _ (by decide +kernel) (by decide +kernel)).trans r2Ends) ((set_other (by decide +kernel)).trans hG.typed) set_self hi hx (by omega) (fun k => by have := hd k; omega)
        (Q := fun f s' => match f with | .next => ∃ G', SentFam (F2.set (Str.ofString "typed") (.str (st (typedAt head own x d 0)))) head own x d (i + 1) G' ∧ (G'.addPin pp).Ok s' | .ret v => False | _ => False) fun s5 o5 => ?_
      · have e1 : ((G.addPin pp).set (Str.ofString "k") (.int (i : Nat))).prog = F2.prog := LG.prog
        have e2 : ((G.addPin pp).set (Str.ofString "k") (.int (i : Nat))).w = F2.w := LG.w
        have e3 : ((G.addPin pp).set (Str.ofString "k") (.int (i : Nat))).A = F2.A := LG.A
        have e4 : ((G.addPin pp).set (Str.ofString "k") (.int (i : Nat))).env = F2.env := LG.env
        unfold Go at st'
        rw [e1, e2, e3, e4] at st'
        refine wpAny_mono st' (fun f s6 h => ?_) fun _ _ x => x
        cases f <;> first | exact h | exact h.elim
      · rw [← typedAt_succ] at o5
        refine ⟨(G.set (Str.ofString "k") (.int (i : Nat))).set (Str.ofString "typed") (.str (st (typedAt head own x d (i + 1)))), ⟨⟨LG.prog, LG.w, LG.T, LG.n, LG.A, LG.env, LG.base, LG.wc, LG.wm, LG.pin, LG.gpin⟩, hG.X, fun y h1 h2 => ?_, set_self⟩, o5⟩
        exact (set_other h1).trans ((set_other h2).trans (hG.rest y h1 h2))
    · intro G s4 hG o4
      have LG := hG.like
      have gT := hG.typed
      rw [typedAt_end] at gT
      have eprog : (F2.set (Str.ofString "typed") (.str (st (typedAt head own x d 0)))).prog = G.prog := LG.prog.symm
      have ew : (F2.set (Str.ofString "typed") (.str (st (typedAt head own x d 0)))).w = G.w := LG.w.symm
      have eA : (F2.set (Str.ofString "typed") (.str (st (typedAt head own x d 0)))).A = G.A := LG.A.symm
      have eenv : (F2.set (Str.ofString "typed") (.str (st (typedAt head own x d 0)))).env = G.env := LG.env.symm
      rw [eprog, ew, eA, eenv]
      have GT : G.T = F.T := LG.T.trans F2T
      have GP : G.prog = F.prog := LG.prog.trans F2prog
      have GW : G.w = F.w := LG.w.trans F2w
      have GN : G.n = 1 := (LG.n.trans F2n).trans en
      have GK : ∀ y, G.env.kindOf y = (scopeOf 65).names.lookup y := fun y => by rw [LG.env]; show F2.env.kindOf y = _; rw [F2env]; exact kind y
      have hd' : ∀ k, d k ≤ 60 := fun k => by have := hd k; omega
      have tl := typedAt_len (own := own) (x := x) (d := d) hl hd' 3
      rw [typedAt_end] at tl
      have hfx : fixL (typedL head (e0Of x) own (tkOf head own) (hOf x) (eOf x) d) = fixG false (typedL head (e0Of x) own (tkOf head own) (hOf x) (eOf x) d) := rfl
      have fl := fixG_len false (typedL head (e0Of x) own (tkOf head own) (hOf x) (eOf x) d)
      have fm : ∀ c ∈ fixG false (typedL head (e0Of x) own (tkOf head own) (hOf x) (eOf x) d), c < 128 := fixG_mem (by decide) (by decide) _ _ (typed_mem fun c hc => (hh c hc).2.2.2)
      rw [← hfx] at fl fm
      have hse := sent_eq (head := head) (e0 := e0Of x) (own := own) (tk := tkOf head own) (h := hOf x) (e := eOf x) (d := d) (fun c hc => ⟨(hh c hc).1, (hh c hc).2.1, (hh c hc).2.2.1⟩) hd0
      have hsr := small_rest own (tkOf head own) (hOf x) (grow own d)
      have hg : ∀ k, grow own d k ≤ 60 := fun k => by have := hd k; unfold grow; split <;> omega
      have g0 := hg 0
      have g1 := hg 1
      have g2 := hg 2
      have hSl : (head ++ restQ own (tkOf head own) (hOf x) (grow own d)).length ≤ 300 := by rw [List.length_append]; omega
      have hS4 : 4 ≤ (head ++ restQ own (tkOf head own) (hOf x) (grow own d)).length := by rw [List.length_append]; omega
      have hSm : ∀ c ∈ head ++ restQ own (tkOf head own) (hOf x) (grow own d), c < 128 := fun c hc => by
        rcases List.mem_append.mp hc with hc | hc
        · exact (hh c hc).2.2.2
        · exact hsr.1 c hc
      generalize hS : head ++ restQ own (tkOf head own) (hOf x) (grow own d) = S at *
      generalize typedL head (e0Of x) own (tkOf head own) (hOf x) (eOf x) d = L at *
      obtain ⟨t1, gC⟩ := I.gC
      obtain ⟨t2, gT'⟩ := I.gT
      obtain ⟨P1, C1, gP1, hP1⟩ := I.P1
      obtain ⟨P2, C2, gP2, hP2⟩ := I.P2
      have hsz := sizeLine_eq
      have c6 : CnG G.prog G.w G.T G.n (Str.ofString "_fix_eols") [.str (st L)] (.str (st (fixL L))) := by
        rw [GN, GP, GW, GT]
        exact cn_fix I.K6 gC gP2 hP2 L (by omega) (by omega)
      have c5 : CnG G.prog G.w G.T G.n (Str.ofString "_quote_periods") [.bytes (by8 (fixL L))] (.bytes (by8 S)) := by
        rw [GN, GP, GW, GT, ← hse]
        exact cn_quote I.K5 gP1 hP1 (fixL L) (by omega) (fun c hc => by have := fm c hc; omega) (by rw [hse]; omega)
      have hkt : Builtin.Str.strKind tick = 1 := by decide +kernel
      have hlt : tick.length = 1 := by decide +kernel
      have hcl := cut_one_len 39 S [] 2
      have hcc := parts_cut (l := S) (sep := [39]) (by decide) 2
      have c11 : CnG G.prog G.w G.T G.n (Str.ofString "decode_rfc2231") [.str (st S)] (decD (st S)) := by
        rw [GN, GP, GW, GT]
        refine cn_dec I.K11 gT' I.gLen (st S) (pre_ok hkt (by rw [hlt, st_len]; omega)) (by rw [tick_eq]; exact occ_some (by decide) (by rw [hcl]; omega)) (by rw [st_len]; omega) ?_
        unfold splitM
        rw [tick_eq]
        have e' := congrArg List.length hcc
        rw [List.length_map, hcl] at e'
        have e3 : (Builtin.Str.partsBetween (st S) (Builtin.Str.occurrences (st S) (st [39]) 0 (st S).length 2) (st [39]).length).length = _ := e'
        rw [e3]; omega
      refine xret (F := G) o4 (d := decD (st S)) ?_ fun v s' k o' r => ⟨v, rfl, ?_, ?_⟩
      · have hasc : ∀ {k q}, Ev G (.Constant (.str (Str.ofString "ascii")) k q) (.str asc) := Ev.str
        refine Ev.callG c11 ((GK _).trans (by decide +kernel)) (by decide +kernel) (EvL.cons (Ev.decode (l := S) rfl (Ev.callG c5 ((GK _).trans (by decide +kernel)) (by decide +kernel) (EvL.cons (Ev.encode (l := fixL L) rfl
          (Ev.callG c6 ((GK _).trans (by decide +kernel)) (by decide +kernel) (EvL.cons (Ev.name_local gT ((GK _).trans (by decide +kernel)) (by decide +kernel)) EvL.nil) rfl) hasc rfl rfl rfl fm (by omega)) EvL.nil) rfl) hasc rfl rfl rfl ?_ hSm (by omega)) EvL.nil) rfl
        intro e
        rw [e] at hS4; simp at hS4
      · have := o'.kp
        rw [LG.base] at this
        have this' : Kp F2.base s' := this
        rw [F2base] at this'
        exact this'
      · have hX : G.X = F.X := hG.X.trans F2X
        rw [← hX]; exact r
end
end Mine

end

section
open PySem PySem.W PyProof.Rows
set_option maxRecDepth 100000
set_option Elab.async false
set_option linter.unusedVariables false
namespace Mine

/-- a letter on its way -/
structure Lt where
  o : Nat
  q : Nat
  x : Nat
  d : Nat → Nat
  came : List Nat
structure VS where
  d : Nat → Nat → Nat
  lasts : Nat → List Nat
  wait : List Lt
  homes : List Nat
  pasts : List (List Nat)
  clocks : List (List Nat)
noncomputable def cnt (hs P : List Nat) (k : Nat) : Nat := (P.filter fun e => hs.getD e 3 == k).length
noncomputable def fin (s : VS) (t own : Nat) (rows : Nat → Nat) (past : List Nat) (wait : List Lt) : VS :=
  { d := fun i => if i = own then grow own rows else s.d i
    lasts := fun i => if i = own then past else s.lasts i
    wait := wait
    homes := s.homes ++ [own]
    pasts := s.pasts ++ [past]
    clocks := s.clocks ++ [[cnt (s.homes ++ [own]) past 0, cnt (s.homes ++ [own]) past 1, cnt (s.homes ++ [own]) past 2]] }
noncomputable def l0 : Lt := ⟨0, 0, 0, fun _ => 1, []⟩
noncomputable def stepV (x t : Nat) (s : VS) : VS :=
  if x % 2 = 0 ∧ s.wait ≠ [] then
    let i := x / 2 % s.wait.length
    let L := s.wait.getD i l0
    fin s t L.q (fun k => if s.d L.q k > L.d k then s.d L.q k else L.d k) ((List.range t).filter (fun e => decide (e ∈ s.lasts L.q) || decide (e ∈ L.came)) ++ [t]) (s.wait.take i ++ s.wait.drop (i + 1))
  else
    let own := x / 2 % 3
    fin s t own (s.d own) (s.lasts own ++ [t]) (s.wait ++ [⟨own, (own + 1 + x / 6 % 2) % 3, x, grow own (s.d own), s.lasts own ++ [t]⟩])

structure Good (ps : List (List Nat)) (t : Nat) (P : List Nat) : Prop where
  canon : P = (List.range t).filter fun e => decide (e ∈ P)
  closed : ∀ e ∈ P, ∀ e' ∈ ps.getD e [], e' ∈ P
theorem Good.lt {ps : List (List Nat)} {t : Nat} {P : List Nat} (g : Good ps t P) {e : Nat} (h : e ∈ P) : e < t := by
  rw [g.canon] at h
  exact List.mem_range.mp (List.mem_filter.mp h).1
theorem Good.len {ps : List (List Nat)} {t : Nat} {P : List Nat} (g : Good ps t P) : P.length ≤ t := by
  rw [g.canon]
  have := List.length_filter_le (fun e => decide (e ∈ P)) (List.range t)
  simpa using this
theorem Good.nil {ps : List (List Nat)} {t : Nat} : Good ps t [] := ⟨by simp, fun e h => nomatch h⟩

theorem getD_snoc {α : Type} {l : List α} {a d : α} {e : Nat} (h : e < l.length) : (l ++ [a]).getD e d = l.getD e d := by
  simp [List.getD_eq_getElem?_getD, List.getElem?_append_left h]
theorem getD_last {α : Type} {l : List α} {a d : α} : (l ++ [a]).getD l.length d = a := by simp [List.getD_eq_getElem?_getD]

theorem Good.up {ps : List (List Nat)} {t : Nat} {P : List Nat} (g : Good ps t P) (hl : ps.length = t) (N : List Nat) : Good (ps ++ [N]) (t + 1) P := by
  refine ⟨?_, fun e h e' h' => ?_⟩
  · rw [List.range_succ, List.filter_append, ← g.canon]
    have : t ∉ P := fun h => Nat.lt_irrefl _ (g.lt h)
    simp [this]
  · have hlt := g.lt h
    rw [getD_snoc (by omega)] at h'
    exact g.closed e h e' h'
theorem Good.new {ps : List (List Nat)} {t : Nat} {P : List Nat} (g : Good ps t P) (hl : ps.length = t) : Good (ps ++ [P ++ [t]]) (t + 1) (P ++ [t]) := by
  refine ⟨?_, fun e h e' h' => ?_⟩
  · rw [List.range_succ, List.filter_append]
    have h1 : (List.range t).filter (fun e => decide (e ∈ P ++ [t])) = P := by
      conv => rhs; rw [g.canon]
      refine List.filter_congr fun e he => ?_
      have : e ≠ t := by have := List.mem_range.mp he; omega
      simp [this]
    rw [h1]; simp
  · rcases List.mem_append.mp h with h | h
    · have hlt := g.lt h
      rw [getD_snoc (by omega)] at h'
      exact List.mem_append.mpr (.inl (g.closed e h e' h'))
    · have : e = t := List.mem_singleton.mp h
      subst this
      have hs : (ps ++ [P ++ [e]]).getD e [] = P ++ [e] := by
        have := getD_last (l := ps) (a := P ++ [e]) (d := [])
        rw [hl] at this; exact this
      rw [hs] at h'
      exact h'
theorem Good.union {ps : List (List Nat)} {t : Nat} {P Q : List Nat} (g : Good ps t P) (g' : Good ps t Q) : Good ps t ((List.range t).filter fun e => decide (e ∈ P) || decide (e ∈ Q)) := by
  have mem : ∀ e, e ∈ ((List.range t).filter fun e => decide (e ∈ P) || decide (e ∈ Q)) ↔ e ∈ P ∨ e ∈ Q := fun e => by
    rw [List.mem_filter, List.mem_range]
    constructor
    · rintro ⟨_, h⟩
      simpa using h
    · intro h
      refine ⟨?_, by simpa using h⟩
      rcases h with h | h
      · exact g.lt h
      · exact g'.lt h
  refine ⟨?_, fun e h e' h' => ?_⟩
  · refine List.filter_congr fun e he => ?_
    rw [Bool.eq_iff_iff, decide_eq_true_iff, mem]
    simp
  · rw [mem] at h ⊢
    rcases h with h | h
    · exact .inl (g.closed e h e' h')
    · exact .inr (g'.closed e h e' h')

/-- what the counts say -/
theorem filter_mono {l : List Nat} {p q : Nat → Bool} (h : ∀ e ∈ l, p e = true → q e = true) : (l.filter p).length ≤ (l.filter q).length := by
  rw [← List.countP_eq_length_filter, ← List.countP_eq_length_filter]
  exact List.countP_mono_left h
theorem cnt_range {ps : List (List Nat)} {t : Nat} {P hs : List Nat} (g : Good ps t P) (k : Nat) : cnt hs P k = ((List.range t).filter fun e => decide (e ∈ P) && (hs.getD e 3 == k)).length := by
  unfold cnt
  conv => lhs; rw [g.canon]
  rw [List.filter_filter]
  congr 1
  refine List.filter_congr fun e _ => ?_
  rw [Bool.and_comm]
theorem cnt_mono {ps : List (List Nat)} {t : Nat} {P Q hs : List Nat} (g : Good ps t P) (g' : Good ps t Q) {k : Nat} (h : ∀ e ∈ P, hs.getD e 3 = k → e ∈ Q) : cnt hs P k ≤ cnt hs Q k := by
  rw [cnt_range g, cnt_range g']
  refine filter_mono fun e _ he => ?_
  simp only [Bool.and_eq_true, decide_eq_true_eq, beq_iff_eq] at he ⊢
  exact ⟨h e he.1 he.2, he.2⟩
theorem filter_lt {l : List Nat} {p q : Nat → Bool} (h : ∀ e ∈ l, p e = true → q e = true) {a : Nat} (ha : a ∈ l) (hp : p a = false) (hq : q a = true) : (l.filter p).length < (l.filter q).length := by
  induction l with
  | nil => cases ha
  | cons b l ih =>
    have h' : ∀ e ∈ l, p e = true → q e = true := fun e he => h e (List.mem_cons_of_mem _ he)
    rcases List.mem_cons.mp ha with rfl | ha'
    · rw [List.filter_cons_of_neg (by simp [hp]), List.filter_cons_of_pos hq, List.length_cons]
      have := filter_mono h'
      omega
    · have := ih h' ha'
      have hb := h b List.mem_cons_self
      cases hpb : p b with
      | true =>
        rw [List.filter_cons_of_pos hpb, List.filter_cons_of_pos (hb hpb)]
        simp; omega
      | false =>
        rw [List.filter_cons_of_neg (by simp [hpb])]
        cases hqb : q b with
        | true => rw [List.filter_cons_of_pos hqb, List.length_cons]; omega
        | false => rw [List.filter_cons_of_neg (by simp [hqb])]; exact this
theorem cnt_lt {ps : List (List Nat)} {t : Nat} {P Q hs : List Nat} (g : Good ps t P) (g' : Good ps t Q) {k a : Nat} (h : ∀ e ∈ P, hs.getD e 3 = k → e ∈ Q) (ha : a ∈ Q) (hna : a ∉ P) (hk : hs.getD a 3 = k) : cnt hs P k < cnt hs Q k := by
  rw [cnt_range g, cnt_range g']
  refine filter_lt (a := a) (fun e _ he => ?_) (List.mem_range.mpr (g'.lt ha)) (by simp [hna]) (by simp [ha]; simpa using hk)
  simp only [Bool.and_eq_true, decide_eq_true_eq, beq_iff_eq] at he ⊢
  exact ⟨h e he.1 he.2, he.2⟩

structure Inv (t : Nat) (s : VS) : Prop where
  lh : s.homes.length = t
  lp : s.pasts.length = t
  lc : s.clocks.length = t
  h3 : ∀ e, e < t → s.homes.getD e 3 < 3
  pg : ∀ f, f < t → Good s.pasts t (s.pasts.getD f [])
  self : ∀ f, f < t → f ∈ s.pasts.getD f []
  same : ∀ f, f < t → ∀ e, e ≤ f → s.homes.getD e 3 = s.homes.getD f 3 → e ∈ s.pasts.getD f []
  ck : ∀ f, f < t → s.clocks.getD f [] = [cnt s.homes (s.pasts.getD f []) 0, cnt s.homes (s.pasts.getD f []) 1, cnt s.homes (s.pasts.getD f []) 2]
  lg : ∀ i, Good s.pasts t (s.lasts i)
  lall : ∀ e, e < t → e ∈ s.lasts (s.homes.getD e 3)
  dd : ∀ i k, s.d i k = cnt s.homes (s.lasts i) k + 1
  wt : ∀ L ∈ s.wait, Good s.pasts t L.came ∧ L.q < 3 ∧ L.o < 3 ∧ ∀ k, L.d k = cnt s.homes L.came k + 1

/-- of two pasts one holds the other's events of one host -/
theorem one_holds {t : Nat} {s : VS} (I : Inv t s) {P Q : List Nat} (g : Good s.pasts t P) (g' : Good s.pasts t Q) (k : Nat) :
    (∀ e ∈ P, s.homes.getD e 3 = k → e ∈ Q) ∨ (∀ e ∈ Q, s.homes.getD e 3 = k → e ∈ P) := by
  by_cases h : ∀ e ∈ P, s.homes.getD e 3 = k → e ∈ Q
  · exact .inl h
  · refine .inr fun e he hk => ?_
    simp only [Classical.not_forall] at h
    obtain ⟨a, ha, hak, haQ⟩ := h
    rcases Nat.lt_or_ge e a with hlt | hge
    · exact g.closed a ha e (I.same a (g.lt ha) e (by omega) (hk.trans hak.symm))
    · exact absurd (g'.closed e he a (I.same e (g'.lt he) a hge (hak.trans hk.symm))) haQ
theorem cnt_union {t : Nat} {s : VS} (I : Inv t s) {P Q : List Nat} (g : Good s.pasts t P) (g' : Good s.pasts t Q) (k : Nat) :
    cnt s.homes ((List.range t).filter fun e => decide (e ∈ P) || decide (e ∈ Q)) k = if cnt s.homes P k + 1 > cnt s.homes Q k + 1 then cnt s.homes P k else cnt s.homes Q k := by
  have gu := g.union g'
  have mem : ∀ e, e ∈ ((List.range t).filter fun e => decide (e ∈ P) || decide (e ∈ Q)) → e ∈ P ∨ e ∈ Q := fun e h => by
    have := (List.mem_filter.mp h).2
    simpa using this
  have memP : ∀ e, e ∈ P → e ∈ ((List.range t).filter fun e => decide (e ∈ P) || decide (e ∈ Q)) := fun e h => List.mem_filter.mpr ⟨List.mem_range.mpr (g.lt h), by simp [h]⟩
  have memQ : ∀ e, e ∈ Q → e ∈ ((List.range t).filter fun e => decide (e ∈ P) || decide (e ∈ Q)) := fun e h => List.mem_filter.mpr ⟨List.mem_range.mpr (g'.lt h), by simp [h]⟩
  rcases one_holds I g g' k with h | h
  · have e1 := cnt_mono (hs := s.homes) g g' h
    have e2 := cnt_mono (hs := s.homes) gu g' (k := k) fun e he hk => (mem e he).elim (fun hp => h e hp hk) id
    have e3 := cnt_mono (hs := s.homes) g' gu (k := k) fun e he _ => memQ e he
    rw [if_neg (by omega)]; omega
  · have e1 := cnt_mono (hs := s.homes) g' g h
    have e2 := cnt_mono (hs := s.homes) gu g (k := k) fun e he hk => (mem e he).elim id fun hq => h e hq hk
    have e3 := cnt_mono (hs := s.homes) g gu (k := k) fun e he _ => memP e he
    split <;> omega

theorem clock_iff {t : Nat} {s : VS} (I : Inv t s) {e f : Nat} (he : e < t) (hf : f < t) :
    (cnt s.homes (s.pasts.getD e []) (s.homes.getD e 3) ≤ cnt s.homes (s.pasts.getD f []) (s.homes.getD e 3) ↔ e ∈ s.pasts.getD f []) ∧
    ((∀ k, k < 3 → cnt s.homes (s.pasts.getD e []) k ≤ cnt s.homes (s.pasts.getD f []) k) ↔ e ∈ s.pasts.getD f []) := by
  have sub : e ∈ s.pasts.getD f [] → ∀ k, cnt s.homes (s.pasts.getD e []) k ≤ cnt s.homes (s.pasts.getD f []) k := fun h k =>
    cnt_mono (I.pg e he) (I.pg f hf) fun e' h' _ => (I.pg f hf).closed e h e' h'
  have back : cnt s.homes (s.pasts.getD e []) (s.homes.getD e 3) ≤ cnt s.homes (s.pasts.getD f []) (s.homes.getD e 3) → e ∈ s.pasts.getD f [] := fun h => by
    refine Classical.byContradiction fun hn => ?_
    have := cnt_lt (hs := s.homes) (I.pg f hf) (I.pg e he) (k := s.homes.getD e 3) (a := e) (fun e' h' hk => ?_) (I.self e he) hn rfl
    · omega
    · have hlt := (I.pg f hf).lt h'
      rcases Nat.lt_or_ge e e' with hl | hg
      · exact absurd ((I.pg f hf).closed e' h' e (I.same e' hlt e (by omega) hk.symm)) hn
      · exact I.same e he e' hg hk
  exact ⟨⟨back, fun h => sub h _⟩, ⟨fun h => back (h _ (I.h3 e he)), fun h k _ => sub h k⟩⟩
end Mine

end

section
open PySem PySem.W PyProof.Rows
set_option maxRecDepth 100000
set_option Elab.async false
set_option linter.unusedVariables false
namespace Mine

theorem cnt_up {ps : List (List Nat)} {hs P : List Nat} {t own : Nat} (g : Good ps t P) (hl : hs.length = t) (k : Nat) : cnt (hs ++ [own]) P k = cnt hs P k := by
  unfold cnt
  congr 1
  refine List.filter_congr fun e he => ?_
  rw [getD_snoc (by have := g.lt he; omega)]
theorem cnt_new {ps : List (List Nat)} {hs P : List Nat} {t own : Nat} (g : Good ps t P) (hl : hs.length = t) (k : Nat) : cnt (hs ++ [own]) (P ++ [t]) k = cnt hs P k + if k = own then 1 else 0 := by
  have h1 := cnt_up (own := own) g hl k
  unfold cnt at h1 ⊢
  rw [List.filter_append, List.length_append, h1]
  have h2 : (hs ++ [own]).getD t 3 = own := by
    have := getD_last (l := hs) (a := own) (d := 3)
    rw [hl] at this; exact this
  congr 1
  rw [List.filter_cons, h2]
  by_cases hk : k = own
  · subst hk; simp
  · have : (own == k) = false := by simp; omega
    rw [this, if_neg hk]; rfl

theorem Inv.fin {t : Nat} {s : VS} (I : Inv t s) {own : Nat} (ho : own < 3) {base : List Nat} (gb : Good s.pasts t base) (hall : ∀ e, e < t → s.homes.getD e 3 = own → e ∈ base) {rows : Nat → Nat} (hr : ∀ k, rows k = cnt s.homes base k + 1) {wait : List Lt}
    (hw : ∀ L ∈ wait, (L.q < 3 ∧ L.o < 3) ∧ ((Good s.pasts t L.came ∧ ∀ k, L.d k = cnt s.homes L.came k + 1) ∨ (L.came = base ++ [t] ∧ L.d = grow own rows))) :
    Inv (t + 1) (Mine.fin s t own rows (base ++ [t]) wait) := by
  have lt' : ∀ e, e < t → (s.homes ++ [own]).getD e 3 = s.homes.getD e 3 := fun e he => getD_snoc (by rw [I.lh]; exact he)
  have last' : (s.homes ++ [own]).getD t 3 = own := by
    have := getD_last (l := s.homes) (a := own) (d := 3)
    rw [I.lh] at this; exact this
  have pt' : ∀ e, e < t → (s.pasts ++ [base ++ [t]]).getD e [] = s.pasts.getD e [] := fun e he => getD_snoc (by rw [I.lp]; exact he)
  have plast : (s.pasts ++ [base ++ [t]]).getD t [] = base ++ [t] := by
    have := getD_last (l := s.pasts) (a := base ++ [t]) (d := [])
    rw [I.lp] at this; exact this
  have ct' : ∀ e, e < t → (s.clocks ++ [[cnt (s.homes ++ [own]) (base ++ [t]) 0, cnt (s.homes ++ [own]) (base ++ [t]) 1, cnt (s.homes ++ [own]) (base ++ [t]) 2]]).getD e [] = s.clocks.getD e [] := fun e he => getD_snoc (by rw [I.lc]; exact he)
  have clast : (s.clocks ++ [[cnt (s.homes ++ [own]) (base ++ [t]) 0, cnt (s.homes ++ [own]) (base ++ [t]) 1, cnt (s.homes ++ [own]) (base ++ [t]) 2]]).getD t [] = [cnt (s.homes ++ [own]) (base ++ [t]) 0, cnt (s.homes ++ [own]) (base ++ [t]) 1, cnt (s.homes ++ [own]) (base ++ [t]) 2] := by
    have := getD_last (l := s.clocks) (a := [cnt (s.homes ++ [own]) (base ++ [t]) 0, cnt (s.homes ++ [own]) (base ++ [t]) 1, cnt (s.homes ++ [own]) (base ++ [t]) 2]) (d := [])
    rw [I.lc] at this; exact this
  have gn := gb.new I.lp
  have hgrow : ∀ k, grow own rows k = cnt (s.homes ++ [own]) (base ++ [t]) k + 1 := fun k => by
    rw [cnt_new gb I.lh]
    unfold grow
    rw [hr]
    omega
  refine ⟨by simp [Mine.fin, I.lh], by simp [Mine.fin, I.lp], by simp [Mine.fin, I.lc], fun e he => ?_, fun f hf => ?_, fun f hf => ?_, fun f hf e he hh => ?_, fun f hf => ?_, fun i => ?_, fun e he => ?_, fun i k => ?_, fun L hL => ?_⟩
  · show (s.homes ++ [own]).getD e 3 < 3
    rcases Nat.lt_or_ge e t with h | h
    · rw [lt' e h]; exact I.h3 e h
    · have : e = t := by omega
      rw [this, last']; exact ho
  · show Good (s.pasts ++ [base ++ [t]]) (t + 1) ((s.pasts ++ [base ++ [t]]).getD f [])
    rcases Nat.lt_or_ge f t with h | h
    · rw [pt' f h]; exact (I.pg f h).up I.lp _
    · have : f = t := by omega
      rw [this, plast]; exact gn
  · show f ∈ (s.pasts ++ [base ++ [t]]).getD f []
    rcases Nat.lt_or_ge f t with h | h
    · rw [pt' f h]; exact I.self f h
    · have : f = t := by omega
      rw [this, plast]; simp
  · show e ∈ (s.pasts ++ [base ++ [t]]).getD f []
    have hh' : (s.homes ++ [own]).getD e 3 = (s.homes ++ [own]).getD f 3 := hh
    rcases Nat.lt_or_ge f t with h | h
    · rw [lt' e (by omega), lt' f h] at hh'
      rw [pt' f h]; exact I.same f h e he hh'
    · have hft : f = t := by omega
      subst hft
      rw [plast]
      rcases Nat.lt_or_ge e f with h' | h'
      · rw [lt' e h', last'] at hh'
        exact List.mem_append.mpr (.inl (hall e h' hh'))
      · have : e = f := by omega
        rw [this]; simp
  · show (s.clocks ++ [_]).getD f [] = [cnt (s.homes ++ [own]) ((s.pasts ++ [base ++ [t]]).getD f []) 0, cnt (s.homes ++ [own]) ((s.pasts ++ [base ++ [t]]).getD f []) 1, cnt (s.homes ++ [own]) ((s.pasts ++ [base ++ [t]]).getD f []) 2]
    rcases Nat.lt_or_ge f t with h | h
    · rw [ct' f h, pt' f h, cnt_up (I.pg f h) I.lh, cnt_up (I.pg f h) I.lh, cnt_up (I.pg f h) I.lh]; exact I.ck f h
    · have hft : f = t := by omega
      subst hft
      rw [clast, plast]
  · show Good (s.pasts ++ [base ++ [t]]) (t + 1) (if i = own then base ++ [t] else s.lasts i)
    split
    · exact gn
    · exact (I.lg i).up I.lp _
  · show e ∈ if (s.homes ++ [own]).getD e 3 = own then base ++ [t] else s.lasts ((s.homes ++ [own]).getD e 3)
    rcases Nat.lt_or_ge e t with h | h
    · rw [lt' e h]
      split
      · rename_i hh
        exact List.mem_append.mpr (.inl (hall e h hh))
      · exact I.lall e h
    · have : e = t := by omega
      rw [this, last', if_pos rfl]; simp
  · show (if i = own then grow own rows else s.d i) k = cnt (s.homes ++ [own]) (if i = own then base ++ [t] else s.lasts i) k + 1
    by_cases hi : i = own
    · rw [if_pos hi, if_pos hi]; exact hgrow k
    · rw [if_neg hi, if_neg hi, cnt_up (I.lg i) I.lh]; exact I.dd i k
  · show Good (s.pasts ++ [base ++ [t]]) (t + 1) L.came ∧ L.q < 3 ∧ L.o < 3 ∧ ∀ k, L.d k = cnt (s.homes ++ [own]) L.came k + 1
    obtain ⟨⟨h1, h2⟩, h3⟩ := hw L hL
    rcases h3 with ⟨h3, h4⟩ | ⟨h3, h4⟩
    · exact ⟨h3.up I.lp _, h1, h2, fun k => by rw [cnt_up h3 I.lh]; exact h4 k⟩
    · rw [h3, h4]
      exact ⟨gn, h1, h2, hgrow⟩

noncomputable def start : VS := ⟨fun _ _ => 1, fun _ => [], [], [], [], []⟩
theorem inv0 : Inv 0 start :=
  ⟨rfl, rfl, rfl, fun e h => by omega, fun f h => by omega, fun f h => by omega, fun f h => by omega, fun f h => by omega, fun i => Good.nil, fun e h => by omega, fun i k => rfl, fun L h => nomatch h⟩

theorem wait_get {s : VS} {i : Nat} (h : i < s.wait.length) : s.wait.getD i l0 ∈ s.wait := by
  rw [List.getD_eq_getElem?_getD, List.getElem?_eq_getElem h, Option.getD_some]
  exact List.getElem_mem h
theorem inv_step {t : Nat} {s : VS} (I : Inv t s) (x : Nat) : Inv (t + 1) (stepV x t s) := by
  unfold stepV
  split
  · rename_i h
    have hpos : 0 < s.wait.length := List.length_pos_iff.mpr h.2
    have hi : x / 2 % s.wait.length < s.wait.length := Nat.mod_lt _ hpos
    obtain ⟨g1, g2, g3, g4⟩ := I.wt _ (wait_get hi)
    show Inv (t + 1) (Mine.fin s t (s.wait.getD (x / 2 % s.wait.length) l0).q _ ((List.range t).filter _ ++ [t]) _)
    refine I.fin g2 ((I.lg _).union g1) (fun e he hh => ?_) (fun k => ?_) fun L hL => ?_
    · refine List.mem_filter.mpr ⟨List.mem_range.mpr he, ?_⟩
      have := I.lall e he
      rw [hh] at this
      rw [Bool.or_eq_true]
      exact .inl (decide_eq_true this)
    · show (if s.d _ k > (s.wait.getD (x / 2 % s.wait.length) l0).d k then s.d _ k else _) = _
      rw [cnt_union I (I.lg _) g1 k, I.dd, g4]
      split <;> rfl
    · have hm : L ∈ s.wait := by
        rcases List.mem_append.mp hL with hL | hL
        · exact List.mem_of_mem_take hL
        · exact List.mem_of_mem_drop hL
      obtain ⟨k1, k2, k3, k4⟩ := I.wt L hm
      exact ⟨⟨k2, k3⟩, .inl ⟨k1, k4⟩⟩
  · show Inv (t + 1) (Mine.fin s t (x / 2 % 3) (s.d (x / 2 % 3)) (s.lasts (x / 2 % 3) ++ [t]) _)
    refine I.fin (Nat.mod_lt _ (by decide)) (I.lg _) (fun e he hh => ?_) (fun k => I.dd _ k) fun L hL => ?_
    · have := I.lall e he
      rw [hh] at this; exact this
    · rcases List.mem_append.mp hL with hL | hL
      · obtain ⟨k1, k2, k3, k4⟩ := I.wt L hL
        exact ⟨⟨k2, k3⟩, .inl ⟨k1, k4⟩⟩
      · rw [List.mem_singleton.mp hL]
        exact ⟨⟨Nat.mod_lt _ (by decide), Nat.mod_lt _ (by decide)⟩, .inr ⟨rfl, rfl⟩⟩

theorem Inv.small {t : Nat} {s : VS} (I : Inv t s) (i k : Nat) : 0 < s.d i k ∧ s.d i k ≤ t + 1 := by
  rw [I.dd]
  refine ⟨by omega, ?_⟩
  have h1 := (I.lg i).len
  have h2 : cnt s.homes (s.lasts i) k ≤ (s.lasts i).length := List.length_filter_le _ _
  omega
theorem Inv.wsmall {t : Nat} {s : VS} (I : Inv t s) {L : Lt} (hL : L ∈ s.wait) (k : Nat) : 0 < L.d k ∧ L.d k ≤ t + 1 := by
  obtain ⟨g, _, _, h⟩ := I.wt L hL
  rw [h]
  refine ⟨by omega, ?_⟩
  have h1 := g.len
  have h2 : cnt s.homes L.came k ≤ L.came.length := List.length_filter_le _ _
  omega
theorem step_wait_len {t : Nat} {s : VS} (x : Nat) : (stepV x t s).wait.length ≤ s.wait.length + 1 := by
  unfold stepV
  split
  · show (s.wait.take _ ++ s.wait.drop _).length ≤ _
    rw [List.length_append, List.length_take, List.length_drop]; omega
  · show (s.wait ++ [_]).length ≤ _
    simp
end Mine

end

section
open PySem PySem.W PyProof.Rows
set_option maxRecDepth 100000
set_option Elab.async false
set_option linter.unusedVariables false
namespace Mine

/-- the same frame but for the names -/
structure Nx (F G : Fm) : Prop where
  like : Like F G
  X : G.X = F.X
theorem Nx.refl (F : Fm) : Nx F F := ⟨Like.refl F, rfl⟩
theorem Like.trans {F G H : Fm} (a : Like F G) (b : Like G H) : Like F H :=
  ⟨b.prog.trans a.prog, b.w.trans a.w, b.T.trans a.T, b.n.trans a.n, b.A.trans a.A, b.env.trans a.env, b.base.trans a.base, b.wc.trans a.wc, b.wm.trans a.wm, b.pin.trans a.pin, b.gpin.trans a.gpin⟩
theorem Nx.trans {F G H : Fm} (a : Nx F G) (b : Nx G H) : Nx F H := ⟨a.like.trans b.like, b.X.trans a.X⟩

section
variable {F : Fm} {rest : List Stmt} {Q : Flow → Shared → Prop} {E : Value → Shared → Prop} {s : Shared}

theorem xset {x : Str} {px p : Pos} {value : Expr} {d : Dat} (o : F.Ok s) (hv : Ev F value d) (hx : Stor F x) (hs : swapsWith value (some (.Name x px)) p.line F.env = pure false)
    (k : ∀ G s', Nx F G → G.Ok s' → G.ρ x = some d → (∀ y, y ≠ x → G.ρ y = F.ρ y) → (∀ y, y ≠ x → G.mt y = F.mt y) → Go G rest Q E s') : Go F (.Assign [.Name x px] value p :: rest) Q E s :=
  xassign o hv hx hs fun s' o' => k (F.set x d) s' ⟨⟨rfl, rfl, rfl, rfl, rfl, rfl, rfl, rfl, rfl, rfl, rfl⟩, rfl⟩ o' upd_self (fun y hy => upd_other hy) (fun y hy => upd_other hy)
theorem xset2 {x y : Str} {px py tp p : Pos} {tk : Nat} {e : Expr} {d1 d2 : Dat} (o : F.Ok s) (he : Ev F e (.tuple [d1, d2])) (hx : Stor F x) (hy : Stor F y)
    (hs : swapsWithSole [.Tuple [.Name x px, .Name y py] tk tp] e p.line F.env = pure false) (hw : swappedStores [.Tuple [.Name x px, .Name y py] tk tp] e F.env = pure none) (hxy : x ≠ y)
    (k : ∀ G s', Nx F G → G.Ok s' → G.ρ x = some d1 → G.ρ y = some d2 → (∀ z, z ≠ x → z ≠ y → G.ρ z = F.ρ z) → (∀ z, z ≠ x → z ≠ y → G.mt z = F.mt z) → Go G rest Q E s') :
    Go F (.Assign [.Tuple [.Name x px, .Name y py] tk tp] e p :: rest) Q E s :=
  xtwo o he hx hy hs hw fun s' o' => k ((F.set x d1).set y d2) s' ⟨⟨rfl, rfl, rfl, rfl, rfl, rfl, rfl, rfl, rfl, rfl, rfl⟩, rfl⟩ o' ((upd_other hxy).trans upd_self) upd_self (fun z h1 h2 => (upd_other h2).trans (upd_other h1)) (fun z h1 h2 => (upd_other h2).trans (upd_other h1))
theorem xsetc {y : Str} {py p : Pos} {elt target iter : Expr} {ifs : List Expr} {scope : Scope} {pos : Pos} {names : List Str} {dss : List (List Dat)} {keep : List Dat → Bool} {fn : List Dat → Dat} (o : F.Ok s)
    (hsw : swapsWith (.ListComp elt [⟨target, iter, ifs, 0⟩] scope pos) (some (.Name y py)) p.line F.env = pure true) (hy : Stor F y)
    (src : Src F iter target names dss) (S : ScOk F scope names) (hnd : names.Nodup) (hsz : dss.length < sizeLine) (hs : ∀ x, foldedSetIterable iter F.env x = pure x)
    (hturn : ∀ ds ∈ dss, ∀ H, CompFr F scope names ds H → TL H ifs (keep ds) ∧ (keep ds = true → Ev H elt (fn ds)))
    (k : ∀ G s', Nx F G → G.Ok s' → G.ρ y = some (.list ((dss.filter keep).map fn)) → (∀ z, z ≠ y → G.ρ z = F.ρ z) → (∀ z, z ≠ y → G.mt z = F.mt z) → Go G rest Q E s') :
    Go F (.Assign [.Name y py] (.ListComp elt [⟨target, iter, ifs, 0⟩] scope pos) p :: rest) Q E s :=
  xcomp o hsw hy src S hnd hsz hs hturn fun s' o' => k (F.set y (.list ((dss.filter keep).map fn))) s' ⟨⟨rfl, rfl, rfl, rfl, rfl, rfl, rfl, rfl, rfl, rfl, rfl⟩, rfl⟩ o' upd_self (fun y hy => upd_other hy) (fun y hy => upd_other hy)
theorem xpush {x : Str} {np apos p q : Pos} {e : Expr} {a : Addr} {ds : List Dat} {d : Dat} (o : F.Ok s) (hx : F.mt x = some (a, ds)) (hwm : x ∈ F.wm)
    (hl : F.env.kindOf x = some .local ∨ F.env.kindOf x = some .cell ∨ F.env.kindOf x = some .free) (hd : (x == ("__debug__" : Str)) = false) (hn : (x == ("__classdict__" : Str)) = false)
    (he : Ev F e d) (hsz : ds.length < sizeLine) (hi : interactive F.env = false) (hline : (apos.endLine == p.line) = true) (hst : notStar e = true)
    (k : ∀ G s', Nx F G → G.Ok s' → (∀ y, G.ρ y = F.ρ y) → G.mt x = some (a, ds ++ [d]) → (∀ y, y ≠ x → G.mt y = F.mt y) → Go G rest Q E s') :
    Go F (.Expr (.Call (.Attribute (.Name x np) (Str.ofString "append") apos) [e] [] p) q :: rest) Q E s :=
  xappend o hx hwm hl hd hn he hsz hi hline hst fun s' o' => k (F.app x a (ds ++ [d])) s' ⟨⟨rfl, rfl, rfl, rfl, rfl, rfl, rfl, rfl, rfl, rfl, rfl⟩, rfl⟩ o' (fun _ => rfl) upd_self (fun y hy => upd_other hy)
end

/-! comparing -/
theorem noB_ok : ∀ (n : Nat) (d : Dat), kqdOk n d = true → noB d = true := by
  have all : ∀ (n : Nat), (∀ d, kqdOk n d = true → noB d = true) → ∀ ds : List Dat, (∀ d ∈ ds, kqdOk n d = true) → noBs ds = true := by
    intro n ih ds
    induction ds with
    | nil => intro _; rfl
    | cons d ds hi =>
      intro h
      rw [noBs, ih d (h d List.mem_cons_self), hi fun e he => h e (List.mem_cons_of_mem _ he)]; rfl
  intro n
  induction n with
  | zero => intro d h; cases d <;> simp_all [kqdOk, noB]
  | succ n ih =>
    intro d h
    cases d with
    | none => rfl
    | bool b => rfl
    | int i => rfl
    | str x => rfl
    | bytes b => simp [kqdOk] at h
    | tuple ds => rw [noB]; exact all n ih ds (by simpa [kqdOk] using h)
    | list ds => rw [noB]; exact all n ih ds (by simpa [kqdOk] using h)
theorem cmpOk_of {n : Nat} {d : Dat} (h : kqdOk n d = true) (hn : n ≤ 64) : cmpOk d = true := by
  have h1 := kqd_lay n d h
  unfold cmpOk
  rw [noB_ok n d h, Bool.true_and]
  show ((kqdP d).canLay0 && decide ((kqdP d).depth ≤ 64)) = true
  rw [h1.1, Bool.true_and]
  exact decide_eq_true (by omega)
theorem CmpR.neSame {F : Fm} {n : Nat} {a : Dat} (h : kqdOk n a = true) (hn : n ≤ 64) : CmpR F .NotEq a a false := by
  have := CmpR.ne (F := F) (cmpOk_of h hn) (cmpOk_of h hn)
  rw [(kqd_eqv n a a n h h).mpr rfl] at this
  exact this
theorem CmpR.neDiff {F : Fm} {n k : Nat} {a b : Dat} (h : kqdOk n a = true) (hn : n ≤ 64) (h' : kqdOk k b = true) (hk : k ≤ 64) (hab : a ≠ b) : CmpR F .NotEq a b true := by
  have := CmpR.ne (F := F) (cmpOk_of h hn) (cmpOk_of h' hk)
  have e : PyData.eqv (kqdP a) (kqdP b) = false := by
    cases hb : PyData.eqv (kqdP a) (kqdP b) with
    | false => rfl
    | true => exact absurd ((kqd_eqv n a b k h h').mp hb) hab
  rw [e] at this
  exact this

/-! the data of the law -/
noncomputable def natI (n : Nat) : Dat := .int (n : Int)
noncomputable def intsD (P : List Nat) : Dat := .list ((P.map fun (n : Nat) => (n : Int)).map Dat.int)
theorem intsD_eq (P : List Nat) : intsD P = .list (P.map natI) := by
  unfold intsD; rw [List.map_map]; rfl
noncomputable def rowD (r : Nat → Nat) : Dat := .list [.str (dotS (r 0)), .str (dotS (r 1)), .str (dotS (r 2))]
noncomputable def statesD (d : Nat → Nat → Nat) : Dat := .list [rowD (d 0), rowD (d 1), rowD (d 2)]
noncomputable def lastsD (l : Nat → List Nat) : Dat := .list [intsD (l 0), intsD (l 1), intsD (l 2)]
noncomputable def nm : Nat → Nat
  | 0 => 43
  | 1 => 45
  | _ => 42
noncomputable def headL (o q : Nat) : List Nat := [nm o, 39, nm q, 39]
noncomputable def textL (L : Lt) : List Nat := restQ L.o (tkOf (headL L.o L.q) L.o) (hOf L.x) L.d
noncomputable def partsL (L : Lt) : Dat := .list [.str (st [nm L.o]), .str (st [nm L.q]), .str (st (textL L))]
noncomputable def letterD (L : Lt) : Dat := .tuple [partsL L, intsD L.came]
noncomputable def waitD (w : List Lt) : Dat := .list (w.map letterD)

theorem strOk_st {l : List Nat} (h : ∀ c ∈ l, c < 128) : PyData.strOk (st l) = true := by
  unfold PyData.strOk st
  rw [Array.all_eq_true_iff_forall_mem]
  intro c hc
  have := h c (by simpa using hc)
  simp; omega
theorem nm_lt (k : Nat) : nm k < 128 := by unfold nm; split <;> decide
theorem ints_ok (n : Nat) (P : List Int) : kqdOk (n + 1) (.list (P.map Dat.int)) = true := by
  show (P.map Dat.int).all (kqdOk n) = true
  rw [List.all_eq_true]
  intro d hd
  obtain ⟨i, _, rfl⟩ := List.mem_map.mp hd
  cases n <;> rfl
theorem text_ok (L : Lt) : ∀ c ∈ textL L, c < 128 := (small_rest _ _ _ _).1
theorem str_ok {n : Nat} {x : Str} (h : PyData.strOk x = true) : kqdOk n (.str x) = true := by cases n <;> exact h
theorem letter_ok (L : Lt) : kqdOk 2 (letterD L) = true := by
  show [partsL L, intsD L.came].all (kqdOk 1) = true
  have h1 : kqdOk 1 (partsL L) = true := by
    show [Dat.str (st [nm L.o]), Dat.str (st [nm L.q]), Dat.str (st (textL L))].all (kqdOk 0) = true
    simp only [List.all_cons, List.all_nil, Bool.and_true, Bool.and_eq_true]
    refine ⟨str_ok (strOk_st ?_), str_ok (strOk_st ?_), str_ok (strOk_st (text_ok L))⟩
    · intro c hc; rw [List.mem_singleton.mp hc]; exact nm_lt _
    · intro c hc; rw [List.mem_singleton.mp hc]; exact nm_lt _
  have h2 : kqdOk 1 (intsD L.came) = true := ints_ok 0 _
  simp [h1, h2]
theorem wait_ok (w : List Lt) : kqdOk 3 (waitD w) = true := by
  show (w.map letterD).all (kqdOk 2) = true
  rw [List.all_eq_true]
  intro d hd
  obtain ⟨L, _, rfl⟩ := List.mem_map.mp hd
  exact letter_ok L
end Mine

end

section
open PySem PySem.W PyProof.Rows
set_option maxRecDepth 100000
set_option Elab.async false
set_option linter.unusedVariables false
namespace Mine

noncomputable abbrev nD (x : String) : Str := Str.ofString x
structure LE (prog : Program) (w : World) (T : TopT) (G : Fm) : Prop where
  prog : G.prog = prog
  w : G.w = w
  T : G.T = T
  n : G.n = 3
  kind : ∀ y, G.env.kindOf y = (scopeOf 68).names.lookup y
  hint : interactive G.env = false
  wc : G.wc = [Str.ofString "lasts", Str.ofString "homes", Str.ofString "came", Str.ofString "own", Str.ofString "past"]
  wm : G.wm = [Str.ofString "homes", Str.ofString "pasts", Str.ofString "clocks"]
theorem LE.nx {prog : Program} {w : World} {T : TopT} {F G : Fm} (E : LE prog w T F) (N : Nx F G) : LE prog w T G :=
  ⟨N.like.prog.trans E.prog, N.like.w.trans E.w, N.like.T.trans E.T, N.like.n.trans E.n, fun y => by rw [N.like.env]; exact E.kind y, by rw [N.like.env]; exact E.hint, N.like.wc.trans E.wc, N.like.wm.trans E.wm⟩

structure TabE (D : List (PyData × PyData)) : Prop where
  dots : TabD D
  p : Spec.lookup (.str (st [43])) D = some (.int 14)
  m : Spec.lookup (.str (st [45])) D = some (.int 15)
  s : Spec.lookup (.str (st [42])) D = some (.int 16)
theorem TabE.nm {D : List (PyData × PyData)} (E : TabE D) {k : Nat} (h : k < 3) : Spec.lookup (.str (st [Mine.nm k])) D = some (.int ((14 + k : Nat) : Int)) := by
  match k, h with
  | 0, _ => exact E.p
  | 1, _ => exact E.m
  | 2, _ => exact E.s

structure LI (prog : Program) (w : World) (T : TopT) : Prop where
  sent : SentIn prog w T
  K9 : FnAt T 9 [sAddr] (Str.ofString "_iter_escaped_chars")
  K10 : FnAt T 10 [sAddr] (Str.ofString "_strip_quoted_realnames")
  K63 : FnAt T 63 [Str.ofString "x"] (Str.ofString "ISNONTERMINAL")
  K66 : FnAt T 66 [Str.ofString "text"] (Str.ofString "_law_rows")
  K67 : FnAt T 67 [Str.ofString "row"] (Str.ofString "_law_numbers")
  gEn : T.G (Str.ofString "enumerate") = some (.type "enumerate")
  gSum : T.G (Str.ofString "sum") = some (.builtin "sum")
  gMax : T.G (Str.ofString "max") = some (.builtin "max")
  gZip : T.G (Str.ofString "zip") = some (.type "zip")
  gType : T.G (Str.ofString "type") = some (.type "type")
  gTuple : T.G (Str.ofString "tuple") = some (.type "tuple")
  gNT : ∃ t, T.G (Str.ofString "NT_OFFSET") = some (.int 256 t)
  tab : ∃ tab D, T.G (Str.ofString "EXACT_TOKEN_TYPES") = some (.ref tab) ∧ (∀ h, T.In h → StrTab prog w h tab D) ∧ TabE D

/-! comprehensions over numbers -/
noncomputable def keepN (p : Nat → Bool) : List Dat → Bool := fun ds => match ds with | [.int i] => p i.toNat | _ => false
noncomputable def fnN : List Dat → Dat := fun ds => ds.headD .none
theorem compInts (p : Nat → Bool) : ∀ P : List Nat, ((((P.map fun (n : Nat) => (n : Int)).map Dat.int).map fun d => [d]).filter (keepN p)).map fnN = ((P.filter p).map fun (n : Nat) => (n : Int)).map Dat.int
  | [] => rfl
  | n :: P => by
    have ih := compInts p P
    simp only [List.map_cons, List.filter_cons]
    have e : keepN p [Dat.int (n : Int)] = p n := by show p ((n : Int).toNat) = _; rw [Int.toNat_natCast]
    rw [e]
    cases p n with
    | true => simp only [if_true, List.map_cons, ih]; rfl
    | false => simpa using ih
theorem scal_ints (l : List Int) : (l.map Dat.int).all scal = true := by
  rw [List.all_eq_true]
  intro d hd
  obtain ⟨i, _, rfl⟩ := List.mem_map.mp hd
  rfl

section
variable {prog : Program} {w : World} {T : TopT} {F : Fm} {s : Shared}

/-- the counts of a past -/
theorem Ev.counts (I : LI prog w T) (E : LE prog w T F) {hs past : List Nat} {aH : Addr} (mH : F.mt (Str.ofString "homes") = some (aH, hs.map natI)) (rP : F.ρ (Str.ofString "past") = some (intsD past)) (hlt : ∀ e ∈ past, e < hs.length) (hl : hs.length ≤ 100) (hp : past.length ≤ 100) :
    Ev F (match nth ((forBody (nth (bodyOf 68) 7)).drop 2) 2 with | .Expr (.Call _ [c] _ _) _ => c | _ => .Constant .none 0 ⟨0, 0, 0, 0⟩) (intsD [cnt hs past 0, cnt hs past 1, cnt hs past 2]) := by
  have kLen : F.env.kindOf (Str.ofString "len") = some .globalImplicit := (E.kind _).trans (by decide +kernel)
  have kRange : F.env.kindOf (Str.ofString "range") = some .globalImplicit := (E.kind _).trans (by decide +kernel)
  have kHomes : F.env.kindOf (Str.ofString "homes") = some .cell := (E.kind _).trans (by decide +kernel)
  have kPast : F.env.kindOf (Str.ofString "past") = some .cell := (E.kind _).trans (by decide +kernel)
  have hsz := sizeLine_eq
  have e : intsD [cnt hs past 0, cnt hs past 1, cnt hs past 2] = .list (((((List.range 3).map fun (i : Nat) => Dat.int i).map fun d => [d]).filter (keepN fun _ => true)).map fun ds => match ds with | [.int i] => .int (cnt hs past i.toNat : Nat) | _ => .none) := rfl
  rw [e]
  refine Ev.comp (names := [Str.ofString "k"]) (Src.range (n := 3) (by rw [E.T]; exact I.sent.gRange) kRange (by decide +kernel) (Ev.nat rfl) (by decide) rfl) (ScOk.mk2 rfl (by decide +kernel) (fun x hx => ?_) (by decide +kernel) (by decide +kernel)) (by decide +kernel) (by simp [sizeLine]) (fun _ => rfl) ?_
  · have hx' : x ∈ [Str.ofString "homes", Str.ofString "past"] := hx
    simp only [List.mem_cons, List.not_mem_nil, or_false] at hx'
    rcases hx' with rfl | rfl
    · exact .inl kHomes
    · exact .inl kPast
  · intro ds hds H fr
    obtain ⟨k, hk, rfl⟩ : ∃ k : Nat, k < 3 ∧ ds = [.int (k : Int)] := by
      simp only [List.map_map, List.mem_map, List.mem_range] at hds
      obtain ⟨k, hk, rfl⟩ := hds
      exact ⟨k, hk, rfl⟩
    refine ⟨.inl ⟨rfl, rfl⟩, fun _ => ?_⟩
    have kHomes' : H.env.kindOf (Str.ofString "homes") = some .cell ∨ H.env.kindOf (Str.ofString "homes") = some .free := fr.free _ (by decide +kernel)
    have kPast' : H.env.kindOf (Str.ofString "past") = some .cell ∨ H.env.kindOf (Str.ofString "past") = some .free := fr.free _ (by decide +kernel)
    have kK' : H.env.kindOf (Str.ofString "k") = some .cell := fr.kind _ _ (by decide +kernel) (by decide)
    have kLen' : H.env.kindOf (Str.ofString "len") = some .globalImplicit := fr.kind _ _ (by decide +kernel) (by decide)
    have rK' : H.ρ (Str.ofString "k") = some (.int (k : Nat)) := fr.tgt 0 _ _ rfl rfl
    have rP' : H.ρ (Str.ofString "past") = some (.list ((past.map fun (n : Nat) => (n : Int)).map Dat.int)) := (fr.fr _ (by decide +kernel)).trans rP
    have mH' : H.mt (Str.ofString "homes") = some (aH, hs.map natI) := (fr.fm _ (by decide +kernel)).trans mH
    have inner : ∀ {pos pos2 pos3 pos4 pos5 pos6 pos7 pos8 pos9 sc}, sc = ({ kind := .function, names := [(Str.ofString ".0", .local), (Str.ofString "e", .local), (Str.ofString "homes", .free), (Str.ofString "k", .free)], isGenerator := false, isCoroutine := false, more := [] } : Scope) →
        Ev H (.ListComp (.Name (Str.ofString "e") pos2) [⟨.Name (Str.ofString "e") pos3, .Name (Str.ofString "past") pos4, [.Compare (.Subscript (.Name (Str.ofString "homes") pos5) (.Name (Str.ofString "e") pos6) pos7) [.Eq] [.Name (Str.ofString "k") pos8] pos9], 0⟩] sc pos)
          (.list (((past.filter fun e => hs.getD e 3 == k).map fun (n : Nat) => (n : Int)).map Dat.int)) := by
      intro pos pos2 pos3 pos4 pos5 pos6 pos7 pos8 pos9 sc hsc
      subst hsc
      rw [← compInts]
      refine Ev.comp (names := [Str.ofString "e"]) (Src.list (Ev.name rP' (.inr kPast') (by decide +kernel) (by decide +kernel)) (scal_ints _)) (ScOk.mk2 rfl (by decide +kernel) (fun x hx => ?_) (by decide +kernel) (by decide +kernel)) (by decide +kernel) (by simp; omega) (fun _ => rfl) ?_
      · have hx' : x ∈ [Str.ofString "homes", Str.ofString "k"] := hx
        simp only [List.mem_cons, List.not_mem_nil, or_false] at hx'
        rcases hx' with rfl | rfl
        · exact kHomes'
        · exact .inl kK'
      · intro ds hds H2 fr2
        obtain ⟨e, he, rfl⟩ : ∃ e : Nat, e ∈ past ∧ ds = [.int (e : Int)] := by
          simp only [List.map_map, List.mem_map] at hds
          obtain ⟨e, he, rfl⟩ := hds
          exact ⟨e, he, rfl⟩
        have kE2 : H2.env.kindOf (Str.ofString "e") = some .local := fr2.kind _ _ (by decide +kernel) (by decide)
        have rE2 : H2.ρ (Str.ofString "e") = some (.int (e : Nat)) := fr2.tgt 0 _ _ rfl rfl
        have rK2 : H2.ρ (Str.ofString "k") = some (.int (k : Nat)) := (fr2.fr _ (by decide +kernel)).trans rK'
        have mH2 : H2.mt (Str.ofString "homes") = some (aH, hs.map natI) := (fr2.fm _ (by decide +kernel)).trans mH'
        have hlt' := hlt e he
        have hget : (hs.map natI)[((e : Nat) : Int).toNat]? = some (.int (hs.getD e 3 : Nat)) := by
          rw [Int.toNat_natCast, List.getElem?_map, List.getElem?_eq_getElem hlt', List.getD_eq_getElem?_getD, List.getElem?_eq_getElem hlt']; rfl
        refine ⟨.inr ⟨_, rfl, ?_⟩, fun _ => Ev.name_local rE2 kE2 (by decide +kernel)⟩
        have hb : keepN (fun e => hs.getD e 3 == k) [Dat.int (e : Int)] = (((hs.getD e 3 : Nat) : Int) == ((k : Nat) : Int)) := by
          show (hs.getD ((e : Int).toNat) 3 == k) = _
          rw [Int.toNat_natCast, Bool.eq_iff_iff, beq_iff_eq, beq_iff_eq]
          omega
        rw [hb]
        exact Tst.cmp (Ev.itemM mH2 (.inr (fr2.free _ (by decide +kernel))) (by decide +kernel) (by decide +kernel) (Ev.name_local rE2 kE2 (by decide +kernel)) (by omega) (by omega) hget) (Ev.name rK2 (.inr (fr2.free _ (by decide +kernel))) (by decide +kernel) (by decide +kernel)) CmpR.eqInt (by with_unfolding_all rfl)
    have hlen := Ev.lenL (F := H) (x := Str.ofString "len") (np := ⟨151, 23, 151, 26⟩) (p := ⟨151, 23, 151, 62⟩) (by rw [fr.T, E.T]; exact I.sent.gLen) kLen' (by decide +kernel) (inner (pos := ⟨151, 27, 151, 61⟩) (pos2 := ⟨151, 28, 151, 29⟩) (pos3 := ⟨151, 34, 151, 35⟩) (pos4 := ⟨151, 39, 151, 43⟩) (pos5 := ⟨151, 47, 151, 52⟩) (pos6 := ⟨151, 53, 151, 54⟩) (pos7 := ⟨151, 47, 151, 55⟩) (pos8 := ⟨151, 59, 151, 60⟩) (pos9 := ⟨151, 47, 151, 60⟩) rfl) (by
        rw [List.length_map, List.length_map]
        have := List.length_filter_le (fun e => hs.getD e 3 == k) past
        omega)
    rw [List.length_map, List.length_map] at hlen
    exact hlen
end
end Mine

end

section
open PySem PySem.W PyProof.Rows
set_option maxRecDepth 100000
set_option Elab.async false
set_option linter.unusedVariables false
namespace Mine

noncomputable def tailS : List Stmt := (forBody (nth (bodyOf 68) 7)).drop 2
noncomputable def cmpL : Stmt → Expr
  | .If (.Compare l _ _ _) _ _ _ => l
  | _ => .Constant .none 0 ⟨0, 0, 0, 0⟩
noncomputable def cmpRt : Stmt → Expr
  | .If (.Compare _ _ [r] _) _ _ _ => r
  | _ => .Constant .none 0 ⟨0, 0, 0, 0⟩
noncomputable def numD (n : Nat) : Dat := .list ((numsR n n).map Dat.int)

section
variable {prog : Program} {w : World} {T : TopT} {F : Fm} {s : Shared}

theorem Ev.numbers (I : LI prog w T) (E : LE prog w T F) {g : Nat → Nat} (hg : ∀ k, g k ≤ 100) (rR : F.ρ (Str.ofString "rows") = some (rowD g)) :
    Ev F (cmpL (nth tailS 4)) (.list [numD (g 0), numD (g 1), numD (g 2)]) := by
  have kRows : F.env.kindOf (Str.ofString "rows") = some .local := (E.kind _).trans (by decide +kernel)
  obtain ⟨tab, D, gT, hT, hD⟩ := I.tab
  have e : Dat.list [numD (g 0), numD (g 1), numD (g 2)] = .list (((([Dat.str (dotS (g 0)), Dat.str (dotS (g 1)), Dat.str (dotS (g 2))].map fun d => [d]).filter fun _ => true)).map fun ds => match ds with | [.str x] => numD x.length | _ => .none) := by
    show _ = Dat.list [numD (dotS (g 0)).length, numD (dotS (g 1)).length, numD (dotS (g 2)).length]
    rw [dot_len, dot_len, dot_len]
  rw [e]
  refine Ev.comp (names := [Str.ofString "row"]) (Src.list (Ev.name_local rR kRows (by decide +kernel)) rfl) (ScOk.mk2 rfl (by decide +kernel) (fun x hx => ?_) (by decide +kernel) (by decide +kernel)) (by decide +kernel) (by simp [sizeLine]) (fun _ => rfl) ?_
  · have hx' : x ∈ ([] : List Str) := hx
    cases hx'
  · intro ds hds H fr
    obtain ⟨k, rfl⟩ : ∃ k : Nat, ds = [.str (dotS (g k))] := by
      simp only [List.map_cons, List.map_nil, List.mem_cons, List.not_mem_nil, or_false] at hds
      rcases hds with h | h | h
      · exact ⟨0, h⟩
      · exact ⟨1, h⟩
      · exact ⟨2, h⟩
    refine ⟨.inl ⟨rfl, rfl⟩, fun _ => ?_⟩
    have kRow : H.env.kindOf (Str.ofString "row") = some .local := fr.kind _ _ (by decide +kernel) (by decide)
    have kNum : H.env.kindOf (Str.ofString "_law_numbers") = some .globalImplicit := fr.kind _ _ (by decide +kernel) (by decide)
    have rRow : H.ρ (Str.ofString "row") = some (.str (dotS (g k))) := fr.tgt 0 _ _ rfl rfl
    have c := (cn_numbers (prog := prog) (w := w) I.K67 hT gT I.gMax I.sent.gLen hD.dots (g k) (by have := hg k; omega)).more (m := 3) (by omega)
    show Ev H _ (numD (dotS (g k)).length)
    rw [dot_len]
    refine Ev.callG (by rw [fr.prog, fr.w, fr.T, fr.n, E.prog, E.w, E.T, E.n]; exact c) kNum (by decide +kernel) (EvL.cons (Ev.name_local rRow kRow (by decide +kernel)) EvL.nil) rfl

theorem rep_flat (n : Nat) (i : Int) : (List.replicate n [Dat.int i]).flatten = (List.replicate n i).map Dat.int := by
  induction n with
  | zero => rfl
  | succ n ih => rw [List.replicate_succ, List.flatten_cons, ih, List.replicate_succ, List.map_cons]; rfl

theorem Ev.expected (I : LI prog w T) (E : LE prog w T F) {cs : List (List Nat)} {aC : Addr} {c0 c1 c2 t : Nat} (h0 : c0 ≤ 100) (h1 : c1 ≤ 100) (h2 : c2 ≤ 100) (ht : t < 100) (mC : F.mt (Str.ofString "clocks") = some (aC, cs.map intsD)) (hc : cs[t]? = some [c0, c1, c2]) (rT : F.ρ (Str.ofString "t") = some (.int (t : Nat))) :
    Ev F (cmpRt (nth tailS 4)) (.list [numD (c0 + 1), numD (c1 + 1), numD (c2 + 1)]) := by
  have kC : F.env.kindOf (Str.ofString "clocks") = some .local := (E.kind _).trans (by decide +kernel)
  have kT : F.env.kindOf (Str.ofString "t") = some .local := (E.kind _).trans (by decide +kernel)
  have hget : (cs.map intsD)[((t : Nat) : Int).toNat]? = some (.list ([((c0 : Nat) : Int), ((c1 : Nat) : Int), ((c2 : Nat) : Int)].map Dat.int)) := by
    rw [Int.toNat_natCast, List.getElem?_map, hc]; rfl
  have e : Dat.list [numD (c0 + 1), numD (c1 + 1), numD (c2 + 1)] = .list (((([((c0 : Nat) : Int), ((c1 : Nat) : Int), ((c2 : Nat) : Int)].map Dat.int).map fun d => [d]).filter fun _ => true).map fun ds => match ds with | [.int i] => numD (i.toNat + 1) | _ => .none) := rfl
  rw [e]
  refine Ev.comp (names := [Str.ofString "n"]) (Src.list (Ev.itemM mC (.inl kC) (by decide +kernel) (by decide +kernel) (Ev.name_local rT kT (by decide +kernel)) (by omega) (by omega) hget) (scal_ints _)) (ScOk.mk2 rfl (by decide +kernel) (fun x hx => ?_) (by decide +kernel) (by decide +kernel)) (by decide +kernel) (by simp [sizeLine]) (fun _ => rfl) ?_
  · have hx' : x ∈ ([] : List Str) := hx
    cases hx'
  · intro ds hds H fr
    obtain ⟨c, hcl, rfl⟩ : ∃ c : Nat, c ≤ 100 ∧ ds = [.int (c : Int)] := by
      simp only [List.map_cons, List.map_nil, List.mem_cons, List.not_mem_nil, or_false] at hds
      rcases hds with h | h | h
      · exact ⟨c0, h0, h⟩
      · exact ⟨c1, h1, h⟩
      · exact ⟨c2, h2, h⟩
    refine ⟨.inl ⟨rfl, rfl⟩, fun _ => ?_⟩
    have kN : H.env.kindOf (Str.ofString "n") = some .local := fr.kind _ _ (by decide +kernel) (by decide)
    have rN : H.ρ (Str.ofString "n") = some (.int (c : Nat)) := fr.tgt 0 _ _ rfl rfl
    have evN : ∀ {q}, Ev H (.Name (Str.ofString "n") q) (.int (c : Nat)) := Ev.name_local rN kN (by decide +kernel)
    show Ev H _ (numD ((c : Int).toNat + 1))
    rw [Int.toNat_natCast]
    have hd : numD (c + 1) = .list ((List.replicate ((c + 1) / 3) [Dat.int 52]).flatten ++ (List.replicate ((c + 1) % 3) [Dat.int 23]).flatten) := by
      unfold numD
      rw [numsR_eq _ _ (Nat.le_refl _), List.map_append, rep_flat, rep_flat]
    rw [hd]
    have hz := sizeLine_eq
    refine Ev.catL (Ev.mulL (Ev.list (EvL.cons Ev.int EvL.nil)) (Ev.divN (b := 3) (Ev.addN (b := 1) evN (Ev.nat rfl)) (Ev.nat rfl) (by decide) rfl) (by simp) (by simp; omega) (by omega)) (Ev.mulL (Ev.list (EvL.cons Ev.int EvL.nil)) (Ev.modN (b := 3) (Ev.addN (b := 1) evN (Ev.nat rfl)) (Ev.nat rfl) (by decide)) (by simp) (by simp; omega) (by omega)) ?_
    rw [rep_flat, rep_flat]
    simp
    omega
end
end Mine

end

section
open PySem PySem.W PyProof.Rows
set_option maxRecDepth 100000
set_option Elab.async false
set_option linter.unusedVariables false
namespace Mine

theorem num_ok (n : Nat) : kqdOk 1 (numD n) = true := ints_ok 0 _
theorem nums_ok (a b c : Nat) : kqdOk 2 (.list [numD a, numD b, numD c]) = true := by
  show [numD a, numD b, numD c].all (kqdOk 1) = true
  simp [num_ok]

noncomputable def splice {α : Type} (f : Nat → α) (own : Nat) (v : α) : List α := [f 0, f 1, f 2].take own ++ [v] ++ [f 0, f 1, f 2].drop (own + 1)
theorem splice_eq {α : Type} (f : Nat → α) {own : Nat} (h : own < 3) (v : α) : splice f own v = [if 0 = own then v else f 0, if 1 = own then v else f 1, if 2 = own then v else f 2] := by
  match own, h with
  | 0, _ => rfl
  | 1, _ => rfl
  | 2, _ => rfl

section
variable {prog : Program} {w : World} {T : TopT} {F : Fm} {s : Shared}

set_option maxHeartbeats 1000000 in
theorem law_tail (I : LI prog w T) (E : LE prog w T F) (o : F.Ok s) {t own : Nat} (ht : t < 10) (ho : own < 3) {v : VS} {rows : Nat → Nat} {past : List Nat} {wait : List Lt} (Iv : Inv t v) (Iv' : Inv (t + 1) (fin v t own rows past wait)) {aH aP aC : Addr}
    {tk : Nat → Bool} {h : Nat → Nat} {a b pd : Dat} (hpd : pd = .tuple [a, b, .str (st (restQ own tk h (grow own rows)))] ∨ pd = .list [a, b, .str (st (restQ own tk h (grow own rows)))])
    (rS : F.ρ (Str.ofString "states") = some (statesD v.d)) (rL : F.ρ (Str.ofString "lasts") = some (lastsD v.lasts)) (rW : F.ρ (Str.ofString "waiting") = some (waitD wait)) (rO : F.ρ (Str.ofString "own") = some (.int (own : Nat))) (rP : F.ρ (Str.ofString "past") = some (intsD past)) (rPa : F.ρ (Str.ofString "parts") = some pd) (rT : F.ρ (Str.ofString "t") = some (.int (t : Nat)))
    (mH : F.mt (Str.ofString "homes") = some (aH, v.homes.map natI)) (mP : F.mt (Str.ofString "pasts") = some (aP, v.pasts.map intsD)) (mC : F.mt (Str.ofString "clocks") = some (aC, v.clocks.map intsD)) {Q : Flow → Shared → Prop}
    (k : ∀ G s', Nx F G → G.Ok s' → G.ρ (Str.ofString "states") = some (statesD (fin v t own rows past wait).d) → G.ρ (Str.ofString "lasts") = some (lastsD (fin v t own rows past wait).lasts) → G.ρ (Str.ofString "waiting") = some (waitD (fin v t own rows past wait).wait) → G.ρ (Str.ofString "drawn") = F.ρ (Str.ofString "drawn") →
      G.mt (Str.ofString "homes") = some (aH, (fin v t own rows past wait).homes.map natI) → G.mt (Str.ofString "pasts") = some (aP, (fin v t own rows past wait).pasts.map intsD) → G.mt (Str.ofString "clocks") = some (aC, (fin v t own rows past wait).clocks.map intsD) → Q .next s') :
    Go F tailS Q (fun _ _ => False) s := by
  have hsz := sizeLine_eq
  have K : ∀ {G}, LE prog w T G → ∀ y k, (scopeOf 68).names.lookup y = some k → G.env.kindOf y = some k := fun EG y k h => (EG.kind y).trans h
  have kHomes : (scopeOf 68).names.lookup (Str.ofString "homes") = some .cell := by decide +kernel
  have kPasts : (scopeOf 68).names.lookup (Str.ofString "pasts") = some .local := by decide +kernel
  have kClocks : (scopeOf 68).names.lookup (Str.ofString "clocks") = some .local := by decide +kernel
  have kOwn : (scopeOf 68).names.lookup (Str.ofString "own") = some .cell := by decide +kernel
  have kPast : (scopeOf 68).names.lookup (Str.ofString "past") = some .cell := by decide +kernel
  have kParts : (scopeOf 68).names.lookup (Str.ofString "parts") = some .local := by decide +kernel
  have kRows : (scopeOf 68).names.lookup (Str.ofString "rows") = some .local := by decide +kernel
  have kStates : (scopeOf 68).names.lookup (Str.ofString "states") = some .local := by decide +kernel
  have kLasts : (scopeOf 68).names.lookup (Str.ofString "lasts") = some .cell := by decide +kernel
  have kLR : (scopeOf 68).names.lookup (Str.ofString "_law_rows") = some .globalImplicit := by decide +kernel
  have wmH : ∀ {G}, LE prog w T G → Str.ofString "homes" ∈ G.wm ∧ Str.ofString "pasts" ∈ G.wm ∧ Str.ofString "clocks" ∈ G.wm := fun EG => by rw [EG.wm]; simp
  -- homes, pasts, clocks
  refine xpush o mH (wmH E).1 (.inr (.inl (K E _ _ kHomes))) (by decide +kernel) (by decide +kernel) (Ev.name_cell rO (K E _ _ kOwn) (by decide +kernel)) (by rw [List.length_map, Iv.lh]; omega) E.hint rfl rfl fun G1 s1 N1 o1 g1 mH1 q1 => ?_
  have E1 := E.nx N1
  refine xpush o1 ((q1 _ (by decide +kernel)).trans mP) (wmH E1).2.1 (.inl (K E1 _ _ kPasts)) (by decide +kernel) (by decide +kernel) (Ev.name_cell ((g1 _).trans rP) (K E1 _ _ kPast) (by decide +kernel)) (by rw [List.length_map, Iv.lp]; omega) E1.hint rfl rfl fun G2 s2 N2 o2 g2 mP2 q2 => ?_
  have E2 := E1.nx N2
  have gpast : Good (v.pasts ++ [past]) (t + 1) past := by
    have := Iv'.pg t (Nat.lt_succ_self t)
    have e : (v.pasts ++ [past]).getD t [] = past := by
      have := getD_last (l := v.pasts) (a := past) (d := [])
      rw [Iv.lp] at this; exact this
    have this' : Good (v.pasts ++ [past]) (t + 1) ((v.pasts ++ [past]).getD t []) := this
    rw [e] at this'
    exact this'
  have hplen : past.length ≤ 100 := by have := gpast.len; omega
  have hhl : (v.homes ++ [own]).length = t + 1 := Iv'.lh
  have mH2 : G2.mt (Str.ofString "homes") = some (aH, (v.homes ++ [own]).map natI) := by
    rw [List.map_append]; exact (q2 _ (by decide +kernel)).trans mH1
  refine xpush o2 (((q2 _ (by decide +kernel)).trans (q1 _ (by decide +kernel))).trans mC) (wmH E2).2.2 (.inl (K E2 _ _ kClocks)) (by decide +kernel) (by decide +kernel) (Ev.counts I E2 mH2 ((g2 _).trans ((g1 _).trans rP)) (fun e he => by rw [hhl]; exact gpast.lt he) (by omega) hplen) (by rw [List.length_map, Iv.lc]; omega) E2.hint rfl rfl fun G3 s3 N3 o3 g3 mC3 q3 => ?_
  have E3 := E2.nx N3
  have r3 : ∀ y, G3.ρ y = F.ρ y := fun y => (g3 y).trans ((g2 y).trans (g1 y))
  have mH3 : G3.mt (Str.ofString "homes") = some (aH, (v.homes ++ [own]).map natI) := (q3 _ (by decide +kernel)).trans mH2
  have mP3 : G3.mt (Str.ofString "pasts") = some (aP, (v.pasts ++ [past]).map intsD) := by
    rw [List.map_append]; exact (q3 _ (by decide +kernel)).trans mP2
  have mC3' : G3.mt (Str.ofString "clocks") = some (aC, (fin v t own rows past wait).clocks.map intsD) := by
    show _ = some (aC, (v.clocks ++ [_]).map intsD)
    rw [List.map_append]; exact mC3
  -- the rows
  have hgd : ∀ k, grow own rows k = cnt (v.homes ++ [own]) past k + 1 := fun k => by
    have h1 := Iv'.dd own k
    have h2 : (fin v t own rows past wait).d own = grow own rows := if_pos rfl
    have h3 : (fin v t own rows past wait).lasts own = past := if_pos rfl
    rw [h2, h3] at h1
    exact h1
  have hcl : ∀ k, cnt (v.homes ++ [own]) past k ≤ 10 := fun k => by
    have h1 : cnt (v.homes ++ [own]) past k ≤ past.length := List.length_filter_le _ _
    have := gpast.len
    omega
  have hg60 : ∀ k, grow own rows k ≤ 60 := fun k => by rw [hgd]; have := hcl k; omega
  have cR := cn_rowsR (prog := prog) (w := w) I.K9 I.K10 I.K66 I.gEn I.sent.gLen own tk h (grow own rows) hg60
  have evText : ∀ {p p2 p3}, Ev G3 (.Subscript (.Name (Str.ofString "parts") p2) (.Constant (.int 2) 0 p3) p) (.str (st (restQ own tk h (grow own rows)))) := by
    intro p p2 p3
    rcases hpd with e | e
    · exact Ev.itemT (ds := [a, b, .str (st (restQ own tk h (grow own rows)))]) (k := 2) (Ev.name_local ((r3 _).trans (rPa.trans (by rw [e]))) (K E3 _ _ kParts) (by decide +kernel)) Ev.int (by decide) (by decide) rfl
    · exact Ev.itemL (ds := [a, b, .str (st (restQ own tk h (grow own rows)))]) (k := 2) (Ev.name_local ((r3 _).trans (rPa.trans (by rw [e]))) (K E3 _ _ kParts) (by decide +kernel)) Ev.int (by decide) (by decide) rfl
  refine xset o3 (d := rowD (grow own rows)) (Ev.callG (by rw [E3.prog, E3.w, E3.T, E3.n]; exact cR) (K E3 _ _ kLR) (by decide +kernel) (EvL.cons evText EvL.nil) rfl) (.inl (K E3 _ _ kRows)) (by with_unfolding_all rfl) fun G4 s4 N4 o4 r4R r4 q4 => ?_
  have E4 := E3.nx N4
  -- the check
  have hclk : (fin v t own rows past wait).clocks[t]? = some [cnt (v.homes ++ [own]) past 0, cnt (v.homes ++ [own]) past 1, cnt (v.homes ++ [own]) past 2] := by
    show (v.clocks ++ [_])[t]? = _
    rw [List.getElem?_append_right (by rw [Iv.lc]; exact Nat.le_refl _), Iv.lc, Nat.sub_self]; rfl
  have evA := Ev.numbers I E4 (g := grow own rows) (fun k => by have := hg60 k; omega) r4R
  have evB := Ev.expected I E4 (c0 := cnt (v.homes ++ [own]) past 0) (c1 := cnt (v.homes ++ [own]) past 1) (c2 := cnt (v.homes ++ [own]) past 2) (t := t) (by have := hcl 0; omega) (by have := hcl 1; omega) (by have := hcl 2; omega) (by omega) ((q4 _ (by decide +kernel)).trans mC3') hclk ((r4 _ (by decide +kernel)).trans ((r3 _).trans rT))
  rw [← hgd 0, ← hgd 1, ← hgd 2] at evB
  refine xif o4 (Tst.cmp evA evB (CmpR.neSame (nums_ok _ _ _) (by decide)) (by with_unfolding_all rfl)) fun s5 o5 => ?_
  refine wpAny_execs_nil ?_
  -- states, lasts
  have rS4 : G4.ρ (Str.ofString "states") = some (.list [rowD (v.d 0), rowD (v.d 1), rowD (v.d 2)]) := (r4 _ (by decide +kernel)).trans ((r3 _).trans rS)
  have rO4 : G4.ρ (Str.ofString "own") = some (.int (own : Nat)) := (r4 _ (by decide +kernel)).trans ((r3 _).trans rO)
  have evO : ∀ {q}, Ev G4 (.Name (Str.ofString "own") q) (.int (own : Nat)) := Ev.name_cell rO4 (K E4 _ _ kOwn) (by decide +kernel)
  refine xset o5 (d := .list (splice (fun i => rowD (v.d i)) own (rowD (grow own rows)))) (Ev.catL (Ev.catL (Ev.sliceL_upto (Ev.name_local rS4 (K E4 _ _ kStates) (by decide +kernel)) evO (by simp [sizeLine])) (Ev.list (EvL.cons (Ev.name_local r4R (K E4 _ _ kRows) (by decide +kernel)) EvL.nil) (by simp [sizeLine])) (by simp; omega))
    (Ev.sliceL_from (Ev.name_local rS4 (K E4 _ _ kStates) (by decide +kernel)) (Ev.addN (b := 1) evO (Ev.nat rfl)) (by simp [sizeLine])) (by simp; omega)) (.inl (K E4 _ _ kStates)) (by with_unfolding_all rfl) fun G5 s6 N5 o6 r5S r5 q5 => ?_
  have E5 := E4.nx N5
  have rL5 : G5.ρ (Str.ofString "lasts") = some (.list [intsD (v.lasts 0), intsD (v.lasts 1), intsD (v.lasts 2)]) := (r5 _ (by decide +kernel)).trans ((r4 _ (by decide +kernel)).trans ((r3 _).trans rL))
  have rO5 : G5.ρ (Str.ofString "own") = some (.int (own : Nat)) := (r5 _ (by decide +kernel)).trans rO4
  have rP5 : G5.ρ (Str.ofString "past") = some (intsD past) := (r5 _ (by decide +kernel)).trans ((r4 _ (by decide +kernel)).trans ((r3 _).trans rP))
  have evO5 : ∀ {q}, Ev G5 (.Name (Str.ofString "own") q) (.int (own : Nat)) := Ev.name_cell rO5 (K E5 _ _ kOwn) (by decide +kernel)
  refine xset o6 (d := .list (splice (fun i => intsD (v.lasts i)) own (intsD past))) (Ev.catL (Ev.catL (Ev.sliceL_upto (Ev.name_cell rL5 (K E5 _ _ kLasts) (by decide +kernel)) evO5 (by simp [sizeLine])) (Ev.list (EvL.cons (Ev.name_cell rP5 (K E5 _ _ kPast) (by decide +kernel)) EvL.nil) (by simp [sizeLine])) (by simp; omega))
    (Ev.sliceL_from (Ev.name_cell rL5 (K E5 _ _ kLasts) (by decide +kernel)) (Ev.addN (b := 1) evO5 (Ev.nat rfl)) (by simp [sizeLine])) (by simp; omega)) (.inr ⟨K E5 _ _ kLasts, by rw [E5.wc]; simp⟩) (by with_unfolding_all rfl) fun G6 s7 N6 o7 r6L r6 q6 => ?_
  refine wpAny_execs_nil (k G6 s7 ((((((N1.trans N2).trans N3).trans N4).trans N5).trans N6)) o7 ?_ ?_ ?_ ?_ ?_ ?_ ?_)
  · refine (r6 _ (by decide +kernel)).trans (r5S.trans ?_)
    rw [splice_eq _ ho]
    show _ = some (Dat.list [rowD (if 0 = own then grow own rows else v.d 0), rowD (if 1 = own then grow own rows else v.d 1), rowD (if 2 = own then grow own rows else v.d 2)])
    congr 2
    simp only [apply_ite rowD]
  · rw [r6L, splice_eq _ ho]
    show _ = some (Dat.list [intsD (if 0 = own then past else v.lasts 0), intsD (if 1 = own then past else v.lasts 1), intsD (if 2 = own then past else v.lasts 2)])
    congr 2
    simp only [apply_ite intsD]
  · exact (r6 _ (by decide +kernel)).trans ((r5 _ (by decide +kernel)).trans ((r4 _ (by decide +kernel)).trans ((r3 _).trans rW)))
  · exact (r6 _ (by decide +kernel)).trans ((r5 _ (by decide +kernel)).trans ((r4 _ (by decide +kernel)).trans (r3 _)))
  · exact (q6 _ (by decide +kernel)).trans ((q5 _ (by decide +kernel)).trans ((q4 _ (by decide +kernel)).trans mH3))
  · exact (q6 _ (by decide +kernel)).trans ((q5 _ (by decide +kernel)).trans ((q4 _ (by decide +kernel)).trans mP3))
  · exact (q6 _ (by decide +kernel)).trans ((q5 _ (by decide +kernel)).trans ((q4 _ (by decide +kernel)).trans mC3'))
end
end Mine

end

section
open PySem PySem.W PyProof.Rows
set_option maxRecDepth 100000
set_option Elab.async false
set_option linter.unusedVariables false
namespace Mine

noncomputable def thenS : Stmt → List Stmt
  | .If _ b _ _ => b
  | _ => []
noncomputable def elseS : Stmt → List Stmt
  | .If _ _ b _ => b
  | _ => []
noncomputable def lawIf : Stmt := nth (forBody (nth (bodyOf 68) 7)) 1
theorem st_one (c : Nat) : (⟨#[c]⟩ : Str) = st [c] := rfl
theorem nm_get {k : Nat} (h : k < 3) : (Str.ofString "+-*").cps[((k : Nat) : Int).toNat]? = some (nm k) := by
  have e : Str.ofString "+-*" = st [43, 45, 42] := by decide +kernel
  rw [e, Int.toNat_natCast]
  match k, h with
  | 0, _ => rfl
  | 1, _ => rfl
  | 2, _ => rfl
theorem row_get {d : Nat → Nat → Nat} {k : Nat} (h : k < 3) : ([rowD (d 0), rowD (d 1), rowD (d 2)] : List Dat)[((k : Nat) : Int).toNat]? = some (rowD (d k)) := by
  rw [Int.toNat_natCast]
  match k, h with
  | 0, _ => rfl
  | 1, _ => rfl
  | 2, _ => rfl
theorem last_get {l : Nat → List Nat} {k : Nat} (h : k < 3) : ([intsD (l 0), intsD (l 1), intsD (l 2)] : List Dat)[((k : Nat) : Int).toNat]? = some (intsD (l k)) := by
  rw [Int.toNat_natCast]
  match k, h with
  | 0, _ => rfl
  | 1, _ => rfl
  | 2, _ => rfl
noncomputable def tokOf (y : Str) : Dat := if y = st [43] then .int 14 else if y = st [45] then .int 15 else .int 16
theorem tok_nm {k : Nat} (h : k < 3) : tokOf (st [nm k]) = .int ((14 + k : Nat) : Int) := by
  have h1 : ¬ st [45] = st [43] := by decide +kernel
  have h2 : ¬ st [42] = st [43] := by decide +kernel
  have h3 : ¬ st [42] = st [45] := by decide +kernel
  match k, h with
  | 0, _ => exact if_pos rfl
  | 1, _ => exact (if_neg h1).trans (if_pos rfl)
  | 2, _ => exact (if_neg h2).trans (if_neg h3)
theorem nm_ne (k : Nat) : nm k ≠ 39 ∧ nm k ≠ 10 ∧ nm k ≠ 46 ∧ nm k ≠ 13 := by unfold nm; split <;> decide

section
variable {prog : Program} {w : World} {T : TopT} {F : Fm} {s : Shared}

set_option maxHeartbeats 1000000 in
theorem law_send (I : LI prog w T) (E : LE prog w T F) (o : F.Ok s) {t x : Nat} (ht : t < 10) (hx : x < 1000000) {v : VS} (Iv : Inv t v) (hw : v.wait.length ≤ 100)
    (rS : F.ρ (Str.ofString "states") = some (statesD v.d)) (rL : F.ρ (Str.ofString "lasts") = some (lastsD v.lasts)) (rW : F.ρ (Str.ofString "waiting") = some (waitD v.wait)) (rT : F.ρ (Str.ofString "t") = some (.int (t : Nat))) (rX : F.ρ (Str.ofString "x") = some (.int (x : Nat))) {Q : Flow → Shared → Prop}
    (k : ∀ G s', Nx F G → G.Ok s' → G.ρ (Str.ofString "own") = some (.int ((x / 2 % 3 : Nat) : Int)) → G.ρ (Str.ofString "past") = some (intsD (v.lasts (x / 2 % 3) ++ [t])) →
      G.ρ (Str.ofString "parts") = some (partsL ⟨x / 2 % 3, (x / 2 % 3 + 1 + x / 6 % 2) % 3, x, grow (x / 2 % 3) (v.d (x / 2 % 3)), v.lasts (x / 2 % 3) ++ [t]⟩) →
      G.ρ (Str.ofString "waiting") = some (waitD (v.wait ++ [⟨x / 2 % 3, (x / 2 % 3 + 1 + x / 6 % 2) % 3, x, grow (x / 2 % 3) (v.d (x / 2 % 3)), v.lasts (x / 2 % 3) ++ [t]⟩])) →
      (∀ y, y ∉ [Str.ofString "own", Str.ofString "to", Str.ofString "parts", Str.ofString "past", Str.ofString "waiting"] → G.ρ y = F.ρ y ∧ G.mt y = F.mt y) → Q .next s') :
    Go F (elseS lawIf) Q (fun _ _ => False) s := by
  have hsz := sizeLine_eq
  have K : ∀ {G}, LE prog w T G → ∀ y k, (scopeOf 68).names.lookup y = some k → G.env.kindOf y = some k := fun EG y k h => (EG.kind y).trans h
  have kOwn : (scopeOf 68).names.lookup (Str.ofString "own") = some .cell := by decide +kernel
  have kPast : (scopeOf 68).names.lookup (Str.ofString "past") = some .cell := by decide +kernel
  have kParts : (scopeOf 68).names.lookup (Str.ofString "parts") = some .local := by decide +kernel
  have kStates : (scopeOf 68).names.lookup (Str.ofString "states") = some .local := by decide +kernel
  have kLasts : (scopeOf 68).names.lookup (Str.ofString "lasts") = some .cell := by decide +kernel
  have kWait : (scopeOf 68).names.lookup (Str.ofString "waiting") = some .local := by decide +kernel
  have kX : (scopeOf 68).names.lookup (Str.ofString "x") = some .local := by decide +kernel
  have kT : (scopeOf 68).names.lookup (Str.ofString "t") = some .local := by decide +kernel
  have kTo : (scopeOf 68).names.lookup (Str.ofString "to") = some .local := by decide +kernel
  have kSent : (scopeOf 68).names.lookup (Str.ofString "_law_sent") = some .globalImplicit := by decide +kernel
  have kTab : (scopeOf 68).names.lookup (Str.ofString "EXACT_TOKEN_TYPES") = some .globalImplicit := by decide +kernel
  have ho : x / 2 % 3 < 3 := Nat.mod_lt _ (by decide)
  have hq : (x / 2 % 3 + 1 + x / 6 % 2) % 3 < 3 := Nat.mod_lt _ (by decide)
  have evX : ∀ {q}, Ev F (.Name (Str.ofString "x") q) (.int (x : Nat)) := Ev.name_local rX (K E _ _ kX) (by decide +kernel)
  refine xset o (Ev.modN (b := 3) (Ev.divN (b := 2) evX (Ev.nat rfl) (by decide) rfl) (Ev.nat rfl) (by decide)) (.inr ⟨K E _ _ kOwn, by rw [E.wc]; simp⟩) (by with_unfolding_all rfl) fun G1 s1 N1 o1 r1O r1 q1 => ?_
  have E1 := E.nx N1
  have evX1 : ∀ {q}, Ev G1 (.Name (Str.ofString "x") q) (.int (x : Nat)) := Ev.name_local ((r1 _ (by decide +kernel)).trans rX) (K E1 _ _ kX) (by decide +kernel)
  generalize hown : x / 2 % 3 = own at *
  have evO1 : ∀ {q}, Ev G1 (.Name (Str.ofString "own") q) (.int (own : Nat)) := Ev.name_cell r1O (K E1 _ _ kOwn) (by decide +kernel)
  refine xset o1 (Ev.modN (b := 3) (Ev.addN (Ev.addN (b := 1) evO1 (Ev.nat rfl)) (Ev.modN (b := 2) (Ev.divN (b := 6) evX1 (Ev.nat rfl) (by decide) rfl) (Ev.nat rfl) (by decide))) (Ev.nat rfl) (by decide)) (.inl (K E1 _ _ kTo)) (by with_unfolding_all rfl) fun G2 s2 N2 o2 r2Q r2 q2 => ?_
  have E2 := E1.nx N2
  generalize hto : (own + 1 + x / 6 % 2) % 3 = to at *
  have evO2 : ∀ {q}, Ev G2 (.Name (Str.ofString "own") q) (.int (own : Nat)) := Ev.name_cell ((r2 _ (by decide +kernel)).trans r1O) (K E2 _ _ kOwn) (by decide +kernel)
  have evQ2 : ∀ {q}, Ev G2 (.Name (Str.ofString "to") q) (.int (to : Nat)) := Ev.name_local r2Q (K E2 _ _ kTo) (by decide +kernel)
  have evX2 : ∀ {q}, Ev G2 (.Name (Str.ofString "x") q) (.int (x : Nat)) := Ev.name_local ((r2 _ (by decide +kernel)).trans ((r1 _ (by decide +kernel)).trans rX)) (K E2 _ _ kX) (by decide +kernel)
  have rS2 : G2.ρ (Str.ofString "states") = some (.list [rowD (v.d 0), rowD (v.d 1), rowD (v.d 2)]) := (r2 _ (by decide +kernel)).trans ((r1 _ (by decide +kernel)).trans rS)
  have evNm : ∀ {G : Fm} {j : Nat} {e : Expr} {p p1 k1}, Ev G e (.int (j : Nat)) → j < 3 → notSlice e = true → Ev G (.Subscript (.Constant (.str (Str.ofString "+-*")) k1 p1) e p) (.str (st [nm j])) := fun he hj hs => Ev.itemS Ev.str he (by omega) (by omega) (nm_get hj) hs
  have htick : Str.ofString "'" = st [39] := by decide +kernel
  have evTick : ∀ {G : Fm} {k q}, Ev G (.Constant (.str (Str.ofString "'")) k q) (.str (st [39])) := by intros; rw [← htick]; exact Ev.str
  have n1 := nm_ne own
  have n2 := nm_ne to
  have hhead : ∀ c ∈ headL own to, c ≠ 10 ∧ c ≠ 46 ∧ c ≠ 13 ∧ c < 128 := fun c hc => by
    simp only [headL, List.mem_cons, List.not_mem_nil, or_false] at hc
    rcases hc with rfl | rfl | rfl | rfl
    · exact ⟨n1.2.1, n1.2.2.1, n1.2.2.2, nm_lt _⟩
    · decide
    · exact ⟨n2.2.1, n2.2.2.1, n2.2.2.2, nm_lt _⟩
    · decide
  have hcount : 1 ≤ (headL own to ++ restQ own (tkOf (headL own to) own) (hOf x) (grow own (v.d own))).count 39 := by
    rw [List.count_append]
    have : 1 ≤ (headL own to).count 39 := List.one_le_count_iff.mpr (by simp [headL])
    omega
  have cS := (cn_sent I.sent (headL own to) own x (v.d own) hhead (by simp [headL]) hx (fun k => by have := (Iv.small own k).2; omega) (fun k => (Iv.small own k).1) hcount).more (m := 3) (by omega)
  have hdec : decD (st (headL own to ++ restQ own (tkOf (headL own to) own) (hOf x) (grow own (v.d own)))) = partsL ⟨own, to, x, grow own (v.d own), v.lasts own ++ [t]⟩ := dec_letter n1.1 n2.1 _
  rw [hdec] at cS
  have evHead : ∀ {p p1 p2 p3 p4 p5 p6 p7 p8 p9 p10 k1 k2 k3 k4}, Ev G2 (.BinOp (.BinOp (.BinOp (.Subscript (.Constant (.str (Str.ofString "+-*")) k1 p1) (.Name (Str.ofString "own") p2) p3) .Add (.Constant (.str (Str.ofString "'")) k2 p4) p5) .Add (.Subscript (.Constant (.str (Str.ofString "+-*")) k3 p6) (.Name (Str.ofString "to") p7) p8) p9) .Add (.Constant (.str (Str.ofString "'")) k4 p10) p) (.str (st (headL own to))) := by
    intros
    have e : st (headL own to) = st [nm own] ++ st [39] ++ st [nm to] ++ st [39] := by rw [st_app, st_app, st_app]; rfl
    rw [e]
    refine Ev.cat (Ev.cat (Ev.cat (evNm evO2 ho rfl) evTick ?_) (evNm evQ2 hq rfl) ?_) evTick ?_
    · rw [st_len, st_len]; simp [sizeLine]
    · rw [st_app, st_len, st_len]; simp [sizeLine]
    · rw [st_app, st_app, st_len, st_len]; simp [sizeLine]
  refine xset o2 (d := partsL ⟨own, to, x, grow own (v.d own), v.lasts own ++ [t]⟩) (Ev.callG (by rw [E2.prog, E2.w, E2.T, E2.n]; exact cS) (K E2 _ _ kSent) (by decide +kernel) (EvL.cons evHead (EvL.cons (Ev.itemL (Ev.name_local rS2 (K E2 _ _ kStates) (by decide +kernel)) evO2 (by omega) (by omega) (row_get ho)) (EvL.cons evO2 (EvL.cons evX2 EvL.nil)))) rfl) (.inl (K E2 _ _ kParts)) (by with_unfolding_all rfl) fun G3 s3 N3 o3 r3P r3 q3 => ?_
  have E3 := E2.nx N3
  have evO3 : ∀ {q}, Ev G3 (.Name (Str.ofString "own") q) (.int (own : Nat)) := Ev.name_cell ((r3 _ (by decide +kernel)).trans ((r2 _ (by decide +kernel)).trans r1O)) (K E3 _ _ kOwn) (by decide +kernel)
  have evQ3 : ∀ {q}, Ev G3 (.Name (Str.ofString "to") q) (.int (to : Nat)) := Ev.name_local ((r3 _ (by decide +kernel)).trans r2Q) (K E3 _ _ kTo) (by decide +kernel)
  have evP3 : ∀ {q}, Ev G3 (.Name (Str.ofString "parts") q) (.list [.str (st [nm own]), .str (st [nm to]), .str (st (textL ⟨own, to, x, grow own (v.d own), v.lasts own ++ [t]⟩))]) := Ev.name_local r3P (K E3 _ _ kParts) (by decide +kernel)
  have evCut : ∀ {p p1 p2 p3 k1}, Ev G3 (.Subscript (.Name (Str.ofString "parts") p1) (.Slice none (some (.Constant (.int 2) k1 p2)) none p3) p) (.list [.str (st [nm own]), .str (st [nm to])]) := by
    intros
    exact Ev.sliceL_upto (b := 2) evP3 (Ev.nat rfl) (by simp [sizeLine])
  obtain ⟨tab, D, gT, hT, hD⟩ := I.tab
  have hT3 : TabOk G3 tab D := fun h hh => by rw [E3.prog, E3.w]; exact hT h (by rw [← E3.T]; exact hh)
  have okS : ∀ j, kqdOk 0 (.str (st [nm j])) = true := fun j => str_ok (strOk_st fun c hc => by rw [List.mem_singleton.mp hc]; exact nm_lt _)
  refine xif o3 (b := false) (Tst.or (a := false) (b := false) (Tst.cmp evCut (Ev.list (EvL.cons (evNm evO3 ho rfl) (EvL.cons (evNm evQ3 hq rfl) EvL.nil)) (by simp [sizeLine])) (CmpR.neSame (n := 1) (by show [Dat.str (st [nm own]), Dat.str (st [nm to])].all (kqdOk 0) = true; simp [okS]) (by decide)) (by with_unfolding_all rfl)) fun _ =>
    Tst.cmp (a := .list ((([Dat.str (st [nm own]), Dat.str (st [nm to])].map fun d => [d]).filter fun _ => true).map fun ds => match ds with | [.str y] => tokOf y | _ => .none)) (b := .list [.int ((14 + own : Nat) : Int), .int ((14 + to : Nat) : Int)]) ?_ (Ev.list (EvL.cons (Ev.addN (a := 14) (Ev.nat rfl) evO3) (EvL.cons (Ev.addN (a := 14) (Ev.nat rfl) evQ3) EvL.nil)) (by simp [sizeLine])) ?_ (by with_unfolding_all rfl)) fun s4 o4 => ?_
  · refine Ev.comp (names := [Str.ofString "name"]) (Src.list evCut rfl) (ScOk.mk2 rfl (by decide +kernel) (fun x hx => ?_) (by decide +kernel) (by decide +kernel)) (by decide +kernel) (by simp [sizeLine]) (fun _ => rfl) ?_
    · have hx' : x ∈ ([] : List Str) := hx
      cases hx'
    · intro ds hds H fr
      obtain ⟨j, hj, rfl⟩ : ∃ j : Nat, j < 3 ∧ ds = [.str (st [nm j])] := by
        simp only [List.map_cons, List.map_nil, List.mem_cons, List.not_mem_nil, or_false] at hds
        rcases hds with h | h
        · exact ⟨own, ho, h⟩
        · exact ⟨to, hq, h⟩
      refine ⟨.inl ⟨rfl, rfl⟩, fun _ => ?_⟩
      have kName : H.env.kindOf (Str.ofString "name") = some .local := fr.kind _ _ (by decide +kernel) (by decide)
      have kTab' : H.env.kindOf (Str.ofString "EXACT_TOKEN_TYPES") = some .globalImplicit := fr.kind _ _ (by decide +kernel) (by decide)
      have rName : H.ρ (Str.ofString "name") = some (.str (st [nm j])) := fr.tgt 0 _ _ rfl rfl
      have hT' : TabOk H tab D := fun h hh => by rw [fr.prog, fr.w]; exact hT3 h (by rw [← fr.T]; exact hh)
      refine Ev.getTab (e := tokOf (st [nm j])) hT' (by rw [fr.T, E3.T]; exact gT) kTab' (by decide +kernel) rfl rfl rfl (Ev.name_local rName kName (by decide +kernel)) ?_
      rw [hD.nm hj, tok_nm hj]; rfl
  · have e : (Dat.list ((([Dat.str (st [nm own]), Dat.str (st [nm to])].map fun d => [d]).filter fun _ => true).map fun ds => match ds with | [.str y] => tokOf y | _ => .none)) = .list [.int ((14 + own : Nat) : Int), .int ((14 + to : Nat) : Int)] := by
      show Dat.list [tokOf (st [nm own]), tokOf (st [nm to])] = _
      rw [tok_nm ho, tok_nm hq]
    rw [e]
    exact CmpR.neSame (n := 1) rfl (by decide)
  refine wpAny_execs_nil ?_
  have rL3 : G3.ρ (Str.ofString "lasts") = some (.list [intsD (v.lasts 0), intsD (v.lasts 1), intsD (v.lasts 2)]) := (r3 _ (by decide +kernel)).trans ((r2 _ (by decide +kernel)).trans ((r1 _ (by decide +kernel)).trans rL))
  have rT3 : G3.ρ (Str.ofString "t") = some (.int (t : Nat)) := (r3 _ (by decide +kernel)).trans ((r2 _ (by decide +kernel)).trans ((r1 _ (by decide +kernel)).trans rT))
  have hll := (Iv.lg own).len
  have ePast : intsD (v.lasts own ++ [t]) = .list ((v.lasts own).map natI ++ [.int (t : Nat)]) := by rw [intsD_eq, List.map_append]; rfl
  have evLast : ∀ {p p1 p2}, Ev G3 (.Subscript (.Name (Str.ofString "lasts") p1) (.Name (Str.ofString "own") p2) p) (.list ((v.lasts own).map natI)) := by
    intros
    rw [← intsD_eq]
    exact Ev.itemL (Ev.name_cell rL3 (K E3 _ _ kLasts) (by decide +kernel)) evO3 (by omega) (by omega) (last_get ho)
  refine xset o4 (d := .list ((v.lasts own).map natI ++ [.int (t : Nat)])) (Ev.catL evLast (Ev.list (EvL.cons (Ev.name_local rT3 (K E3 _ _ kT) (by decide +kernel)) EvL.nil) (by simp [sizeLine])) (by simp; omega)) (.inr ⟨K E3 _ _ kPast, by rw [E3.wc]; simp⟩) (by with_unfolding_all rfl) fun G4 s5 N4 o5 r4P r4 q4 => ?_
  rw [← ePast] at r4P
  have E4 := E3.nx N4
  have rW4 : G4.ρ (Str.ofString "waiting") = some (.list (v.wait.map letterD)) := (r4 _ (by decide +kernel)).trans ((r3 _ (by decide +kernel)).trans ((r2 _ (by decide +kernel)).trans ((r1 _ (by decide +kernel)).trans rW)))
  have rP4 := (r4 (Str.ofString "parts") (by decide +kernel)).trans r3P
  refine xset o5 (d := .list (v.wait.map letterD ++ [letterD ⟨own, to, x, grow own (v.d own), v.lasts own ++ [t]⟩])) (Ev.catL (Ev.name_local rW4 (K E4 _ _ kWait) (by decide +kernel)) (Ev.list (EvL.cons (Ev.tuple (EvL.cons (Ev.name_local rP4 (K E4 _ _ kParts) (by decide +kernel)) (EvL.cons (Ev.name_cell r4P (K E4 _ _ kPast) (by decide +kernel)) EvL.nil)) (by simp [sizeLine])) EvL.nil) (by simp [sizeLine])) (by simp; omega)) (.inl (K E4 _ _ kWait)) (by with_unfolding_all rfl) fun G5 s6 N5 o6 r5W r5 q5 => ?_
  have eW : Dat.list (v.wait.map letterD ++ [letterD ⟨own, to, x, grow own (v.d own), v.lasts own ++ [t]⟩]) = waitD (v.wait ++ [⟨own, to, x, grow own (v.d own), v.lasts own ++ [t]⟩]) := by unfold waitD; rw [List.map_append]; rfl
  rw [eW] at r5W
  refine wpAny_execs_nil (k G5 s6 (((N1.trans N2).trans N3).trans (N4.trans N5)) o6 ?_ ?_ ?_ r5W fun y hy => ?_)
  · exact (r5 _ (by decide +kernel)).trans ((r4 _ (by decide +kernel)).trans ((r3 _ (by decide +kernel)).trans ((r2 _ (by decide +kernel)).trans r1O)))
  · exact (r5 _ (by decide +kernel)).trans r4P
  · exact (r5 _ (by decide +kernel)).trans rP4
  · simp only [List.mem_cons, List.not_mem_nil, or_false, not_or] at hy
    obtain ⟨h1, h2, h3, h4, h5⟩ := hy
    exact ⟨(r5 _ h5).trans ((r4 _ h4).trans ((r3 _ h3).trans ((r2 _ h2).trans (r1 _ h1)))), (q5 _ h5).trans ((q4 _ h4).trans ((q3 _ h3).trans ((q2 _ h2).trans (q1 _ h1))))⟩
end
end Mine

end

section
open PySem PySem.W PyProof.Rows
set_option maxRecDepth 100000
set_option Elab.async false
set_option linter.unusedVariables false
namespace Mine

theorem tk_note {own k : Nat} : tkOf [] own k = decide (k = (own + 1) % 3) := by
  unfold tkOf
  have e : (st [] != Str.ofString "") = false := by decide +kernel
  rw [e, Bool.false_or, Bool.eq_iff_iff, beq_iff_eq, decide_eq_true_iff]
  omega
theorem count_note {own : Nat} (ho : own < 3) (h d : Nat → Nat) : (restQ own (tkOf [] own) h d).count 39 = 1 := by
  rw [count_rest]
  simp only [tk_note]
  match own, ho with
  | 0, _ => rfl
  | 1, _ => rfl
  | 2, _ => rfl
theorem any_mem (P : List Nat) (e : Nat) : ((P.map fun (n : Nat) => (n : Int)).any (· == (e : Int))) = decide (e ∈ P) := by
  rw [Bool.eq_iff_iff, List.any_eq_true, decide_eq_true_iff]
  constructor
  · rintro ⟨i, hi, he⟩
    obtain ⟨n, hn, rfl⟩ := List.mem_map.mp hi
    have : n = e := by have := beq_iff_eq.mp he; omega
    rw [← this]; exact hn
  · intro h
    exact ⟨(e : Int), List.mem_map.mpr ⟨e, h, rfl⟩, by simp⟩
theorem rangeD (n : Nat) : ((List.range n).map fun (i : Nat) => Dat.int i) = ((List.range n).map fun (i : Nat) => (i : Int)).map Dat.int := by
  rw [List.map_map]; rfl

theorem swaps_local {env : Env} {elt : Expr} {gens : List Comprehension} {scope : Scope} {cp tp : Pos} {x : Str} {line : Nat} (hf : env.scope.kind = .function) (hk : env.kindOf x = some .local) (hl : (tp.line == cp.line) = true) (hn : (scope.names.any fun (n, k) => n == x && (k == .local || k == .cell)) = false) :
    swapsWith (.ListComp elt gens scope cp) (some (.Name x tp)) line env = pure true := by
  show pure (env.blockKind == .function && env.kindOf x == some .local && (tp.line == cp.line) && !(scope.names.any fun (n, k) => n == x && (k == .local || k == .cell))) = pure true
  have hb : env.blockKind = .function := by unfold Env.blockKind; rw [hf]; rfl
  rw [hb, hk, hl, hn]; rfl
noncomputable def maxR (a b : Nat → Nat) (k : Nat) : Nat := if a k > b k then a k else b k

section
variable {prog : Program} {w : World} {T : TopT} {F : Fm} {s : Shared}

set_option maxHeartbeats 1000000 in
theorem law_take (I : LI prog w T) (E : LE prog w T F) (o : F.Ok s) {t x : Nat} (ht : t < 10) (hx : x < 1000000) {v : VS} (Iv : Inv t v) (hw : v.wait.length ≤ 100) (hne : v.wait ≠ [])
    (rS : F.ρ (Str.ofString "states") = some (statesD v.d)) (rL : F.ρ (Str.ofString "lasts") = some (lastsD v.lasts)) (rW : F.ρ (Str.ofString "waiting") = some (waitD v.wait)) (rT : F.ρ (Str.ofString "t") = some (.int (t : Nat))) (rX : F.ρ (Str.ofString "x") = some (.int (x : Nat)))
    {L : Lt} (hL : v.wait.getD (x / 2 % v.wait.length) l0 = L) {Q : Flow → Shared → Prop}
    (k : ∀ G s', Nx F G → G.Ok s' → G.ρ (Str.ofString "own") = some (.int ((L.q : Nat) : Int)) → G.ρ (Str.ofString "past") = some (intsD ((List.range t).filter (fun e => decide (e ∈ v.lasts L.q) || decide (e ∈ L.came)) ++ [t])) →
      G.ρ (Str.ofString "parts") = some (.tuple [.none, .none, .str (st (restQ L.q (tkOf [] L.q) (hOf x) (grow L.q (maxR (v.d L.q) L.d))))]) →
      G.ρ (Str.ofString "waiting") = some (waitD (v.wait.take (x / 2 % v.wait.length) ++ v.wait.drop (x / 2 % v.wait.length + 1))) →
      (∀ y, y ∉ [Str.ofString "take", Str.ofString "letter", Str.ofString "came", Str.ofString "waiting", Str.ofString "own", Str.ofString "rows", Str.ofString "parts", Str.ofString "past"] → G.ρ y = F.ρ y ∧ G.mt y = F.mt y) → Q .next s') :
    Go F (thenS lawIf) Q (fun _ _ => False) s := by
  have hsz := sizeLine_eq
  have K : ∀ {G}, LE prog w T G → ∀ y k, (scopeOf 68).names.lookup y = some k → G.env.kindOf y = some k := fun EG y k h => (EG.kind y).trans h
  have kOwn : (scopeOf 68).names.lookup (Str.ofString "own") = some .cell := by decide +kernel
  have kPast : (scopeOf 68).names.lookup (Str.ofString "past") = some .cell := by decide +kernel
  have kCame : (scopeOf 68).names.lookup (Str.ofString "came") = some .cell := by decide +kernel
  have kParts : (scopeOf 68).names.lookup (Str.ofString "parts") = some .local := by decide +kernel
  have kStates : (scopeOf 68).names.lookup (Str.ofString "states") = some .local := by decide +kernel
  have kLasts : (scopeOf 68).names.lookup (Str.ofString "lasts") = some .cell := by decide +kernel
  have kWait : (scopeOf 68).names.lookup (Str.ofString "waiting") = some .local := by decide +kernel
  have kX : (scopeOf 68).names.lookup (Str.ofString "x") = some .local := by decide +kernel
  have kT : (scopeOf 68).names.lookup (Str.ofString "t") = some .local := by decide +kernel
  have kTake : (scopeOf 68).names.lookup (Str.ofString "take") = some .local := by decide +kernel
  have kLetter : (scopeOf 68).names.lookup (Str.ofString "letter") = some .local := by decide +kernel
  have kRows : (scopeOf 68).names.lookup (Str.ofString "rows") = some .local := by decide +kernel
  have kSent : (scopeOf 68).names.lookup (Str.ofString "_law_sent") = some .globalImplicit := by decide +kernel
  have kLR : (scopeOf 68).names.lookup (Str.ofString "_law_rows") = some .globalImplicit := by decide +kernel
  have kLen : (scopeOf 68).names.lookup (Str.ofString "len") = some .globalImplicit := by decide +kernel
  have kZip : (scopeOf 68).names.lookup (Str.ofString "zip") = some .globalImplicit := by decide +kernel
  have kType : (scopeOf 68).names.lookup (Str.ofString "type") = some .globalImplicit := by decide +kernel
  have kTuple : (scopeOf 68).names.lookup (Str.ofString "tuple") = some .globalImplicit := by decide +kernel
  have kRange : (scopeOf 68).names.lookup (Str.ofString "range") = some .globalImplicit := by decide +kernel
  have kTab : (scopeOf 68).names.lookup (Str.ofString "EXACT_TOKEN_TYPES") = some .globalImplicit := by decide +kernel
  obtain ⟨tab, D, gT, hT, hD⟩ := I.tab
  have hpos : 0 < v.wait.length := List.length_pos_iff.mpr hne
  have hi : x / 2 % v.wait.length < v.wait.length := Nat.mod_lt _ hpos
  have hLm : L ∈ v.wait := hL ▸ wait_get hi
  obtain ⟨gL, hq, _, hLd⟩ := Iv.wt L hLm
  have hLget : v.wait[x / 2 % v.wait.length]? = some L := by
    rw [List.getElem?_eq_getElem hi, ← hL, List.getD_eq_getElem?_getD, List.getElem?_eq_getElem hi]; rfl
  have rW' : F.ρ (Str.ofString "waiting") = some (.list (v.wait.map letterD)) := rW
  have evX : ∀ {q}, Ev F (.Name (Str.ofString "x") q) (.int (x : Nat)) := Ev.name_local rX (K E _ _ kX) (by decide +kernel)
  have hlenW := Ev.lenL (F := F) (x := Str.ofString "len") (e := .Name (Str.ofString "waiting") ⟨132, 32, 132, 39⟩) (np := ⟨132, 28, 132, 31⟩) (p := ⟨132, 28, 132, 40⟩) (by rw [E.T]; exact I.sent.gLen) (K E _ _ kLen) (by decide +kernel) (Ev.name_local rW' (K E _ _ kWait) (by decide +kernel)) (by rw [List.length_map]; omega)
  rw [List.length_map] at hlenW
  have hpy : Builtin.divisionGoesByPylong ((x : Nat) : Int) (2 : Nat) = false := rfl
  refine xset o (Ev.modN (Ev.divN (b := 2) evX (Ev.nat rfl) (by decide) rfl) hlenW (by omega)) (.inl (K E _ _ kTake)) (by with_unfolding_all rfl) fun G1 s1 N1 o1 r1I r1 q1 => ?_
  have E1 := E.nx N1
  generalize hidx : x / 2 % v.wait.length = i at *
  have evI1 : ∀ {q}, Ev G1 (.Name (Str.ofString "take") q) (.int (i : Nat)) := Ev.name_local r1I (K E1 _ _ kTake) (by decide +kernel)
  have hgetD : (v.wait.map letterD)[((i : Nat) : Int).toNat]? = some (.tuple [partsL L, intsD L.came]) := by rw [Int.toNat_natCast, List.getElem?_map, hLget]; rfl
  refine xset2 o1 (Ev.itemL (Ev.name_local ((r1 _ (by decide +kernel)).trans rW') (K E1 _ _ kWait) (by decide +kernel)) evI1 (by omega) (by omega) hgetD) (.inl (K E1 _ _ kLetter)) (.inr ⟨K E1 _ _ kCame, by rw [E1.wc]; simp⟩) (by with_unfolding_all rfl) (by with_unfolding_all rfl) (by decide +kernel) fun G2 s2 N2 o2 r2L r2C r2 q2 => ?_
  have E2 := E1.nx N2
  have evI2 : ∀ {q}, Ev G2 (.Name (Str.ofString "take") q) (.int (i : Nat)) := Ev.name_local ((r2 _ (by decide +kernel) (by decide +kernel)).trans r1I) (K E2 _ _ kTake) (by decide +kernel)
  have rW2 : G2.ρ (Str.ofString "waiting") = some (.list (v.wait.map letterD)) := (r2 _ (by decide +kernel) (by decide +kernel)).trans ((r1 _ (by decide +kernel)).trans rW')
  have evW2 : ∀ {q}, Ev G2 (.Name (Str.ofString "waiting") q) (.list (v.wait.map letterD)) := Ev.name_local rW2 (K E2 _ _ kWait) (by decide +kernel)
  refine xset o2 (d := .list ((v.wait.map letterD).take i ++ (v.wait.map letterD).drop (i + 1))) (Ev.catL (Ev.sliceL_upto evW2 evI2 (by rw [List.length_map]; omega)) (Ev.sliceL_from evW2 (Ev.addN (b := 1) evI2 (Ev.nat rfl)) (by rw [List.length_map]; omega)) (by simp; omega)) (.inl (K E2 _ _ kWait)) (by with_unfolding_all rfl) fun G3 s3 N3 o3 r3W r3 q3 => ?_
  have E3 := E2.nx N3
  have eW : Dat.list ((v.wait.map letterD).take i ++ (v.wait.map letterD).drop (i + 1)) = waitD (v.wait.take i ++ v.wait.drop (i + 1)) := by unfold waitD; rw [List.map_append, List.map_take, List.map_drop]
  rw [eW] at r3W
  have r3L : G3.ρ (Str.ofString "letter") = some (.list [.str (st [nm L.o]), .str (st [nm L.q]), .str (st (textL L))]) := (r3 _ (by decide +kernel)).trans r2L
  have evLet : ∀ {G : Fm} {q}, LE prog w T G → G.ρ (Str.ofString "letter") = some (.list [.str (st [nm L.o]), .str (st [nm L.q]), .str (st (textL L))]) → Ev G (.Name (Str.ofString "letter") q) (.list [.str (st [nm L.o]), .str (st [nm L.q]), .str (st (textL L))]) := fun EG h => Ev.name_local h (K EG _ _ kLetter) (by decide +kernel)
  have hT3 : TabOk G3 tab D := fun h hh => by rw [E3.prog, E3.w]; exact hT h (by rw [← E3.T]; exact hh)
  have e14 : (((14 + L.q : Nat) : Int)) - 14 = ((L.q : Nat) : Int) := by omega
  refine xset o3 (d := .int (((14 + L.q : Nat) : Int) - 14)) (Ev.sub (Ev.itemTab hT3 (by rw [E3.T]; exact gT) (K E3 _ _ kTab) (by decide +kernel) (Ev.itemL (k := 1) (d := .str (st [nm L.q])) (evLet E3 r3L) Ev.int (by decide) (by decide) rfl) (hD.nm hq) rfl) Ev.int) (.inr ⟨K E3 _ _ kOwn, by rw [E3.wc]; simp⟩) (by with_unfolding_all rfl) fun G4 s4 N4 o4 r4O r4 q4 => ?_
  rw [e14] at r4O
  have E4 := E3.nx N4
  generalize hown : L.q = own at *
  have evO4 : ∀ {q}, Ev G4 (.Name (Str.ofString "own") q) (.int (own : Nat)) := Ev.name_cell r4O (K E4 _ _ kOwn) (by decide +kernel)
  have rS4 : G4.ρ (Str.ofString "states") = some (.list [rowD (v.d 0), rowD (v.d 1), rowD (v.d 2)]) := (r4 _ (by decide +kernel)).trans ((r3 _ (by decide +kernel)).trans ((r2 _ (by decide +kernel) (by decide +kernel)).trans ((r1 _ (by decide +kernel)).trans rS)))
  have r4L := (r4 (Str.ofString "letter") (by decide +kernel)).trans r3L
  have hLs : ∀ k, 0 < L.d k ∧ L.d k ≤ t + 1 := Iv.wsmall hLm
  have hds : ∀ k, 0 < v.d own k ∧ v.d own k ≤ t + 1 := Iv.small own
  have cR := cn_rowsR (prog := prog) (w := w) I.K9 I.K10 I.K66 I.gEn I.sent.gLen L.o (tkOf (headL L.o own) L.o) (hOf L.x) L.d (fun k => by have := (hLs k).2; omega)
  have eText : restQ L.o (tkOf (headL L.o own) L.o) (hOf L.x) L.d = textL L := by unfold textL; rw [hown]
  rw [eText] at cR
  have evRows4 : ∀ {p p1 p2 p3 p4 k1}, Ev G4 (.Call (.Name (Str.ofString "_law_rows") p1) [.Subscript (.Name (Str.ofString "letter") p2) (.Constant (.int 2) k1 p3) p4] [] p) (.list [.str (dotS (L.d 0)), .str (dotS (L.d 1)), .str (dotS (L.d 2))]) := by
    intros
    exact Ev.callG (by rw [E4.prog, E4.w, E4.T, E4.n]; exact cR) (K E4 _ _ kLR) (by decide +kernel) (EvL.cons (Ev.itemL (k := 2) (d := .str (st (textL L))) (evLet E4 r4L) Ev.int (by decide) (by decide) rfl) EvL.nil) rfl
  refine xsetc (names := [Str.ofString "mine", Str.ofString "other"]) (keep := fun _ => true) (fn := fun ds => match ds with | [.str a, .str b] => .str (if a.length > b.length then a else b) | _ => .none) o4 (swaps_local o4.wf.fn (K E4 _ _ kRows) rfl (by decide +kernel)) (.inl (K E4 _ _ kRows))
    (Src.zip (d1 := [.str (dotS (v.d own 0)), .str (dotS (v.d own 1)), .str (dotS (v.d own 2))]) (d2 := [.str (dotS (L.d 0)), .str (dotS (L.d 1)), .str (dotS (L.d 2))]) (by rw [E4.T]; exact I.gZip) (K E4 _ _ kZip) (by decide +kernel)
      (Ev.itemL (Ev.name_local rS4 (K E4 _ _ kStates) (by decide +kernel)) evO4 (by omega) (by omega) (row_get hq)) evRows4 rfl rfl rfl rfl)
    (ScOk.mk2 rfl (by decide +kernel) (fun x hx => by have hx' : x ∈ ([] : List Str) := hx; cases hx') (fun x hx => ?_) (by decide +kernel)) (by decide +kernel) (by simp [sizeLine]) (fun _ => rfl) ?_ fun G5 s5 N5 o5 r5R r5 q5 => ?_
  · simp only [List.mem_cons, List.not_mem_nil, or_false] at hx
    rcases hx with rfl | rfl
    · exact .inl (by decide +kernel)
    · exact .inl (by decide +kernel)
  · intro ds hds H fr
    obtain ⟨a, b, ha, hb, rfl⟩ : ∃ a b : Nat, a ≤ 60 ∧ b ≤ 60 ∧ ds = [.str (dotS a), .str (dotS b)] := by
      simp only [List.zip_cons_cons, List.zip_nil_right, List.map_cons, List.map_nil, List.mem_cons, List.not_mem_nil, or_false] at hds
      rcases hds with h | h | h
      · exact ⟨_, _, by have := (hds 0).2; omega, by have := (hLs 0).2; omega, h⟩
      · exact ⟨_, _, by have := (hds 1).2; omega, by have := (hLs 1).2; omega, h⟩
      · exact ⟨_, _, by have := (hds 2).2; omega, by have := (hLs 2).2; omega, h⟩
    refine ⟨.inl ⟨rfl, rfl⟩, fun _ => ?_⟩
    have kM : H.env.kindOf (Str.ofString "mine") = some .local := fr.kind _ _ (by decide +kernel) (by decide)
    have kO : H.env.kindOf (Str.ofString "other") = some .local := fr.kind _ _ (by decide +kernel) (by decide)
    have kL : H.env.kindOf (Str.ofString "len") = some .globalImplicit := fr.kind _ _ (by decide +kernel) (by decide)
    have rM : H.ρ (Str.ofString "mine") = some (.str (dotS a)) := fr.tgt 0 _ _ rfl rfl
    have rO : H.ρ (Str.ofString "other") = some (.str (dotS b)) := fr.tgt 1 _ _ rfl rfl
    have gL' : H.T.G (Str.ofString "len") = some (.builtin "len") := by rw [fr.T, E4.T]; exact I.sent.gLen
    have evM : ∀ {q}, Ev H (.Name (Str.ofString "mine") q) (.str (dotS a)) := Ev.name_local rM kM (by decide +kernel)
    have evO : ∀ {q}, Ev H (.Name (Str.ofString "other") q) (.str (dotS b)) := Ev.name_local rO kO (by decide +kernel)
    show Ev H _ (.str (if (dotS a).length > (dotS b).length then dotS a else dotS b))
    refine Ev.ifExp (Tst.cmp (Ev.lenS gL' kL (by decide +kernel) evM (by rw [dot_len]; omega)) (Ev.lenS gL' kL (by decide +kernel) evO (by rw [dot_len]; omega)) CmpR.gt (by with_unfolding_all rfl)) (fun h => ?_) (fun h => ?_)
    · have h' := of_decide_eq_true h
      rw [if_pos (by omega)]; exact evM
    · have h' := of_decide_eq_false h
      rw [if_neg (by omega)]; exact evO
  have E5 := E4.nx N5
  have eR : Dat.list (((([Dat.str (dotS (v.d own 0)), .str (dotS (v.d own 1)), .str (dotS (v.d own 2))].zip [Dat.str (dotS (L.d 0)), .str (dotS (L.d 1)), .str (dotS (L.d 2))]).map fun p => [p.1, p.2]).filter fun _ => true).map fun ds => match ds with | [.str a, .str b] => .str (if a.length > b.length then a else b) | _ => .none) = rowD (maxR (v.d own) L.d) := by
    have one : ∀ a b : Nat, (if (dotS a).length > (dotS b).length then dotS a else dotS b) = dotS (if a > b then a else b) := fun a b => by
      rw [dot_len, dot_len]
      split <;> rfl
    show Dat.list [.str (if (dotS (v.d own 0)).length > (dotS (L.d 0)).length then dotS (v.d own 0) else dotS (L.d 0)), .str (if (dotS (v.d own 1)).length > (dotS (L.d 1)).length then dotS (v.d own 1) else dotS (L.d 1)), .str (if (dotS (v.d own 2)).length > (dotS (L.d 2)).length then dotS (v.d own 2) else dotS (L.d 2))] = _
    rw [one, one, one]; rfl
  rw [eR] at r5R
  have evO5 : ∀ {q}, Ev G5 (.Name (Str.ofString "own") q) (.int (own : Nat)) := Ev.name_cell ((r5 _ (by decide +kernel)).trans r4O) (K E5 _ _ kOwn) (by decide +kernel)
  have rX5 : G5.ρ (Str.ofString "x") = some (.int (x : Nat)) := (r5 _ (by decide +kernel)).trans ((r4 _ (by decide +kernel)).trans ((r3 _ (by decide +kernel)).trans ((r2 _ (by decide +kernel) (by decide +kernel)).trans ((r1 _ (by decide +kernel)).trans rX))))
  have hmax : ∀ k, 0 < maxR (v.d own) L.d k ∧ maxR (v.d own) L.d k ≤ t + 1 := fun k => by
    have h1 := hds k
    have h2 := hLs k
    unfold maxR
    split <;> omega
  have cS := (cn_sent I.sent [] own x (maxR (v.d own) L.d) (fun c hc => nomatch hc) (by simp) hx (fun k => by have := (hmax k).2; omega) (fun k => (hmax k).1) (by rw [List.nil_append, count_note hq]; exact Nat.le_refl _)).more (m := 3) (by omega)
  rw [List.nil_append, dec_note (count_note hq _ _)] at cS
  have he0 : Str.ofString "" = st [] := by decide +kernel
  refine xset o5 (d := .tuple [.none, .none, .str (st (restQ own (tkOf [] own) (hOf x) (grow own (maxR (v.d own) L.d))))]) (Ev.callG (by rw [E5.prog, E5.w, E5.T, E5.n]; exact cS) (K E5 _ _ kSent) (by decide +kernel) (EvL.cons (by rw [← he0]; exact Ev.str) (EvL.cons (Ev.name_local r5R (K E5 _ _ kRows) (by decide +kernel)) (EvL.cons evO5 (EvL.cons (Ev.name_local rX5 (K E5 _ _ kX) (by decide +kernel)) EvL.nil)))) rfl) (.inl (K E5 _ _ kParts)) (by with_unfolding_all rfl) fun G6 s6 N6 o6 r6P r6 q6 => ?_
  have E6 := E5.nx N6
  have evP6 : ∀ {q}, Ev G6 (.Name (Str.ofString "parts") q) (.tuple [.none, .none, .str (st (restQ own (tkOf [] own) (hOf x) (grow own (maxR (v.d own) L.d))))]) := Ev.name_local r6P (K E6 _ _ kParts) (by decide +kernel)
  refine xif o6 (b := false) (Tst.or (a := false) (b := false) (Tst.notTuple (ep := ⟨0, 0, 0, 0⟩) (by rw [E6.T]; exact I.gType) (K E6 _ _ kType) (by decide +kernel) (by rw [E6.T]; exact I.gTuple) (K E6 _ _ kTuple) (by decide +kernel) evP6 rfl (.inl ⟨_, rfl, rfl⟩)) fun _ =>
    Tst.cmp (a := .tuple [.none, .none]) (Ev.sliceT_upto (b := 2) evP6 (Ev.nat rfl) (by simp) (by simp [sizeLine])) (Ev.tuple (EvL.cons Ev.non (EvL.cons Ev.non EvL.nil)) (by simp [sizeLine])) (CmpR.neSame (n := 1) rfl (by decide)) (by with_unfolding_all rfl)) fun s7 o7 => ?_
  refine wpAny_execs_nil ?_
  have rL6 : G6.ρ (Str.ofString "lasts") = some (.list [intsD (v.lasts 0), intsD (v.lasts 1), intsD (v.lasts 2)]) := (r6 _ (by decide +kernel)).trans ((r5 _ (by decide +kernel)).trans ((r4 _ (by decide +kernel)).trans ((r3 _ (by decide +kernel)).trans ((r2 _ (by decide +kernel) (by decide +kernel)).trans ((r1 _ (by decide +kernel)).trans rL)))))
  have rT6 : G6.ρ (Str.ofString "t") = some (.int (t : Nat)) := (r6 _ (by decide +kernel)).trans ((r5 _ (by decide +kernel)).trans ((r4 _ (by decide +kernel)).trans ((r3 _ (by decide +kernel)).trans ((r2 _ (by decide +kernel) (by decide +kernel)).trans ((r1 _ (by decide +kernel)).trans rT)))))
  have rO6 : G6.ρ (Str.ofString "own") = some (.int (own : Nat)) := (r6 _ (by decide +kernel)).trans ((r5 _ (by decide +kernel)).trans r4O)
  have rC6 : G6.ρ (Str.ofString "came") = some (intsD L.came) := (r6 _ (by decide +kernel)).trans ((r5 _ (by decide +kernel)).trans ((r4 _ (by decide +kernel)).trans ((r3 _ (by decide +kernel)).trans r2C)))
  have evT6 : ∀ {q}, Ev G6 (.Name (Str.ofString "t") q) (.int (t : Nat)) := Ev.name_local rT6 (K E6 _ _ kT) (by decide +kernel)
  have hcomp := compInts (fun e => decide (e ∈ v.lasts own) || decide (e ∈ L.came)) (List.range t)
  rw [← rangeD] at hcomp
  have ePast : intsD ((List.range t).filter (fun e => decide (e ∈ v.lasts own) || decide (e ∈ L.came)) ++ [t]) = .list (((((List.range t).map fun (i : Nat) => Dat.int i).map fun d => [d]).filter (keepN fun e => decide (e ∈ v.lasts own) || decide (e ∈ L.came))).map fnN ++ [.int (t : Nat)]) := by
    rw [hcomp]
    unfold intsD
    rw [List.map_append, List.map_append]; rfl
  refine xset o7 (d := intsD ((List.range t).filter (fun e => decide (e ∈ v.lasts own) || decide (e ∈ L.came)) ++ [t])) (by
    rw [ePast]
    refine Ev.catL (Ev.comp (names := [Str.ofString "e"]) (Src.range (n := t) (by rw [E6.T]; exact I.sent.gRange) (K E6 _ _ kRange) (by decide +kernel) evT6 (by omega) rfl) (ScOk.mk2 rfl (by decide +kernel) (fun x hx => ?_) (by decide +kernel) (by decide +kernel)) (by decide +kernel) (by simp; omega) (fun _ => rfl) ?_) (Ev.list (EvL.cons evT6 EvL.nil) (by simp [sizeLine])) ?_
    · have hx' : x ∈ [Str.ofString "came", Str.ofString "lasts", Str.ofString "own"] := hx
      simp only [List.mem_cons, List.not_mem_nil, or_false] at hx'
      rcases hx' with rfl | rfl | rfl
      · exact .inl (K E6 _ _ kCame)
      · exact .inl (K E6 _ _ kLasts)
      · exact .inl (K E6 _ _ kOwn)
    · intro ds hds H fr
      obtain ⟨e, he, rfl⟩ : ∃ e : Nat, e < t ∧ ds = [.int (e : Int)] := by
        simp only [List.map_map, List.mem_map, List.mem_range] at hds
        obtain ⟨e, he, rfl⟩ := hds
        exact ⟨e, he, rfl⟩
      have kE : H.env.kindOf (Str.ofString "e") = some .local := fr.kind _ _ (by decide +kernel) (by decide)
      have rE : H.ρ (Str.ofString "e") = some (.int (e : Nat)) := fr.tgt 0 _ _ rfl rfl
      have evE : ∀ {q}, Ev H (.Name (Str.ofString "e") q) (.int (e : Nat)) := Ev.name_local rE kE (by decide +kernel)
      have rC : H.ρ (Str.ofString "came") = some (intsD L.came) := (fr.fr _ (by decide +kernel)).trans rC6
      have rO : H.ρ (Str.ofString "own") = some (.int (own : Nat)) := (fr.fr _ (by decide +kernel)).trans rO6
      have rLa : H.ρ (Str.ofString "lasts") = some (.list [intsD (v.lasts 0), intsD (v.lasts 1), intsD (v.lasts 2)]) := (fr.fr _ (by decide +kernel)).trans rL6
      refine ⟨.inr ⟨_, rfl, ?_⟩, fun _ => evE⟩
      have hb : keepN (fun e => decide (e ∈ v.lasts own) || decide (e ∈ L.came)) [Dat.int (e : Int)] = (((v.lasts own).map fun (n : Nat) => (n : Int)).any (· == (e : Int)) || (L.came.map fun (n : Nat) => (n : Int)).any (· == (e : Int))) := by
        show (decide ((e : Int).toNat ∈ v.lasts own) || decide ((e : Int).toNat ∈ L.came)) = _
        rw [Int.toNat_natCast, any_mem, any_mem]
      rw [hb]
      exact Tst.or (Tst.cmp evE (Ev.itemL (Ev.name rLa (.inr (fr.free _ (by decide +kernel))) (by decide +kernel) (by decide +kernel)) (Ev.name rO (.inr (fr.free _ (by decide +kernel))) (by decide +kernel) (by decide +kernel)) (by omega) (by omega) (last_get hq)) CmpR.inInts (by with_unfolding_all rfl)) fun _ =>
        Tst.cmp evE (Ev.name rC (.inr (fr.free _ (by decide +kernel))) (by decide +kernel) (by decide +kernel)) CmpR.inInts (by with_unfolding_all rfl)
    · rw [hcomp, List.length_map, List.length_map]
      have := List.length_filter_le (fun e => decide (e ∈ v.lasts own) || decide (e ∈ L.came)) (List.range t)
      rw [List.length_range] at this
      simp
      omega) (.inr ⟨K E6 _ _ kPast, by rw [E6.wc]; simp⟩) (by with_unfolding_all rfl) fun G7 s8 N7 o8 r7P r7 q7 => ?_
  refine wpAny_execs_nil (k G7 s8 (((N1.trans N2).trans N3).trans ((N4.trans N5).trans (N6.trans N7))) o8 ?_ r7P ?_ ?_ fun y hy => ?_)
  · exact (r7 _ (by decide +kernel)).trans rO6
  · exact (r7 _ (by decide +kernel)).trans r6P
  · exact (r7 _ (by decide +kernel)).trans ((r6 _ (by decide +kernel)).trans ((r5 _ (by decide +kernel)).trans ((r4 _ (by decide +kernel)).trans r3W)))
  · simp only [List.mem_cons, List.not_mem_nil, or_false, not_or] at hy
    obtain ⟨h1, h2, h3, h4, h5, h6, h7, h8⟩ := hy
    exact ⟨(r7 _ h8).trans ((r6 _ h7).trans ((r5 _ h6).trans ((r4 _ h5).trans ((r3 _ h4).trans ((r2 _ h2 h3).trans (r1 _ h1)))))), (q7 _ h8).trans ((q6 _ h7).trans ((q5 _ h6).trans ((q4 _ h5).trans ((q3 _ h4).trans ((q2 _ h2 h3).trans (q1 _ h1))))))⟩
end
end Mine

end

section
open PySem PySem.W PyProof.Rows
set_option maxRecDepth 100000
set_option Elab.async false
set_option linter.unusedVariables false
namespace Mine

theorem EvL.ints {F : Fm} {pos : Pos} : ∀ (cs : List (Int × Pos)), EvL F pos (cs.map fun c => Expr.Constant (.int c.1) 0 c.2) (cs.map fun c => Dat.int c.1)
  | [] => @EvL.nil F pos
  | c :: cs => @EvL.cons F pos (Expr.Constant (.int c.1) 0 c.2) _ (Dat.int c.1) _ Ev.int (EvL.ints cs) rfl
theorem Ev.ints {F : Fm} {pos : Pos} (cs : List (Int × Pos)) (es : List Expr) (ds : List Dat) (h1 : es = cs.map fun c => Expr.Constant (.int c.1) 0 c.2) (h2 : ds = cs.map fun c => Dat.int c.1) (hs : ds.length ≤ sizeLine) : Ev F (.List es pos) (.list ds) := by
  subst h1 h2
  exact @Ev.list F _ pos _ (EvL.ints cs) hs
noncomputable def pickI (ns : List Int) (lo hi st : Option Int) : List Int := (sliceRange (sliceBounds lo hi st ns.length).1 (sliceBounds lo hi st ns.length).2.1 (sliceBounds lo hi st ns.length).2.2).filterMap (ns[·]?)
theorem pick_ints (ns : List Int) (lo hi st : Option Int) : pickD (ns.map Dat.int) lo hi st = (pickI ns lo hi st).map Dat.int := by
  unfold pickD pickI
  rw [List.length_map, List.map_filterMap]
  congr 1
  funext k
  rw [List.getElem?_map]
noncomputable def tabI : List Int := [61, 45, 122, 55, 206, 131, 310, 400, 77, 164]
noncomputable def xI (ns : List Int) (t : Nat) : Int := Int.fmod (tabI.getD t 0 + (pickI ns (some (t : Int)) none (some 10)).sum) 1000000
noncomputable def xOf (ns : List Int) (t : Nat) : Nat := (xI ns t).toNat
theorem xI_eq (ns : List Int) (t : Nat) : xI ns t = ((xOf ns t : Nat) : Int) := by
  unfold xOf
  have : 0 ≤ xI ns t := by unfold xI; exact Int.fmod_nonneg_of_pos _ (by decide)
  omega
theorem xOf_lt (ns : List Int) (t : Nat) : xOf ns t < 1000000 := by
  have h1 := xI_eq ns t
  have : xI ns t < 1000000 := by unfold xI; exact Int.fmod_lt_of_pos _ (by decide)
  omega
noncomputable def run (ns : List Int) : Nat → VS
  | 0 => start
  | t + 1 => stepV (xOf ns t) t (run ns t)
theorem run_inv (ns : List Int) : ∀ t, Inv t (run ns t)
  | 0 => inv0
  | t + 1 => inv_step (run_inv ns t) _
theorem run_wait (ns : List Int) : ∀ t, (run ns t).wait.length ≤ t
  | 0 => Nat.le_refl _
  | t + 1 => by
    have h1 := run_wait ns t
    have h2 := step_wait_len (t := t) (s := run ns t) (xOf ns t)
    show (stepV _ t _).wait.length ≤ _
    omega

noncomputable def tabE (p1 p2 p3 p4 p5 p6 p7 p8 p9 p10 : Pos) : List Expr := (List.cons (Expr.Constant (Const.int (61 : Int)) (0 : Nat) p1) (List.cons (Expr.Constant (Const.int (45 : Int)) (0 : Nat) p2) (List.cons (Expr.Constant (Const.int (122 : Int)) (0 : Nat) p3) (List.cons (Expr.Constant (Const.int (55 : Int)) (0 : Nat) p4) (List.cons (Expr.Constant (Const.int (206 : Int)) (0 : Nat) p5) (List.cons (Expr.Constant (Const.int (131 : Int)) (0 : Nat) p6) (List.cons (Expr.Constant (Const.int (310 : Int)) (0 : Nat) p7) (List.cons (Expr.Constant (Const.int (400 : Int)) (0 : Nat) p8) (List.cons (Expr.Constant (Const.int (77 : Int)) (0 : Nat) p9) (List.cons (Expr.Constant (Const.int (164 : Int)) (0 : Nat) p10) List.nil))))))))))
noncomputable def tabL : List Dat := tabI.map Dat.int
noncomputable def tabC (p1 p2 p3 p4 p5 p6 p7 p8 p9 p10 : Pos) : List (Int × Pos) := (List.cons ((61 : Int), p1) (List.cons ((45 : Int), p2) (List.cons ((122 : Int), p3) (List.cons ((55 : Int), p4) (List.cons ((206 : Int), p5) (List.cons ((131 : Int), p6) (List.cons ((310 : Int), p7) (List.cons ((400 : Int), p8) (List.cons ((77 : Int), p9) (List.cons ((164 : Int), p10) List.nil))))))))))
theorem tab_list {F : Fm} {p11 p1 p2 p3 p4 p5 p6 p7 p8 p9 p10 : Pos} : Ev F (.List (tabE p1 p2 p3 p4 p5 p6 p7 p8 p9 p10) p11) (.list tabL) :=
  Ev.ints (tabC p1 p2 p3 p4 p5 p6 p7 p8 p9 p10) _ _ rfl rfl (by rw [sizeLine_eq]; exact Nat.le_of_ble_eq_true rfl)
theorem tab_get {t : Nat} (h : t < 10) : tabL[((t : Nat) : Int).toNat]? = some (.int (tabI.getD t 0)) := by
  rw [Int.toNat_natCast]
  match t, h with
  | 0, _ => rfl
  | 1, _ => rfl
  | 2, _ => rfl
  | 3, _ => rfl
  | 4, _ => rfl
  | 5, _ => rfl
  | 6, _ => rfl
  | 7, _ => rfl
  | 8, _ => rfl
  | 9, _ => rfl
theorem tab_item {F : Fm} {l e : Expr} {p : Pos} {ds : List Dat} {t : Nat} {d : Dat} (hl : Ev F l (.list ds)) (ht : t < 10) (he : Ev F e (.int (t : Nat))) (hd : ds[((t : Nat) : Int).toNat]? = some d) (hs : notSlice e = true) : Ev F (.Subscript l e p) d :=
  Ev.itemL hl he (by omega) (by omega) hd hs
structure EvS (F : Fm) (e : Expr) (d : Dat) : Prop where
  ev : Ev F e d
theorem tab_ev {F : Fm} {t : Nat} (evT : ∀ {q}, Ev F (.Name (Str.ofString "t") q) (.int (t : Nat))) (ht : t < 10) {p p1 p2 p3 p4 p5 p6 p7 p8 p9 p10 p11 p12 : Pos} : EvS F (.Subscript (.List (tabE p1 p2 p3 p4 p5 p6 p7 p8 p9 p10) p11) (.Name (Str.ofString "t") p12) p) (.int (tabI.getD t 0)) := by
  have h1 := @tab_list F p11 p1 p2 p3 p4 p5 p6 p7 p8 p9 p10
  revert h1
  generalize (Expr.List (tabE p1 p2 p3 p4 p5 p6 p7 p8 p9 p10) p11) = l
  intro h1
  exact ⟨tab_item h1 ht evT (tab_get ht) rfl⟩
theorem EvS.mixed {F : Fm} {l r : Expr} {p q r1 : Pos} {k1 : Nat} {a b m : Int} (hl : EvS F l (.int a)) (hr : Ev F r (.int b)) (hm : m ≠ 0) : EvS F (.BinOp (.BinOp l .Add r p) .Mod (.Constant (.int m) k1 r1) q) (.int (Int.fmod (a + b) m)) :=
  ⟨Ev.mod (Ev.add hl.ev hr) Ev.int hm⟩
theorem xsetS {F : Fm} {s : Shared} {rest : List Stmt} {Q : Flow → Shared → Prop} {E : Value → Shared → Prop} {x : Str} {px p : Pos} {value : Expr} {d : Dat} (o : F.Ok s) (hv : EvS F value d) (hx : Stor F x) (hs : swapsWith value (some (.Name x px)) p.line F.env = pure false)
    (k : ∀ G s', Nx F G → G.Ok s' → G.ρ x = some d → (∀ y, y ≠ x → G.ρ y = F.ρ y) → (∀ y, y ≠ x → G.mt y = F.mt y) → Go G rest Q E s') : Go F (.Assign [.Name x px] value p :: rest) Q E s :=
  xset o hv.ev hx hs k
structure LawFam (F : Fm) (ns : List Int) (aH aP aC : Addr) (v : VS) (G : Fm) : Prop where
  nx : Nx F G
  drawn : G.ρ (Str.ofString "drawn") = some (.list (ns.map Dat.int))
  states : G.ρ (Str.ofString "states") = some (statesD v.d)
  lasts : G.ρ (Str.ofString "lasts") = some (lastsD v.lasts)
  waiting : G.ρ (Str.ofString "waiting") = some (waitD v.wait)
  homes : G.mt (Str.ofString "homes") = some (aH, v.homes.map natI)
  pasts : G.mt (Str.ofString "pasts") = some (aP, v.pasts.map intsD)
  clocks : G.mt (Str.ofString "clocks") = some (aC, v.clocks.map intsD)

theorem pin_back {F H G : Fm} {pp : Addr × Obj} (hH : H.pin = pp :: F.pin) (hG : Nx H G) : (({ G with pin := F.pin } : Fm).addPin pp) = G := by
  have h : G.pin = pp :: F.pin := hG.like.pin.trans hH
  obtain ⟨p, w, T, n, A, env, base, X, ρ, mt, wc, wm, pin, gpin⟩ := G
  simp only at h
  subst h
  rfl

theorem Go.nx {F G : Fm} {l : List Stmt} {Q : Flow → Shared → Prop} {E : Value → Shared → Prop} {s : Shared} (N : Nx F G) (h : Go G l Q E s) : Go F l Q E s := by
  unfold Go at h ⊢
  rw [N.like.prog, N.like.w, N.like.A, N.like.env] at h
  exact h

section
variable {prog : Program} {w : World} {T : TopT} {F : Fm} {s : Shared}

set_option maxHeartbeats 1000000 in
theorem law_turn (I : LI prog w T) (E : LE prog w T F) (o : F.Ok s) {ns : List Int} {t : Nat} (ht : t < 10) (hns : ns.length ≤ 100) {aH aP aC : Addr}
    (rD : F.ρ (Str.ofString "drawn") = some (.list (ns.map Dat.int))) (rS : F.ρ (Str.ofString "states") = some (statesD (run ns t).d)) (rL : F.ρ (Str.ofString "lasts") = some (lastsD (run ns t).lasts)) (rW : F.ρ (Str.ofString "waiting") = some (waitD (run ns t).wait)) (rT : F.ρ (Str.ofString "t") = some (.int (t : Nat)))
    (mH : F.mt (Str.ofString "homes") = some (aH, (run ns t).homes.map natI)) (mP : F.mt (Str.ofString "pasts") = some (aP, (run ns t).pasts.map intsD)) (mC : F.mt (Str.ofString "clocks") = some (aC, (run ns t).clocks.map intsD)) {Q : Flow → Shared → Prop}
    (k : ∀ G s', Nx F G → G.Ok s' → LawFam F ns aH aP aC (run ns (t + 1)) G → Q .next s') {body : List Stmt} (hbody : body = forBody (nth (bodyOf 68) 7)) : Go F body Q (fun _ _ => False) s := by
  have hsz := sizeLine_eq
  have K : ∀ {G}, LE prog w T G → ∀ y k, (scopeOf 68).names.lookup y = some k → G.env.kindOf y = some k := fun EG y k h => (EG.kind y).trans h
  have kX : (scopeOf 68).names.lookup (Str.ofString "x") = some .local := by decide +kernel
  have kT : (scopeOf 68).names.lookup (Str.ofString "t") = some .local := by decide +kernel
  have kD : (scopeOf 68).names.lookup (Str.ofString "drawn") = some .local := by decide +kernel
  have kW : (scopeOf 68).names.lookup (Str.ofString "waiting") = some .local := by decide +kernel
  have kSum : (scopeOf 68).names.lookup (Str.ofString "sum") = some .globalImplicit := by decide +kernel
  have Iv := run_inv ns t
  have Iv' := run_inv ns (t + 1)
  have hw := run_wait ns t
  have hxlt := xOf_lt ns t
  have evT : ∀ {q}, Ev F (.Name (Str.ofString "t") q) (.int (t : Nat)) := Ev.name_local rT (K E _ _ kT) (by decide +kernel)
  have evSum : ∀ {p p1 p2 p3 p4 p5 p6 k1}, Ev F (.Call (.Name (Str.ofString "sum") p1) [.Subscript (.Name (Str.ofString "drawn") p2) (.Slice (some (.Name (Str.ofString "t") p3)) none (some (.Constant (.int 10) k1 p4)) p5) p6] [] p) (.int (pickI ns (some (t : Int)) none (some 10)).sum) := by
    intros
    refine Ev.sum (by rw [E.T]; exact I.gSum) (K E _ _ kSum) (by decide +kernel) ?_ rfl
    rw [← pick_ints]
    exact Ev.sliceL_step (Ev.name_local rD (K E _ _ kD) (by decide +kernel)) evT Ev.int (by decide) (by rw [List.length_map]; omega)
  have evTab := @tab_ev F t evT ht
  have exI : Int.fmod (tabI.getD t 0 + (pickI ns (some (t : Int)) none (some 10)).sum) 1000000 = ((xOf ns t : Nat) : Int) := xI_eq ns t
  generalize (pickI ns (some (t : Int)) none (some 10)).sum = S at evSum exI
  generalize tabI.getD t 0 = A at evTab exI
  have key : ∃ value px p, EvS F value (.int (Int.fmod (A + S) 1000000)) ∧ swapsWith value (some (.Name (Str.ofString "x") px)) p.line F.env = pure false ∧ forBody (nth (bodyOf 68) 7) = .Assign [.Name (Str.ofString "x") px] value p :: (forBody (nth (bodyOf 68) 7)).tail := by
    refine ⟨_, _, _, ?_, ?_, rfl⟩
    · exact EvS.mixed evTab evSum (by decide)
    · with_unfolding_all rfl
  obtain ⟨value, px, p, hv, hsw, hst⟩ := key
  rw [hbody, hst]
  refine xset o hv.ev (.inl (K E _ _ kX)) hsw fun G1 s1 N1 o1 r1X r1 q1 => ?_
  rw [exI] at r1X
  have E1 := E.nx N1
  generalize hx : xOf ns t = x at *
  have evX : ∀ {q}, Ev G1 (.Name (Str.ofString "x") q) (.int (x : Nat)) := Ev.name_local r1X (K E1 _ _ kX) (by decide +kernel)
  have rW1 : G1.ρ (Str.ofString "waiting") = some (waitD (run ns t).wait) := (r1 _ (by decide +kernel)).trans rW
  have neW : CmpR G1 .NotEq (waitD (run ns t).wait) (.list []) (decide ((run ns t).wait ≠ [])) := by
    by_cases h : (run ns t).wait = []
    · rw [h]
      exact CmpR.neSame (n := 3) (a := .list []) rfl (by decide)
    · rw [decide_eq_true h]
      refine CmpR.neDiff (wait_ok _) (by decide) (k := 1) (b := .list []) rfl (by decide) fun e => h ?_
      unfold waitD at e
      injection e with e
      exact List.map_eq_nil_iff.mp e
  have evW1 : ∀ {q}, Ev G1 (.Name (Str.ofString "waiting") q) (waitD (run ns t).wait) := Ev.name_local rW1 (K E1 _ _ kW) (by decide +kernel)
  refine xif o1 (Tst.and (a := ((x % 2 : Nat) : Int) == 0) (b := decide ((run ns t).wait ≠ [])) (Tst.cmp (Ev.modN (b := 2) evX (Ev.nat rfl) (by decide)) Ev.int CmpR.eqInt (by with_unfolding_all rfl)) fun _ => Tst.cmp evW1 (Ev.list EvL.nil) neW (by with_unfolding_all rfl)) fun s2 o2 => ?_
  have rS1 := (r1 (Str.ofString "states") (by decide +kernel)).trans rS
  have rL1 := (r1 (Str.ofString "lasts") (by decide +kernel)).trans rL
  have rT1 := (r1 (Str.ofString "t") (by decide +kernel)).trans rT
  have hrun : run ns (t + 1) = stepV x t (run ns t) := by rw [← hx]; rfl
  by_cases hc : x % 2 = 0 ∧ (run ns t).wait ≠ []
  · have hb : ((((x % 2 : Nat) : Int) == 0) && decide ((run ns t).wait ≠ [])) = true := by
      rw [hc.1, decide_eq_true hc.2]; rfl
    rw [hb, if_pos rfl]
    generalize hLt : (run ns t).wait.getD (x / 2 % (run ns t).wait.length) l0 = L
    have hstep : stepV x t (run ns t) = fin (run ns t) t L.q (maxR ((run ns t).d L.q) L.d) ((List.range t).filter (fun e => decide (e ∈ (run ns t).lasts L.q) || decide (e ∈ L.came)) ++ [t]) ((run ns t).wait.take (x / 2 % (run ns t).wait.length) ++ (run ns t).wait.drop (x / 2 % (run ns t).wait.length + 1)) := by
      unfold stepV
      rw [if_pos hc, ← hLt]; rfl
    have hLm : L ∈ (run ns t).wait := hLt ▸ wait_get (Nat.mod_lt _ (List.length_pos_iff.mpr hc.2))
    have hq := (Iv.wt L hLm).2.1
    refine law_take I E1 o2 ht hxlt Iv (by omega) hc.2 rS1 rL1 rW1 rT1 r1X hLt fun G2 s3 N2 o3 rO rP rPa rWt old => ?_
    have E2 := E1.nx N2
    rw [hrun, hstep] at Iv' k
    refine Go.nx N2 (law_tail I E2 o3 ht hq Iv Iv' (.inl rfl) ((old _ (by decide +kernel)).1.trans rS1) ((old _ (by decide +kernel)).1.trans rL1) rWt rO rP rPa ((old _ (by decide +kernel)).1.trans rT1) ((old _ (by decide +kernel)).2.trans ((q1 _ (by decide +kernel)).trans mH)) ((old _ (by decide +kernel)).2.trans ((q1 _ (by decide +kernel)).trans mP)) ((old _ (by decide +kernel)).2.trans ((q1 _ (by decide +kernel)).trans mC)) fun G3 s4 N3 o4 h1 h2 h3 h4 h5 h6 h7 => ?_)
    have N := N1.trans (N2.trans N3)
    exact k G3 s4 N o4 ⟨N, h4.trans ((old _ (by decide +kernel)).1.trans ((r1 _ (by decide +kernel)).trans rD)), h1, h2, h3, h5, h6, h7⟩
  · have hb : ((((x % 2 : Nat) : Int) == 0) && decide ((run ns t).wait ≠ [])) = false := by
      rw [Bool.and_eq_false_iff]
      by_cases h0 : x % 2 = 0
      · exact .inr (decide_eq_false fun h => hc ⟨h0, h⟩)
      · refine .inl ?_
        rw [beq_eq_false_iff_ne]; omega
    rw [hb, if_neg (by decide)]
    have hstep : stepV x t (run ns t) = fin (run ns t) t (x / 2 % 3) ((run ns t).d (x / 2 % 3)) ((run ns t).lasts (x / 2 % 3) ++ [t]) ((run ns t).wait ++ [⟨x / 2 % 3, (x / 2 % 3 + 1 + x / 6 % 2) % 3, x, grow (x / 2 % 3) ((run ns t).d (x / 2 % 3)), (run ns t).lasts (x / 2 % 3) ++ [t]⟩]) := by
      unfold stepV
      rw [if_neg hc]
    refine law_send I E1 o2 ht hxlt Iv (by omega) rS1 rL1 rW1 rT1 r1X fun G2 s3 N2 o3 rO rP rPa rWt old => ?_
    have E2 := E1.nx N2
    rw [hrun, hstep] at Iv' k
    refine Go.nx N2 (law_tail I E2 o3 ht (Nat.mod_lt _ (by decide)) Iv Iv' (.inr rfl) ((old _ (by decide +kernel)).1.trans rS1) ((old _ (by decide +kernel)).1.trans rL1) rWt rO rP rPa ((old _ (by decide +kernel)).1.trans rT1) ((old _ (by decide +kernel)).2.trans ((q1 _ (by decide +kernel)).trans mH)) ((old _ (by decide +kernel)).2.trans ((q1 _ (by decide +kernel)).trans mP)) ((old _ (by decide +kernel)).2.trans ((q1 _ (by decide +kernel)).trans mC)) fun G3 s4 N3 o4 h1 h2 h3 h4 h5 h6 h7 => ?_)
    have N := N1.trans (N2.trans N3)
    exact k G3 s4 N o4 ⟨N, h4.trans ((old _ (by decide +kernel)).1.trans ((r1 _ (by decide +kernel)).trans rD)), h1, h2, h3, h5, h6, h7⟩
end
end Mine

end

section
open PySem PySem.W PyProof.Rows
set_option maxRecDepth 100000
set_option Elab.async false
set_option linter.unusedVariables false
namespace Mine

theorem Go.eqs {F G : Fm} {l : List Stmt} {Q : Flow → Shared → Prop} {E : Value → Shared → Prop} {s : Shared} (h1 : G.prog = F.prog) (h2 : G.w = F.w) (h3 : G.A = F.A) (h4 : G.env = F.env) (h : Go G l Q E s) : Go F l Q E s := by
  unfold Go at h ⊢
  rw [h1, h2, h3, h4] at h
  exact h

/-- a turn's frame, given back to the loop -/
theorem nx_back {F G H G' : Fm} {pp : Addr × Obj} {x : Str} {d : Dat} (N : Like F G) (hX : G.X = F.X) (hH : H = (G.addPin pp).set x d) (N' : Nx H G') : Nx F ({ G' with pin := F.pin } : Fm) ∧ ({ G' with pin := F.pin } : Fm).addPin pp = G' := by
  subst hH
  have L := N'.like
  refine ⟨⟨⟨L.prog.trans N.prog, L.w.trans N.w, L.T.trans N.T, L.n.trans N.n, L.A.trans N.A, L.env.trans N.env, L.base.trans N.base, L.wc.trans N.wc, L.wm.trans N.wm, rfl, L.gpin.trans N.gpin⟩, N'.X.trans hX⟩, ?_⟩
  exact pin_back (F := F) (H := (G.addPin pp).set x d) (by show pp :: G.pin = pp :: F.pin; rw [N.pin]) N'

theorem turn_E {prog : Program} {w : World} {T : TopT} {F G : Fm} {pp : Addr × Obj} {x : Str} {d : Dat} (E : LE prog w T F) (N : Like F G) : LE prog w T ((G.addPin pp).set x d) :=
  ⟨N.prog.trans E.prog, N.w.trans E.w, N.T.trans E.T, N.n.trans E.n, fun y => by show G.env.kindOf y = _; rw [N.env]; exact E.kind y, by show interactive G.env = false; rw [N.env]; exact E.hint, N.wc.trans E.wc, N.wm.trans E.wm⟩

noncomputable def forF : Stmt := nth (forBody (nth (bodyOf 68) 8)) 0
noncomputable def pairBody : List Stmt := forBody forF

noncomputable def toldK : List Dat → Dat := fun ds => match ds with | [.int a, .int b] => .bool (decide (256 + b - a ≥ 256)) | _ => .none

theorem get3 {α : Type} (f : Nat → α) {h : Nat} (hh : h < 3) : [f 0, f 1, f 2][((h : Nat) : Int).toNat]? = some (f h) := by
  rw [Int.toNat_natCast]
  match h, hh with
  | 0, _ => rfl
  | 1, _ => rfl
  | 2, _ => rfl
theorem eqv3 (a b c : Bool) : PyData.eqv (kqdP (.list [.bool a, .bool b, .bool c])) (kqdP (.list [.bool true, .bool true, .bool true])) = (a && b && c) := by
  cases a <;> cases b <;> cases c <;> rfl

section
variable {prog : Program} {w : World} {T : TopT} {F : Fm} {s : Shared}

set_option maxHeartbeats 1000000 in
theorem law_pair (I : LI prog w T) (E : LE prog w T F) (o : F.Ok s) {n e f : Nat} {v : VS} (hn : n ≤ 10) (Iv : Inv n v) (he : e < n) (hf : f < n) {aH aP aC : Addr}
    (rE : F.ρ (Str.ofString "e") = some (.int (e : Nat))) (rF : F.ρ (Str.ofString "f") = some (.int (f : Nat)))
    (mH : F.mt (Str.ofString "homes") = some (aH, v.homes.map natI)) (mP : F.mt (Str.ofString "pasts") = some (aP, v.pasts.map intsD)) (mC : F.mt (Str.ofString "clocks") = some (aC, v.clocks.map intsD)) {Q : Flow → Shared → Prop}
    (k : ∀ G s', Nx F G → G.Ok s' → (∀ y, y ≠ Str.ofString "told" → G.ρ y = F.ρ y ∧ G.mt y = F.mt y) → Q .next s') : Go F pairBody Q (fun _ _ => False) s := by
  have hsz := sizeLine_eq
  have K : ∀ {G}, LE prog w T G → ∀ y k, (scopeOf 68).names.lookup y = some k → G.env.kindOf y = some k := fun EG y k h => (EG.kind y).trans h
  have kHomes : (scopeOf 68).names.lookup (Str.ofString "homes") = some .cell := by decide +kernel
  have kPasts : (scopeOf 68).names.lookup (Str.ofString "pasts") = some .local := by decide +kernel
  have kClocks : (scopeOf 68).names.lookup (Str.ofString "clocks") = some .local := by decide +kernel
  have kE : (scopeOf 68).names.lookup (Str.ofString "e") = some .local := by decide +kernel
  have kF : (scopeOf 68).names.lookup (Str.ofString "f") = some .local := by decide +kernel
  have kTold : (scopeOf 68).names.lookup (Str.ofString "told") = some .local := by decide +kernel
  have kZip : (scopeOf 68).names.lookup (Str.ofString "zip") = some .globalImplicit := by decide +kernel
  obtain ⟨tNT, gNT⟩ := I.gNT
  have getC : ∀ {i : Nat}, i < n → (v.clocks.map intsD)[((i : Nat) : Int).toNat]? = some (intsD [cnt v.homes (v.pasts.getD i []) 0, cnt v.homes (v.pasts.getD i []) 1, cnt v.homes (v.pasts.getD i []) 2]) := fun {i} hi => by
    have hl := Iv.lc
    rw [Int.toNat_natCast, List.getElem?_map, List.getElem?_eq_getElem (by omega), Option.map_some, ← Iv.ck i hi, List.getD_eq_getElem?_getD, List.getElem?_eq_getElem (by omega), Option.getD_some]
  have getP : (v.pasts.map intsD)[((f : Nat) : Int).toNat]? = some (intsD (v.pasts.getD f [])) := by
    have hl := Iv.lp
    rw [Int.toNat_natCast, List.getElem?_map, List.getElem?_eq_getElem (by omega), Option.map_some, List.getD_eq_getElem?_getD, List.getElem?_eq_getElem (by omega), Option.getD_some]
  have getH : (v.homes.map natI)[((e : Nat) : Int).toNat]? = some (.int ((v.homes.getD e 3 : Nat) : Int)) := by
    have hl := Iv.lh
    rw [Int.toNat_natCast, List.getElem?_map, List.getElem?_eq_getElem (by omega), Option.map_some, List.getD_eq_getElem?_getD, List.getElem?_eq_getElem (by omega), Option.getD_some]; rfl
  have hh3 := Iv.h3 e he
  have hiff := clock_iff Iv he hf
  have C1 := getC he
  have C2 := getC hf
  generalize hhe : v.homes.getD e 3 = h at *
  have evE : ∀ {G : Fm} {q}, LE prog w T G → G.ρ (Str.ofString "e") = some (.int (e : Nat)) → Ev G (.Name (Str.ofString "e") q) (.int (e : Nat)) := fun EG r => Ev.name_local r (K EG _ _ kE) (by decide +kernel)
  have evF : ∀ {G : Fm} {q}, LE prog w T G → G.ρ (Str.ofString "f") = some (.int (f : Nat)) → Ev G (.Name (Str.ofString "f") q) (.int (f : Nat)) := fun EG r => Ev.name_local r (K EG _ _ kF) (by decide +kernel)
  have evCe : ∀ {p p1 p2}, Ev F (.Subscript (.Name (Str.ofString "clocks") p1) (.Name (Str.ofString "e") p2) p) (intsD [cnt v.homes (v.pasts.getD e []) 0, cnt v.homes (v.pasts.getD e []) 1, cnt v.homes (v.pasts.getD e []) 2]) := by
    intros
    exact Ev.itemM mC (.inl (K E _ _ kClocks)) (by decide +kernel) (by decide +kernel) (evE E rE) (by omega) (by omega) C1
  have evCf : ∀ {p p1 p2}, Ev F (.Subscript (.Name (Str.ofString "clocks") p1) (.Name (Str.ofString "f") p2) p) (intsD [cnt v.homes (v.pasts.getD f []) 0, cnt v.homes (v.pasts.getD f []) 1, cnt v.homes (v.pasts.getD f []) 2]) := by
    intros
    exact Ev.itemM mC (.inl (K E _ _ kClocks)) (by decide +kernel) (by decide +kernel) (evF E rF) (by omega) (by omega) C2
  generalize hca : cnt v.homes (v.pasts.getD e []) = ca at *
  generalize hcb : cnt v.homes (v.pasts.getD f []) = cb at *
  refine xsetc (names := [Str.ofString "less", Str.ofString "more"]) (keep := fun _ => true) (fn := toldK) o (swaps_local o.wf.fn (K E _ _ kTold) rfl (by decide +kernel)) (.inl (K E _ _ kTold))
    (Src.zip (d1 := [.int ((ca 0 : Nat) : Int), .int ((ca 1 : Nat) : Int), .int ((ca 2 : Nat) : Int)]) (d2 := [.int ((cb 0 : Nat) : Int), .int ((cb 1 : Nat) : Int), .int ((cb 2 : Nat) : Int)]) (by rw [E.T]; exact I.gZip) (K E _ _ kZip) (by decide +kernel) evCe evCf rfl rfl rfl rfl)
    (ScOk.mk2 rfl (by decide +kernel) (fun x hx => by have hx' : x ∈ ([] : List Str) := hx; cases hx') (fun x hx => ?_) (by decide +kernel)) (by decide +kernel) (by simp [sizeLine]) (fun _ => rfl) ?_ fun G1 s1 N1 o1 r1T r1 q1 => ?_
  · simp only [List.mem_cons, List.not_mem_nil, or_false] at hx
    rcases hx with rfl | rfl
    · exact .inl (by decide +kernel)
    · exact .inl (by decide +kernel)
  · intro ds hds H fr
    obtain ⟨a, b, rfl⟩ : ∃ a b : Int, ds = [.int a, .int b] := by
      simp only [List.zip_cons_cons, List.zip_nil_right, List.map_cons, List.map_nil, List.mem_cons, List.not_mem_nil, or_false] at hds
      rcases hds with h | h | h
      · exact ⟨_, _, h⟩
      · exact ⟨_, _, h⟩
      · exact ⟨_, _, h⟩
    refine ⟨.inl ⟨rfl, rfl⟩, fun _ => ?_⟩
    have kA : H.env.kindOf (Str.ofString "less") = some .local := fr.kind _ _ (by decide +kernel) (by decide)
    have kB : H.env.kindOf (Str.ofString "more") = some .local := fr.kind _ _ (by decide +kernel) (by decide)
    have kI : H.env.kindOf (Str.ofString "ISNONTERMINAL") = some .globalImplicit := fr.kind _ _ (by decide +kernel) (by decide)
    have rA : H.ρ (Str.ofString "less") = some (.int a) := fr.tgt 0 _ _ rfl rfl
    have rB : H.ρ (Str.ofString "more") = some (.int b) := fr.tgt 1 _ _ rfl rfl
    have cI := (cn_isnt (prog := prog) (w := w) I.K63 gNT (256 + b - a)).more (m := 3) (by omega)
    show Ev H _ (.bool (decide (256 + b - a ≥ 256)))
    exact Ev.callG (by rw [fr.prog, fr.w, fr.T, fr.n, E.prog, E.w, E.T, E.n]; exact cI) kI (by decide +kernel) (EvL.cons (Ev.sub (Ev.add Ev.int (Ev.name_local rB kB (by decide +kernel))) (Ev.name_local rA kA (by decide +kernel))) EvL.nil) rfl
  have E1 := E.nx N1
  have eT : Dat.list (((([Dat.int ((ca 0 : Nat) : Int), .int ((ca 1 : Nat) : Int), .int ((ca 2 : Nat) : Int)].zip [Dat.int ((cb 0 : Nat) : Int), .int ((cb 1 : Nat) : Int), .int ((cb 2 : Nat) : Int)]).map fun p => [p.1, p.2]).filter fun _ => true).map toldK) = .list [.bool (decide (ca 0 ≤ cb 0)), .bool (decide (ca 1 ≤ cb 1)), .bool (decide (ca 2 ≤ cb 2))] := by
    have one : ∀ a b : Nat, decide ((256 : Int) + (b : Nat) - (a : Nat) ≥ 256) = decide (a ≤ b) := fun a b => decide_eq_decide.mpr (by omega)
    show Dat.list [.bool (decide ((256 : Int) + (cb 0 : Nat) - (ca 0 : Nat) ≥ 256)), .bool (decide ((256 : Int) + (cb 1 : Nat) - (ca 1 : Nat) ≥ 256)), .bool (decide ((256 : Int) + (cb 2 : Nat) - (ca 2 : Nat) ≥ 256))] = _
    rw [one, one, one]
  rw [eT] at r1T
  have rE1 := (r1 (Str.ofString "e") (by decide +kernel)).trans rE
  have rF1 := (r1 (Str.ofString "f") (by decide +kernel)).trans rF
  have mH1 := (q1 (Str.ofString "homes") (by decide +kernel)).trans mH
  have mP1 := (q1 (Str.ofString "pasts") (by decide +kernel)).trans mP
  have evTold : ∀ {q}, Ev G1 (.Name (Str.ofString "told") q) (.list [.bool (decide (ca 0 ≤ cb 0)), .bool (decide (ca 1 ≤ cb 1)), .bool (decide (ca 2 ≤ cb 2))]) := Ev.name_local r1T (K E1 _ _ kTold) (by decide +kernel)
  have evIn : ∀ {p p1 p2 p3 p4}, Ev G1 (.Compare (.Name (Str.ofString "e") p1) [.In] [.Subscript (.Name (Str.ofString "pasts") p2) (.Name (Str.ofString "f") p3) p4] p) (.bool (decide (e ∈ v.pasts.getD f []))) := by
    intros
    rw [← any_mem]
    exact Ev.cmp (evE E1 rE1) (Ev.itemM (d := .list (((v.pasts.getD f []).map fun (n : Nat) => (n : Int)).map Dat.int)) mP1 (.inl (K E1 _ _ kPasts)) (by decide +kernel) (by decide +kernel) (evF E1 rF1) (by omega) (by omega) getP) CmpR.inInts (by with_unfolding_all rfl)
  have getB : ([.bool (decide (ca 0 ≤ cb 0)), .bool (decide (ca 1 ≤ cb 1)), .bool (decide (ca 2 ≤ cb 2))] : List Dat)[((h : Nat) : Int).toNat]? = some (.bool (decide (e ∈ v.pasts.getD f []))) := by
    rw [decide_eq_decide.mpr hiff.1.symm]
    exact get3 (fun k => Dat.bool (decide (ca k ≤ cb k))) hh3
  have all3 : (decide (ca 0 ≤ cb 0) && decide (ca 1 ≤ cb 1) && decide (ca 2 ≤ cb 2)) = decide (e ∈ v.pasts.getD f []) := by
    rw [decide_eq_decide.mpr hiff.2.symm, Bool.eq_iff_iff, Bool.and_eq_true, Bool.and_eq_true, decide_eq_true_iff, decide_eq_true_iff, decide_eq_true_iff, decide_eq_true_iff]
    constructor
    · rintro ⟨⟨h0, h1⟩, h2⟩ k hk
      match k, hk with
      | 0, _ => exact h0
      | 1, _ => exact h1
      | 2, _ => exact h2
    · intro h
      exact ⟨⟨h 0 (by decide), h 1 (by decide)⟩, h 2 (by decide)⟩
  have evH : ∀ {p p1 p2}, Ev G1 (.Subscript (.Name (Str.ofString "homes") p1) (.Name (Str.ofString "e") p2) p) (.int (h : Nat)) := by
    intros
    exact Ev.itemM mH1 (.inr (.inl (K E1 _ _ kHomes))) (by decide +kernel) (by decide +kernel) (evE E1 rE1) (by omega) (by omega) getH
  have evA : ∀ {p p1 p2 p3 p4}, Ev G1 (.Subscript (.Name (Str.ofString "told") p1) (.Subscript (.Name (Str.ofString "homes") p2) (.Name (Str.ofString "e") p3) p4) p) (.bool (decide (e ∈ v.pasts.getD f []))) := by
    intros
    exact Ev.itemL evTold evH (by omega) (by omega) getB
  have evEq : ∀ {p p1 p2 p3 p4 p5 k1 k2 k3}, Ev G1 (.Compare (.Name (Str.ofString "told") p1) [.Eq] [.List [.Constant (.bool true) k1 p2, .Constant (.bool true) k2 p3, .Constant (.bool true) k3 p4] p5] p) (.bool (decide (e ∈ v.pasts.getD f []))) := by
    intros
    rw [← all3, ← eqv3]
    exact Ev.cmp evTold (Ev.list (EvL.cons Ev.bool (EvL.cons Ev.bool (EvL.cons Ev.bool EvL.nil)))) (CmpR.eq rfl rfl) (by with_unfolding_all rfl)
  generalize decide (e ∈ v.pasts.getD f []) = m at *
  refine xif (b := ((m != m) || (m != m))) o1 (Tst.or (Tst.cmp evA evIn CmpR.isNotBool (by with_unfolding_all rfl)) fun _ => Tst.cmp evEq evIn CmpR.isNotBool (by with_unfolding_all rfl)) fun s2 o2 => ?_
  rw [show ((m != m) || (m != m)) = false from by cases m <;> rfl, if_neg (by decide)]
  refine wpAny_execs_nil ?_
  refine wpAny_execs_nil ?_
  exact k G1 s2 N1 o2 fun y hy => ⟨r1 y hy, q1 y hy⟩
end
end Mine

end

section
open PySem PySem.W PyProof.Rows
set_option maxRecDepth 100000
set_option Elab.async false
set_option linter.unusedVariables false
namespace Mine

theorem turn_self {G : Fm} {pp : Addr × Obj} {x : Str} {d : Dat} : ((G.addPin pp).set x d).ρ x = some d := upd_self
theorem turn_r {G : Fm} {pp : Addr × Obj} {x y : Str} {d : Dat} (h : y ≠ x) : ((G.addPin pp).set x d).ρ y = G.ρ y := upd_other h
theorem turn_m {G : Fm} {pp : Addr × Obj} {x y : Str} {d : Dat} (h : y ≠ x) : ((G.addPin pp).set x d).mt y = G.mt y := upd_other h
structure ChF (F G : Fm) : Prop where
  nx : Nx F G
  e : G.ρ (Str.ofString "e") = F.ρ (Str.ofString "e")
  mh : G.mt (Str.ofString "homes") = F.mt (Str.ofString "homes")
  mp : G.mt (Str.ofString "pasts") = F.mt (Str.ofString "pasts")
  mc : G.mt (Str.ofString "clocks") = F.mt (Str.ofString "clocks")
structure ChO (F G : Fm) : Prop where
  nx : Nx F G
  mh : G.mt (Str.ofString "homes") = F.mt (Str.ofString "homes")
  mp : G.mt (Str.ofString "pasts") = F.mt (Str.ofString "pasts")
  mc : G.mt (Str.ofString "clocks") = F.mt (Str.ofString "clocks")

section
variable {prog : Program} {w : World} {T : TopT} {F : Fm} {s : Shared}

theorem len_homes (I : LI prog w T) (E : LE prog w T F) {n : Nat} {v : VS} (hn : n ≤ 10) (hl : v.homes.length = n) {aH : Addr} (mH : F.mt (Str.ofString "homes") = some (aH, v.homes.map natI)) {np p q : Pos} : Ev F (.Call (.Name (Str.ofString "len") np) [.Name (Str.ofString "homes") q] [] p) (.int n) := by
  have hsz := sizeLine_eq
  have h := Ev.lenM (F := F) (x := Str.ofString "len") (y := Str.ofString "homes") (np := np) (p := p) (q := q) (by rw [E.T]; exact I.sent.gLen) ((E.kind _).trans (by decide +kernel)) (by decide +kernel) mH (.inr (.inl ((E.kind _).trans (by decide +kernel)))) (by decide +kernel) (by decide +kernel) (by rw [List.length_map]; omega)
  rw [List.length_map, hl] at h
  exact h

theorem law_inner (I : LI prog w T) (E : LE prog w T F) (o : F.Ok s) {n e : Nat} {v : VS} (hn : n ≤ 10) (Iv : Inv n v) (he : e < n) {aH aP aC : Addr}
    (rE : F.ρ (Str.ofString "e") = some (.int (e : Nat)))
    (mH : F.mt (Str.ofString "homes") = some (aH, v.homes.map natI)) (mP : F.mt (Str.ofString "pasts") = some (aP, v.pasts.map intsD)) (mC : F.mt (Str.ofString "clocks") = some (aC, v.clocks.map intsD)) {Q : Flow → Shared → Prop}
    (k : ∀ G s', ChF F G → G.Ok s' → Q .next s') : Go F [forF] Q (fun _ _ => False) s := by
  refine ex_for_range (n := n) (fun _ G => ChF F G) (fun _ G h => h.nx.like) o (by rw [E.T]; exact I.sent.gRange) ((E.kind _).trans (by decide +kernel)) (by decide +kernel) (len_homes I E hn Iv.lh mH) (by omega) rfl (.inl ((E.kind _).trans (by decide +kernel))) ⟨Nx.refl F, rfl, rfl, rfl, rfl⟩ (fun _ => rfl) ?_ ?_
  · intro i G pp hi hG hb s1 o1
    have L := hG.nx.like
    refine Go.eqs (G := (G.addPin pp).set (Str.ofString "f") (.int i)) L.prog L.w L.A L.env (law_pair I (turn_E E L) o1 hn Iv he hi ((turn_r (by decide +kernel)).trans (hG.e.trans rE)) turn_self ((turn_m (by decide +kernel)).trans (hG.mh.trans mH)) ((turn_m (by decide +kernel)).trans (hG.mp.trans mP)) ((turn_m (by decide +kernel)).trans (hG.mc.trans mC)) fun G' s' N' o' old => ?_)
    · have B := nx_back L hG.nx.X rfl N'
      refine ⟨_, ⟨B.1, ?_, ?_, ?_, ?_⟩, by rw [B.2]; exact o'⟩
      · exact (old _ (by decide +kernel)).1.trans ((turn_r (by decide +kernel)).trans hG.e)
      · exact (old _ (by decide +kernel)).2.trans ((turn_m (by decide +kernel)).trans hG.mh)
      · exact (old _ (by decide +kernel)).2.trans ((turn_m (by decide +kernel)).trans hG.mp)
      · exact (old _ (by decide +kernel)).2.trans ((turn_m (by decide +kernel)).trans hG.mc)
  · intro G s1 hG o1
    exact wpAny_execs_nil (k G s1 hG o1)

theorem law_check (I : LI prog w T) (E : LE prog w T F) (o : F.Ok s) {n : Nat} {v : VS} (hn : n ≤ 10) (Iv : Inv n v) {aH aP aC : Addr}
    (mH : F.mt (Str.ofString "homes") = some (aH, v.homes.map natI)) (mP : F.mt (Str.ofString "pasts") = some (aP, v.pasts.map intsD)) (mC : F.mt (Str.ofString "clocks") = some (aC, v.clocks.map intsD)) {Q : Flow → Shared → Prop}
    (k : ∀ G v' s', Nx F G → G.Ok s' → Rp G.X s'.heap v' (.bool true) → Q (.ret v') s') : Go F ((bodyOf 68).drop 8) Q (fun _ _ => False) s := by
  refine ex_for_range (n := n) (fun _ G => ChO F G) (fun _ G h => h.nx.like) o (by rw [E.T]; exact I.sent.gRange) ((E.kind _).trans (by decide +kernel)) (by decide +kernel) (len_homes I E hn Iv.lh mH) (by omega) rfl (.inl ((E.kind _).trans (by decide +kernel))) ⟨Nx.refl F, rfl, rfl, rfl⟩ (fun _ => rfl) ?_ ?_
  · intro i G pp hi hG hb s1 o1
    have L := hG.nx.like
    refine Go.eqs (G := (G.addPin pp).set (Str.ofString "e") (.int i)) L.prog L.w L.A L.env (law_inner I (turn_E E L) o1 hn Iv hi turn_self ((turn_m (by decide +kernel)).trans (hG.mh.trans mH)) ((turn_m (by decide +kernel)).trans (hG.mp.trans mP)) ((turn_m (by decide +kernel)).trans (hG.mc.trans mC)) fun G' s' C o' => ?_)
    · have B := nx_back L hG.nx.X rfl C.nx
      refine ⟨_, ⟨B.1, ?_, ?_, ?_⟩, by rw [B.2]; exact o'⟩
      · exact C.mh.trans ((turn_m (by decide +kernel)).trans hG.mh)
      · exact C.mp.trans ((turn_m (by decide +kernel)).trans hG.mp)
      · exact C.mc.trans ((turn_m (by decide +kernel)).trans hG.mc)
  · intro G s1 hG o1
    have L := hG.nx.like
    refine Go.eqs (G := G) L.prog L.w L.A L.env (xret o1 Ev.bool fun v s' kk o' r => k G v s' hG.nx o' r)

theorem law_turns (I : LI prog w T) (E : LE prog w T F) (o : F.Ok s) {ns : List Int} {n : Nat} (hn : n ≤ 10) (hns : ns.length ≤ 100) {e : Expr} {aH aP aC : Addr}
    {px np p q : Pos} {body : List Stmt} (hbody : body = forBody (nth (bodyOf 68) 7))
    (he : Ev F e (.int n)) (hst : notStar e = true) (L0 : LawFam F ns aH aP aC start F) {Q : Flow → Shared → Prop}
    (k : ∀ G v' s', Nx F G → G.Ok s' → Rp G.X s'.heap v' (.bool true) → Q (.ret v') s') : Go F (.For (.Name (Str.ofString "t") px) (.Call (.Name (Str.ofString "range") np) [e] [] q) body [] p :: (bodyOf 68).drop 8) Q (fun _ _ => False) s := by
  refine ex_for_range (n := n) (fun i G => LawFam F ns aH aP aC (run ns i) G) (fun _ G h => h.nx.like) o (by rw [E.T]; exact I.sent.gRange) ((E.kind _).trans (by decide +kernel)) (by decide +kernel) he (by omega) hst (.inl ((E.kind _).trans (by decide +kernel))) L0 (fun _ => rfl) ?_ ?_
  · intro i G pp hi hG hb s1 o1
    have L := hG.nx.like
    refine Go.eqs (G := (G.addPin pp).set (Str.ofString "t") (.int i)) L.prog L.w L.A L.env (law_turn I (turn_E E L) o1 (Nat.lt_of_lt_of_le hi hn) hns ((turn_r (by decide +kernel)).trans hG.drawn) ((turn_r (by decide +kernel)).trans hG.states) ((turn_r (by decide +kernel)).trans hG.lasts) ((turn_r (by decide +kernel)).trans hG.waiting) turn_self ((turn_m (by decide +kernel)).trans hG.homes) ((turn_m (by decide +kernel)).trans hG.pasts) ((turn_m (by decide +kernel)).trans hG.clocks) (fun G' s' N' o' W => ?_) hbody)
    have B := nx_back L hG.nx.X rfl N'
    exact ⟨_, ⟨B.1, W.drawn, W.states, W.lasts, W.waiting, W.homes, W.pasts, W.clocks⟩, by rw [B.2]; exact o'⟩
  · intro G s1 hG o1
    have L := hG.nx.like
    refine Go.eqs (G := G) L.prog L.w L.A L.env (law_check I (E.nx hG.nx) o1 hn (run_inv ns n) hG.homes hG.pasts hG.clocks fun G' v' s' N' o' r => k G' v' s' (hG.nx.trans N') o' r)
end
end Mine

end

section
open PySem PySem.W PyProof.Rows
set_option maxRecDepth 100000
set_option Elab.async false
set_option linter.unusedVariables false
namespace Mine

section
variable {prog : Program} {w : World} {T : TopT} {F : Fm} {s : Shared} {rest : List Stmt} {Q : Flow → Shared → Prop} {E : Value → Shared → Prop}

theorem Nx.LE {F G : Fm} (E : LE prog w T F) (N : Nx F G) : LE prog w T G := E.nx N

/-- a new list under a name that may be turned -/
theorem xnilE {x : Str} {px p q : Pos} (EE : LE prog w T F) (o : F.Ok s) (hx : Stor F x)
    (k : ∀ G s' a, LE prog w T G → G.A = F.A → G.env = F.env → G.base = F.base → G.pin = F.pin → G.Ok s' → (∀ y, y ≠ x → G.ρ y = F.ρ y) → G.mt x = some (a, []) → (∀ y, y ≠ x → G.mt y = F.mt y) → Go G rest Q E s') : Go F (.Assign [.Name x px] (.List [] q) p :: rest) Q E s := by
  refine xnil2 o hx fun s' a h1 h2 o' => ?_
  exact k _ s' a ⟨EE.prog, EE.w, EE.T, EE.n, EE.kind, EE.hint, EE.wc, EE.wm⟩ rfl rfl rfl rfl o' (fun y hy => upd_other hy) upd_self (fun y hy => upd_other hy)
end

section
variable {prog : Program} {w : World} {T : TopT}

theorem start_states : statesD start.d = .list [.list [.str (Str.ofString "."), .str (Str.ofString "."), .str (Str.ofString ".")], .list [.str (Str.ofString "."), .str (Str.ofString "."), .str (Str.ofString ".")], .list [.str (Str.ofString "."), .str (Str.ofString "."), .str (Str.ofString ".")]] := by
  have e : Str.ofString "." = dotS 1 := by decide +kernel
  rw [e]; rfl

theorem Ev.list3 {F : Fm} {e1 e2 e3 : Expr} {p : Pos} {d1 d2 d3 : Dat} (h1 : Ev F e1 d1) (h2 : Ev F e2 d2) (h3 : Ev F e3 d3) (n1 : notStar e1 = true) (n2 : notStar e2 = true) (n3 : notStar e3 = true) : Ev F (.List [e1, e2, e3] p) (.list [d1, d2, d3]) :=
  Ev.list (EvL.cons h1 (EvL.cons h2 (EvL.cons h3 EvL.nil n3) n2) n1) (by rw [sizeLine_eq]; exact Nat.le_of_ble_eq_true rfl)
theorem EvS.list3 {F : Fm} {e1 e2 e3 : Expr} {p : Pos} {d1 d2 d3 : Dat} (h1 : EvS F e1 d1) (h2 : EvS F e2 d2) (h3 : EvS F e3 d3) (n1 : notStar e1 = true) (n2 : notStar e2 = true) (n3 : notStar e3 = true) : EvS F (.List [e1, e2, e3] p) (.list [d1, d2, d3]) :=
  ⟨Ev.list3 h1.ev h2.ev h3.ev n1 n2 n3⟩
theorem EvS.str {F : Fm} {x : Str} {k : Nat} {p : Pos} : EvS F (.Constant (.str x) k p) (.str x) := ⟨Ev.str⟩
theorem EvS.nil {F : Fm} {p : Pos} : EvS F (.List [] p) (.list []) := ⟨Ev.list EvL.nil⟩

theorem cn_law (I : LI prog w T) (K68 : FnAt T 68 [Str.ofString "script"] (Str.ofString "law")) (ns : List Int) (hlen : ns.length ≤ sizeLine) :
    CnG prog w T 4 (Str.ofString "law") [.list (ns.map Dat.int)] (.bool true) :=
  CnG.intro K68 [Str.ofString "lasts", Str.ofString "homes", Str.ofString "came", Str.ofString "own", Str.ofString "past"] [Str.ofString "homes", Str.ofString "pasts", Str.ofString "clocks"] rfl rfl rfl fun F R s o => by
    obtain ⟨e1, e2, e3, en, kind, scope, ρ, mt, wc, wm, pin, gpin⟩ := R
    have hint : interactive F.env = false := by unfold interactive; rw [scope]; rfl
    have E : LE prog w T F := ⟨e1, e2, e3, en, kind, hint, wc, wm⟩
    have K : ∀ {G}, LE prog w T G → ∀ y k, (scopeOf 68).names.lookup y = some k → G.env.kindOf y = some k := fun EG y k h => (EG.kind y).trans h
    have kScr : (scopeOf 68).names.lookup (Str.ofString "script") = some .local := by decide +kernel
    have kDrawn : (scopeOf 68).names.lookup (Str.ofString "drawn") = some .local := by decide +kernel
    have kStates : (scopeOf 68).names.lookup (Str.ofString "states") = some .local := by decide +kernel
    have kWait : (scopeOf 68).names.lookup (Str.ofString "waiting") = some .local := by decide +kernel
    have kLasts : (scopeOf 68).names.lookup (Str.ofString "lasts") = some .cell := by decide +kernel
    have kHomes : (scopeOf 68).names.lookup (Str.ofString "homes") = some .cell := by decide +kernel
    have kPasts : (scopeOf 68).names.lookup (Str.ofString "pasts") = some .local := by decide +kernel
    have kClocks : (scopeOf 68).names.lookup (Str.ofString "clocks") = some .local := by decide +kernel
    have kLen : (scopeOf 68).names.lookup (Str.ofString "len") = some .globalImplicit := by decide +kernel
    have rScr : F.ρ (Str.ofString "script") = some (.list (ns.map Dat.int)) := (ρ _).trans rfl
    show Go F (bodyOf 68) _ _ s
    refine xset o (d := .list ((ns.map Dat.int).take 63)) (Ev.sliceL_upto (Ev.name_local rScr (K E _ _ kScr) (by decide +kernel)) (Ev.nat rfl) (by rw [List.length_map]; exact hlen)) (.inl (K E _ _ kDrawn)) (by with_unfolding_all rfl) fun G1 s1 N1 o1 r1D r1 q1 => ?_
    have E1 := E.nx N1
    rw [← List.map_take] at r1D
    have key : ∃ value px p, EvS G1 value (statesD start.d) ∧ swapsWith value (some (.Name (Str.ofString "states") px)) p.line G1.env = pure false ∧ (bodyOf 68).drop 1 = .Assign [.Name (Str.ofString "states") px] value p :: (bodyOf 68).drop 2 := by
      refine ⟨_, _, _, ?_, ?_, rfl⟩
      · rw [start_states]
        exact EvS.list3 (EvS.list3 EvS.str EvS.str EvS.str rfl rfl rfl) (EvS.list3 EvS.str EvS.str EvS.str rfl rfl rfl) (EvS.list3 EvS.str EvS.str EvS.str rfl rfl rfl) rfl rfl rfl
      · with_unfolding_all rfl
    obtain ⟨value, px, p, hv, hsw, hst⟩ := key
    show Go G1 ((bodyOf 68).drop 1) _ _ s1
    rw [hst]
    refine xset o1 hv.ev (.inl (K E1 _ _ kStates)) hsw fun G2 s2 N2 o2 r2S r2 q2 => ?_
    have E2 := E1.nx N2
    have key3 : ∃ value px p, EvS G2 value (lastsD start.lasts) ∧ swapsWith value (some (.Name (Str.ofString "lasts") px)) p.line G2.env = pure false ∧ (bodyOf 68).drop 2 = .Assign [.Name (Str.ofString "lasts") px] value p :: (bodyOf 68).drop 3 := by
      refine ⟨_, _, _, ?_, ?_, rfl⟩
      · exact EvS.list3 EvS.nil EvS.nil EvS.nil rfl rfl rfl
      · with_unfolding_all rfl
    obtain ⟨value3, px3, p3, hv3, hsw3, hst3⟩ := key3
    rw [hst3]
    refine xset o2 hv3.ev (.inr ⟨K E2 _ _ kLasts, by rw [E2.wc]; simp⟩) hsw3 fun G3 s3 N3 o3 r3L r3 q3 => ?_
    have E3 := E2.nx N3
    refine xset o3 (d := waitD start.wait) (Ev.list EvL.nil) (.inl (K E3 _ _ kWait)) (by with_unfolding_all rfl) fun G4 s4 N4 o4 r4W r4 q4 => ?_
    have E4 := E3.nx N4
    refine xnilE E4 o4 (.inr ⟨K E4 _ _ kHomes, by rw [E4.wc]; simp⟩) fun G5 s5 aH E5 A5 v5 b5 p5 o5 r5 m5H m5 => ?_
    refine xnilE E5 o5 (.inl (K E5 _ _ kPasts)) fun G6 s6 aP E6 A6 v6 b6 p6 o6 r6 m6P m6 => ?_
    refine xnilE E6 o6 (.inl (K E6 _ _ kClocks)) fun G7 s7 aC E7 A7 v7 b7 p7 o7 r7 m7C m7 => ?_
    have rD : G7.ρ (Str.ofString "drawn") = some (.list ((ns.take 63).map Dat.int)) := (r7 _ (by decide +kernel)).trans ((r6 _ (by decide +kernel)).trans ((r5 _ (by decide +kernel)).trans ((r4 _ (by decide +kernel)).trans ((r3 _ (by decide +kernel)).trans ((r2 _ (by decide +kernel)).trans r1D)))))
    have rS : G7.ρ (Str.ofString "states") = some (statesD start.d) := (r7 _ (by decide +kernel)).trans ((r6 _ (by decide +kernel)).trans ((r5 _ (by decide +kernel)).trans ((r4 _ (by decide +kernel)).trans ((r3 _ (by decide +kernel)).trans r2S))))
    have rL : G7.ρ (Str.ofString "lasts") = some (lastsD start.lasts) := (r7 _ (by decide +kernel)).trans ((r6 _ (by decide +kernel)).trans ((r5 _ (by decide +kernel)).trans ((r4 _ (by decide +kernel)).trans r3L)))
    have rW : G7.ρ (Str.ofString "waiting") = some (waitD start.wait) := (r7 _ (by decide +kernel)).trans ((r6 _ (by decide +kernel)).trans ((r5 _ (by decide +kernel)).trans r4W))
    have mH : G7.mt (Str.ofString "homes") = some (aH, []) := (m7 _ (by decide +kernel)).trans ((m6 _ (by decide +kernel)).trans m5H)
    have mP : G7.mt (Str.ofString "pasts") = some (aP, []) := (m7 _ (by decide +kernel)).trans m6P
    have hns : (ns.take 63).length ≤ 100 := by rw [List.length_take]; omega
    have evLen := Ev.lenL (F := G7) (x := Str.ofString "len") (e := .Name (Str.ofString "drawn") ⟨129, 29, 129, 34⟩) (np := ⟨129, 25, 129, 28⟩) (p := ⟨129, 25, 129, 35⟩) (by rw [E7.T]; exact I.sent.gLen) (K E7 _ _ kLen) (by decide +kernel) (Ev.name_local rD (K E7 _ _ kDrawn) (by decide +kernel)) (by rw [List.length_map]; exact Nat.le_trans hns (by rw [sizeLine_eq]; decide))
    rw [List.length_map] at evLen
    have key7 : ∃ px np p q e body, Ev G7 e (.int ((if (ns.take 63).length > 8 then 10 else 8 : Nat) : Int)) ∧ notStar e = true ∧ body = forBody (nth (bodyOf 68) 7) ∧ (bodyOf 68).drop 7 = .For (.Name (Str.ofString "t") px) (.Call (.Name (Str.ofString "range") np) [e] [] q) body [] p :: (bodyOf 68).drop 8 := by
      refine ⟨_, _, _, _, _, _, ?_, ?_, rfl, rfl⟩
      · refine Ev.ifExp (Tst.cmp evLen Ev.int CmpR.gt (by with_unfolding_all rfl)) (fun h => ?_) (fun h => ?_)
        · rw [if_pos (by have := of_decide_eq_true h; omega)]; exact Ev.int
        · rw [if_neg (by have := of_decide_eq_false h; omega)]; exact Ev.int
      · rfl
    obtain ⟨px7, np7, p7', q7', e7, body, hev, hst7, hbody, heq⟩ := key7
    show Go G7 ((bodyOf 68).drop 7) _ _ s7
    rw [heq]
    refine law_turns I E7 o7 (n := if (ns.take 63).length > 8 then 10 else 8) (by split <;> omega) hns hbody hev hst7 ⟨Nx.refl _, rD, rS, rL, rW, mH, mP, m7C⟩ fun G v' s' N o' r => ?_
    have hb : G.base = F.base := by
      rw [N.like.base, b7, b6, b5, N4.like.base, N3.like.base, N2.like.base, N1.like.base]
    refine ⟨v', rfl, by rw [← hb]; exact o'.kp, ?_⟩
    cases r
    exact .bool true
end
end Mine

end

section
open PySem PySem.W PyProof.Rows PySem.Builtin.Re
set_option maxRecDepth 100000
set_option Elab.async false
set_option linter.unusedVariables false
namespace Mine

/-! the world's first heap, told by a list of addresses and objects -/
theorem look_mem {K : Frag} {a : Addr} {o : Obj} : K.lookup a = some o → (a, o) ∈ K := by
  induction K with
  | nil => intro h; cases h
  | cons p r ih =>
    obtain ⟨b, x⟩ := p
    intro h
    rw [List.lookup_cons] at h
    split at h
    · rename_i e; cases h; rw [beq_iff_eq.mp e]; exact List.mem_cons_self
    · exact List.mem_cons_of_mem _ (ih h)
theorem mem_look {K : Frag} : (K.map (·.1)).Nodup → ∀ p ∈ K, K.lookup p.1 = some p.2 := by
  induction K with
  | nil => intro _ p hp; cases hp
  | cons q r ih =>
    intro nd p hp
    obtain ⟨b, x⟩ := q
    rw [List.map_cons, List.nodup_cons] at nd
    rw [List.lookup_cons]
    rcases List.mem_cons.mp hp with rfl | h
    · simp
    · have hne : (p.1 == b) = false := by
        rw [beq_eq_false_iff_ne]
        rintro e
        exact nd.1 (by show b ∈ _; rw [← e]; exact List.mem_map_of_mem h)
      rw [hne]; exact ih nd.2 p h

noncomputable def dictOf (K : Frag) (a : Addr) : Array DictEntry := match K.lookup a with
  | some o => (match o.data with | .dict es _ => es | _ => #[])
  | none => #[]
noncomputable def isDict (K : Frag) (a : Addr) : Bool := match K.lookup a with
  | some o => (match o.data with | .dict es _ => es.toList.all fun e => (match e.key with | .str _ _ => true | _ => false) | _ => false)
  | none => false
theorem ns_of {K : Frag} {h : Heap} (x : K.In h) {a : Addr} (e : isDict K a = true) : h.Ns a (fun y => nsFind (dictOf K a) y) := by
  unfold isDict at e
  unfold dictOf
  split at e
  · rename_i o ho
    split at e
    · rename_i es ep hd
      refine ⟨o, es, ep, x _ _ ho, hd, fun en hen => ?_, fun y => ?_⟩
      · have := List.all_eq_true.mp e en (Array.mem_toList_iff.mpr hen)
        split at this
        · exact ⟨_, _, by assumption⟩
        · cases this
      · rfl
    · cases e
  · cases e

noncomputable def GK (K : Frag) : Str → Option Value := fun x => match nsFind (dictOf K mainGlobals) x with
  | some v => some v
  | none => nsFind (dictOf K builtinsNs) x
noncomputable def topK (K : Frag) : TopT := ⟨GK K, K⟩
structure HeapOk (K : Frag) : Prop where
  nodup : (K.map (·.1)).Nodup
  d1 : isDict K mainGlobals = true
  d2 : isDict K builtinsNs = true
  d3 : isDict K cStatics = true
  lim : nsFind (dictOf K cStatics) "sys.recursionlimit" = none
theorem topK_in {K : Frag} {h : Heap} (H : HeapOk K) (x : K.In h) : (topK K).In h := by
  refine ⟨⟨_, _, ns_of x H.d1, ns_of x H.d2, fun y v e => ?_⟩, ⟨_, ns_of x H.d3, H.lim⟩, fun p hp => x _ _ (mem_look H.nodup p hp)⟩
  have e' : GK K y = some v := e
  unfold GK at e'
  split at e'
  · rename_i u hu; exact .inl (hu.trans e')
  · rename_i hu; exact .inr ⟨hu, e'⟩
theorem in_topK {K : Frag} {h : Heap} (x : (topK K).In h) : K.In h := fun a o e => x.objs (a, o) (look_mem e)

noncomputable def fnFd (K : Frag) (a : Addr) : Option FuncData := match K.lookup a with
  | some o => (match o.data with | .func fd => some fd | _ => none)
  | none => none
structure FnHas (K : Frag) (k : Nat) (names : List Str) (g : Str) (a : Addr) (fd : FuncData) : Prop where
  G : GK K g = some (.ref a)
  eq : fnFd K a = some fd
  body : fd.body = .stmts (bodyOf k)
  scope : fd.scope = scopeOf k
  code : codeIn K fd.code fd.qualname = true
  clo : fd.closure = []
  gl : fd.globals = mainGlobals
  bi : fd.builtins = builtinsNs
  binds : ∀ vals, vals.length = names.length → bindArgs fd ⟨vals, []⟩ = pure (names.zip vals)
structure ScHas (k : Nat) (names : List Str) : Prop where
  kinds : names.all (fun x => (scopeOf k).names.lookup x == some .local || (scopeOf k).names.lookup x == some .cell) = true
  nodup : names.Nodup
  nofree : ((scopeOf k).names.all fun p => !(p.2 == .free)) = true
  kind : (scopeOf k).kind = .function
theorem look_all {l : List (Str × NameKind)} (h : (l.all fun p => !(p.2 == .free)) = true) (x : Str) : l.lookup x ≠ some .free := by
  induction l with
  | nil => intro h; cases h
  | cons p r ih =>
    obtain ⟨b, k⟩ := p
    rw [List.all_cons, Bool.and_eq_true] at h
    rw [List.lookup_cons]
    split
    · intro e; cases e; exact absurd h.1 (by simp)
    · exact ih h.2
theorem fn_at {K : Frag} {k : Nat} {names : List Str} {g : Str} {a : Addr} {fd : FuncData} (H : FnHas K k names g a fd) (S : ScHas k names) : FnAt (topK K) k names g := by
  obtain ⟨G, hfd, body, scope, code, clo, gl, bi, binds⟩ := H
  refine ⟨a, fd, G, ⟨?_, body, fun h hh => codeRec_of (in_topK hh) code, binds, clo, fun x hx => ?_, S.nodup, fun x => ?_, by rw [scope]; exact S.kind, gl, bi⟩, scope⟩
  · unfold fnFd at hfd
    split at hfd
    · rename_i o ho
      split at hfd
      · rename_i fd' hd; cases hfd; exact ⟨o, look_mem ho, hd⟩
      · cases hfd
    · cases hfd
  · have := List.all_eq_true.mp S.kinds x hx
    rw [Bool.or_eq_true, beq_iff_eq, beq_iff_eq] at this
    rw [scope]; exact this
  · rw [scope]; exact look_all S.nofree x
theorem binds1 {fd : FuncData} {x : Str} (h : ∀ v, bindArgs fd ⟨[v], []⟩ = pure [(x, v)]) : ∀ vals, vals.length = [x].length → bindArgs fd ⟨vals, []⟩ = pure ([x].zip vals)
  | [v], _ => h v
  | [], h => nomatch h
  | _ :: _ :: _, h => by simp at h
theorem binds4 {fd : FuncData} {x y z u : Str} (h : ∀ a b c d, bindArgs fd ⟨[a, b, c, d], []⟩ = pure [(x, a), (y, b), (z, c), (u, d)]) : ∀ vals, vals.length = [x, y, z, u].length → bindArgs fd ⟨vals, []⟩ = pure ([x, y, z, u].zip vals)
  | [a, b, c, d], _ => h a b c d
  | [], h => nomatch h
  | [_], h => by simp at h
  | [_, _], h => by simp at h
  | [_, _, _], h => by simp at h
  | _ :: _ :: _ :: _ :: _ :: _, h => by simp at h

noncomputable def objData (K : Frag) (a : Addr) : Option Data := (K.lookup a).map (·.data)
structure PatHas (K : Frag) (P C : Addr) (k : Bool) (code : Array Nat) (o oc : Obj) (vs ws : Array Value) (n : Nat) : Prop where
  p : K.lookup P = some o
  c : K.lookup C = some oc
  cls : o.cls = .type "re.Pattern"
  dict : o.dict = none
  dat : o.data = .fields vs
  hk : reRawNat (vs.getD 6 .none) = kN k
  z : reRawNat (vs.getD 2 .none) = 0
  r : vs.getD 5 .none = .ref C
  cd : oc.data = .seq ws n
  cc : oc.cls = .type "tuple"
  hcode : (ws.map reRawOf).map Int.toNat = code
theorem pat_has {K : Frag} {P C : Addr} {k : Bool} {code : Array Nat} {o oc : Obj} {vs ws : Array Value} {n : Nat} (H : PatHas K P C k code o oc vs ws n) : ∀ h, (topK K).In h → PatOk h P C k code := fun h x =>
  ⟨⟨o, vs, in_topK x _ _ H.p, H.cls, H.dict, H.dat, H.hk, H.z, H.r⟩, ⟨oc, ws, n, in_topK x _ _ H.c, ⟨H.cd, H.cc⟩, H.hcode⟩⟩

theorem script_rp {P : Params} {h : Heap} {X : List Addr} : ∀ {ns : List Int} {vs : List Value}, WellAll P h vs (ofPys (ns.map PyData.int)) → RpAll X h vs (ns.map Dat.int)
  | [], _, r => by cases r; exact .nil
  | n :: ns, _, r => by
    cases r with
    | cons a b => cases a; exact .cons (.int _ _) (script_rp b)
end Mine

end

section
open PySem PySem.W PyProof.Rows PySem.Builtin.Re
set_option maxRecDepth 100000
set_option Elab.async false
set_option linter.unusedVariables false
namespace Mine

theorem caller_ok : AOk 4 callerA := ⟨rfl, by decide, by decide⟩
theorem law_good {prog : Program} {w : World} {K : Frag} {P : Params} {s : Shared} {ns : List Int} {sv : Value} (H : HeapOk K) (I : LI prog w (topK K)) {fd : FuncData} (F : FnHas K 68 [Str.ofString "script"] (Str.ofString "law") 110 fd) (x : K.In s.heap) (hlen : ns.length ≤ 2 ^ 20) (W : Well P s.heap sv (ofPy (.list (ns.map PyData.int))))
    {Q E : Value → Shared → Prop} (k : ∀ s', Kp s s' → Q (.bool true) s') : wpAny (model prog w) callerA (call (.ref 110) [sv]) Q E s := by
  have S : ScHas 68 [Str.ofString "script"] := ⟨by decide +kernel, by decide +kernel, by decide +kernel, by decide +kernel⟩
  obtain ⟨f, o, fd', h1, h2, h3, h4⟩ := cn_law I (fn_at F S) ns (by rw [sizeLine_eq]; omega)
  have e : GK K (Str.ofString "law") = some (.ref f) := h1
  rw [F.G] at e
  cases e
  have r : Rp [] s.heap sv (.list (ns.map Dat.int)) := by
    cases W with
    | list hg hw => exact .list hg (fun h => nomatch h) (script_rp hw)
  exact h4 callerA [] s _ caller_ok (topK_in H x) (fun a ha => nomatch ha) (.cons r .nil) Q E fun v s' kk rr => by cases rr; exact k s' kk

structure LawHas (prog : Program) (w : World) (K : Frag) (tab : List (Str × PyData)) (a5 a6 a11 a65 a9 a10 a63 a66 a67 pP pC qP qC tb : Addr) : Prop where
  f5 : ∃ fd, FnHas K 5 [Str.ofString "bindata"] (Str.ofString "_quote_periods") a5 fd
  f6 : ∃ fd, FnHas K 6 [Str.ofString "data"] (Str.ofString "_fix_eols") a6 fd
  f11 : ∃ fd, FnHas K 11 [Str.ofString "s"] (Str.ofString "decode_rfc2231") a11 fd
  f65 : ∃ fd, FnHas K 65 [Str.ofString "head", Str.ofString "rows", Str.ofString "own", Str.ofString "x"] (Str.ofString "_law_sent") a65 fd
  f9 : ∃ fd, FnHas K 9 [sAddr] (Str.ofString "_iter_escaped_chars") a9 fd
  f10 : ∃ fd, FnHas K 10 [sAddr] (Str.ofString "_strip_quoted_realnames") a10 fd
  f63 : ∃ fd, FnHas K 63 [Str.ofString "x"] (Str.ofString "ISNONTERMINAL") a63 fd
  f66 : ∃ fd, FnHas K 66 [Str.ofString "text"] (Str.ofString "_law_rows") a66 fd
  f67 : ∃ fd, FnHas K 67 [Str.ofString "row"] (Str.ofString "_law_numbers") a67 fd
  gC : ∃ t, GK K (Str.ofString "CRLF") = some (.str ⟨[13, 10].toArray⟩ t)
  gT : ∃ t, GK K (Str.ofString "TICK") = some (.str tick t)
  gNT : ∃ t, GK K (Str.ofString "NT_OFFSET") = some (.int 256 t)
  gLen : GK K (Str.ofString "len") = some (.builtin "len")
  gRange : GK K (Str.ofString "range") = some (.type "range")
  gEn : GK K (Str.ofString "enumerate") = some (.type "enumerate")
  gSum : GK K (Str.ofString "sum") = some (.builtin "sum")
  gMax : GK K (Str.ofString "max") = some (.builtin "max")
  gZip : GK K (Str.ofString "zip") = some (.type "zip")
  gType : GK K (Str.ofString "type") = some (.type "type")
  gTuple : GK K (Str.ofString "tuple") = some (.type "tuple")
  gP : GK K (Str.ofString "_twin_re_1") = some (.ref pP)
  gQ : GK K (Str.ofString "_twin_re_2") = some (.ref qP)
  P1 : ∃ o oc vs ws n, PatHas K pP pC true code1 o oc vs ws n
  P2 : ∃ o oc vs ws n, PatHas K qP qC false code2 o oc vs ws n
  gTab : GK K (Str.ofString "EXACT_TOKEN_TYPES") = some (.ref tb)
  look : KTD.tabLook KTD.flatLooks (fun b => K.lookup b) tb tab = true
  nd : (tab.map (·.1)).Nodup
  hash : KTD.hashesOf (fun b => K.lookup b) tb = tab.map fun p => (PySem.strKind prog w).hash p.1
  t1 : Spec.lookup (.str (dotS 1)) (tab.map fun p => (PyData.str p.1, p.2)) = some (.int 23)
  t2 : Spec.lookup (.str (dotS 2)) (tab.map fun p => (PyData.str p.1, p.2)) = none
  t3 : Spec.lookup (.str (dotS 3)) (tab.map fun p => (PyData.str p.1, p.2)) = some (.int 52)
  tp : Spec.lookup (.str (st [43])) (tab.map fun p => (PyData.str p.1, p.2)) = some (.int 14)
  tm : Spec.lookup (.str (st [45])) (tab.map fun p => (PyData.str p.1, p.2)) = some (.int 15)
  ts : Spec.lookup (.str (st [42])) (tab.map fun p => (PyData.str p.1, p.2)) = some (.int 16)

theorem li_of {prog : Program} {w : World} {K : Frag} {tab : List (Str × PyData)} {a5 a6 a11 a65 a9 a10 a63 a66 a67 pP pC qP qC tb : Addr} (L : LawHas prog w K tab a5 a6 a11 a65 a9 a10 a63 a66 a67 pP pC qP qC tb) : LI prog w (topK K) := by
  obtain ⟨⟨d5, f5⟩, ⟨d6, f6⟩, ⟨d11, f11⟩, ⟨d65, f65⟩, ⟨d9, f9⟩, ⟨d10, f10⟩, ⟨d63, f63⟩, ⟨d66, f66⟩, ⟨d67, f67⟩, gC, gT, gNT, gLen, gRange, gEn, gSum, gMax, gZip, gType, gTuple, gP, gQ, ⟨o1, oc1, vs1, ws1, n1, P1⟩, ⟨o2, oc2, vs2, ws2, n2, P2⟩, gTab, look, nd, hash, t1, t2, t3, tp, tm, ts⟩ := L
  exact {
    sent := {
      K5 := fn_at f5 ⟨by decide +kernel, by decide +kernel, by decide +kernel, by decide +kernel⟩
      K6 := fn_at f6 ⟨by decide +kernel, by decide +kernel, by decide +kernel, by decide +kernel⟩
      K11 := fn_at f11 ⟨by decide +kernel, by decide +kernel, by decide +kernel, by decide +kernel⟩
      K65 := fn_at f65 ⟨by decide +kernel, by decide +kernel, by decide +kernel, by decide +kernel⟩
      gC := gC
      gT := gT
      gLen := gLen
      gRange := gRange
      P1 := ⟨_, _, gP, pat_has P1⟩
      P2 := ⟨_, _, gQ, pat_has P2⟩ }
    K9 := fn_at f9 ⟨by decide +kernel, by decide +kernel, by decide +kernel, by decide +kernel⟩
    K10 := fn_at f10 ⟨by decide +kernel, by decide +kernel, by decide +kernel, by decide +kernel⟩
    K63 := fn_at f63 ⟨by decide +kernel, by decide +kernel, by decide +kernel, by decide +kernel⟩
    K66 := fn_at f66 ⟨by decide +kernel, by decide +kernel, by decide +kernel, by decide +kernel⟩
    K67 := fn_at f67 ⟨by decide +kernel, by decide +kernel, by decide +kernel, by decide +kernel⟩
    gEn := gEn
    gSum := gSum
    gMax := gMax
    gZip := gZip
    gType := gType
    gTuple := gTuple
    gNT := gNT
    tab := ⟨tb, _, gTab, fun h hh => kt_tab_in prog w (in_topK hh) look nd hash, ⟨⟨t1, t2, t3⟩, tp, tm, ts⟩⟩ }
end Mine
namespace Mine
theorem well_one {P : Params} {h : Heap} {v : Value} {d : WData} (x : WellAll P h [v] [d]) : Well P h v d := by
  cases x with
  | cons a b => exact a
end Mine

end

section
open PySem PySem.W PyProof.Rows PySem.Builtin.Re
set_option maxRecDepth 100000
set_option Elab.async false
set_option linter.unusedVariables false
namespace Mine

/-! what the head looks at: known objects of the heap, and what they must be -/
noncomputable def kof (h : Heap) : List Addr → Frag
  | [] => []
  | a :: as => match h.get? a with
    | some o => (a, o) :: kof h as
    | none => kof h as
theorem kof_in {h h' : Heap} (k : ∀ b o, h.get? b = some o → h'.get? b = some o) : ∀ as : List Addr, (kof h as).In h'
  | [], a, o, e => by cases e
  | b :: bs, a, o, e => by
    unfold kof at e
    split at e
    · rename_i x hx
      rw [List.lookup_cons] at e
      split at e
      · rename_i q; cases e; rw [beq_iff_eq.mp q]; exact k _ _ hx
      · exact kof_in k bs a o e
    · exact kof_in k bs a o e

noncomputable abbrev FnSeen := Option (Option Value × FuncBody × Scope × Bool × List (Str × Addr) × Addr × Addr × Option (Value → Sem (List (Str × Value))) × Option (Value → Value → Value → Value → Sem (List (Str × Value))))
noncomputable def fnSeen (K : Frag) (four : Bool) (g : Str) (a : Addr) : FnSeen := match fnFd K a with
  | some fd => some (GK K g, fd.body, fd.scope, codeIn K fd.code fd.qualname, fd.closure, fd.globals, fd.builtins,
      match four with | true => none | false => some fun v => bindArgs fd ⟨[v], []⟩, match four with | true => some fun a b c d => bindArgs fd ⟨[a, b, c, d], []⟩ | false => none)
  | none => none
noncomputable def fnGood1 (k : Nat) (x : Str) (a : Addr) : FnSeen := some (some (.ref a), .stmts (bodyOf k), scopeOf k, true, [], mainGlobals, builtinsNs, some fun v => pure [(x, v)], none)
noncomputable def fnGood4 (k : Nat) (x y z u : Str) (a : Addr) : FnSeen := some (some (.ref a), .stmts (bodyOf k), scopeOf k, true, [], mainGlobals, builtinsNs, none, some fun a b c d => pure [(x, a), (y, b), (z, c), (u, d)])
theorem fn_of1 {K : Frag} {k : Nat} {x g : Str} {a : Addr} (e : fnSeen K false g a = fnGood1 k x a) : ∃ fd, FnHas K k [x] g a fd := by
  unfold fnSeen fnGood1 at e
  split at e
  · rename_i fd hfd
    injection e with e
    simp only [Prod.mk.injEq, Option.some.injEq] at e
    obtain ⟨e1, e2, e3, e4, e5, e6, e7, e8, _⟩ := e
    exact ⟨fd, e1, hfd, e2, e3, e4, e5, e6, e7, binds1 fun v => congrFun e8 v⟩
  · cases e
theorem fn_of4 {K : Frag} {k : Nat} {x y z u g : Str} {a : Addr} (e : fnSeen K true g a = fnGood4 k x y z u a) : ∃ fd, FnHas K k [x, y, z, u] g a fd := by
  unfold fnSeen fnGood4 at e
  split at e
  · rename_i fd hfd
    injection e with e
    simp only [Prod.mk.injEq, Option.some.injEq] at e
    obtain ⟨e1, e2, e3, e4, e5, e6, e7, _, e8⟩ := e
    exact ⟨fd, e1, hfd, e2, e3, e4, e5, e6, e7, binds4 fun a b c d => congrFun (congrFun (congrFun (congrFun e8 a) b) c) d⟩
  · cases e

noncomputable abbrev PatSeen := Option (Value × Bool × Nat × Nat × Value × Value × Array Nat)
noncomputable def patSeen (K : Frag) (P C : Addr) : PatSeen := match K.lookup P, K.lookup C with
  | some o, some oc => (match o.data, oc.data with
    | .fields vs, .seq ws _ => some (o.cls, o.dict.isNone, (reRawNat (vs.getD 6 .none)), (reRawNat (vs.getD 2 .none)), vs.getD 5 .none, oc.cls, (ws.map reRawOf).map Int.toNat)
    | _, _ => none)
  | _, _ => none
noncomputable def patGood (C : Addr) (k : Bool) (code : Array Nat) : PatSeen := some (.type "re.Pattern", true, kN k, 0, .ref C, .type "tuple", code)
theorem pat_of {K : Frag} {P C : Addr} {k : Bool} {code : Array Nat} (e : patSeen K P C = patGood C k code) : ∃ o oc vs ws n, PatHas K P C k code o oc vs ws n := by
  unfold patSeen patGood at e
  split at e
  · rename_i o oc ho hoc
    split at e
    · rename_i vs ws n hd hc
      injection e with e
      simp only [Prod.mk.injEq] at e
      obtain ⟨e1, e2, e3, e4, e5, e6, e7⟩ := e
      exact ⟨o, oc, vs, ws, n, ho, hoc, e1, Option.isNone_iff_eq_none.mp e2, hd, e3, e4, e5, hc, e6, e7⟩
    · cases e
  · cases e

noncomputable def tabLit : List (Str × PyData) := ([("!", 54), ("!=", 28), ("%", 24), ("%=", 40), ("&", 19), ("&=", 41), ("(", 7), (")", 8), ("*", 16), ("**", 35), ("**=", 46), ("*=", 38), ("+", 14), ("+=", 36), (",", 12), ("-", 15), ("-=", 37), ("->", 51), (".", 23), ("...", 52), ("/", 17), ("//", 47), ("//=", 48), ("/=", 39), (":", 11), (":=", 53), (";", 13), ("<", 20), ("<<", 33), ("<<=", 44), ("<=", 29), ("=", 22), ("==", 27), (">", 21), (">=", 30), (">>", 34), (">>=", 45), ("@", 49), ("@=", 50), ("[", 9), ("]", 10), ("^", 32), ("^=", 43), ("{", 25), ("|", 18), ("|=", 42), ("}", 26), ("~", 31)] : List (String × Nat)).map fun p => (Str.ofString p.1, .int p.2)
noncomputable abbrev Seen := Bool × List FnSeen × List (Option Value) × List PatSeen × List Int × Option Value
noncomputable def seenAll (K : Frag) : Seen :=
  (decide ((K.map (·.1)).Nodup) && (isDict K mainGlobals && (isDict K builtinsNs && (isDict K cStatics && ((nsFind (dictOf K cStatics) "sys.recursionlimit").isNone && KTD.tabLook KTD.flatLooks (fun b => K.lookup b) 77 tabLit)))),
   [fnSeen K false (Str.ofString "_quote_periods") 48, fnSeen K false (Str.ofString "_fix_eols") 55, fnSeen K false (Str.ofString "decode_rfc2231") 76, fnSeen K true (Str.ofString "_law_sent") 93, fnSeen K false (Str.ofString "_iter_escaped_chars") 62,
    fnSeen K false (Str.ofString "_strip_quoted_realnames") 69, fnSeen K false (Str.ofString "ISNONTERMINAL") 86, fnSeen K false (Str.ofString "_law_rows") 100, fnSeen K false (Str.ofString "_law_numbers") 105, fnSeen K false (Str.ofString "law") 110],
   ["CRLF", "TICK", "NT_OFFSET", "len", "range", "enumerate", "sum", "max", "zip", "type", "tuple", "_twin_re_1", "_twin_re_2", "EXACT_TOKEN_TYPES"].map fun x => GK K (Str.ofString x),
   [patSeen K 36 35, patSeen K 41 40],
   KTD.hashesOf (fun b => K.lookup b) 77,
   nsFind (dictOf K mainGlobals) (Str.ofString "law"))
noncomputable def goodAll (w : World) : Seen :=
  (true,
   [fnGood1 5 (Str.ofString "bindata") 48, fnGood1 6 (Str.ofString "data") 55, fnGood1 11 (Str.ofString "s") 76, fnGood4 65 (Str.ofString "head") (Str.ofString "rows") (Str.ofString "own") (Str.ofString "x") 93, fnGood1 9 sAddr 62,
    fnGood1 10 sAddr 69, fnGood1 63 (Str.ofString "x") 86, fnGood1 66 (Str.ofString "text") 100, fnGood1 67 (Str.ofString "row") 105, fnGood1 68 (Str.ofString "script") 110],
   [some (.str ⟨[13, 10].toArray⟩ 342), some (.str tick 360), some (.int 256 490), some (.builtin "len"), some (.type "range"), some (.type "enumerate"), some (.builtin "sum"), some (.builtin "max"), some (.type "zip"), some (.type "type"), some (.type "tuple"), some (.ref 36), some (.ref 41), some (.ref 77)],
   [patGood 35 true code1, patGood 40 false code2],
   tabLit.map fun p => (PySem.strKind PySem.Challenge.pw_rs0098_01 w).hash p.1,
   some (.ref 110))

noncomputable def TopGood (w : World) (h : Heap) : Prop := ∃ K : Frag, K.In h ∧ HeapOk K ∧ LI PySem.Challenge.pw_rs0098_01 w (topK K) ∧ (∃ fd, FnHas K 68 [Str.ofString "script"] (Str.ofString "law") 110 fd) ∧ nsFind (dictOf K mainGlobals) (Str.ofString "law") = some (.ref 110)
theorem good_of {w : World} {K : Frag} (e : seenAll K = goodAll w) {h : Heap} (x : K.In h) : TopGood w h := by
  unfold seenAll goodAll at e
  simp only [List.map_cons, List.map_nil, Prod.mk.injEq, List.cons.injEq, and_true, Bool.and_eq_true, decide_eq_true_eq, Option.isNone_iff_eq_none] at e
  obtain ⟨⟨nd, d1, d2, d3, lim, look⟩, ⟨f5, f6, f11, f65, f9, f10, f63, f66, f67, f68⟩, ⟨gC, gT, gNT, gLen, gRange, gEn, gSum, gMax, gZip, gType, gTuple, gP, gQ, gTab⟩, ⟨p1, p2⟩, hash, law⟩ := e
  exact ⟨K, x, ⟨nd, d1, d2, d3, lim⟩, li_of (tab := tabLit) (a5 := 48) (a6 := 55) (a11 := 76) (a65 := 93) (a9 := 62) (a10 := 69) (a63 := 86) (a66 := 100) (a67 := 105) (pP := 36) (pC := 35) (qP := 41) (qC := 40) (tb := 77) {
    f5 := fn_of1 f5
    f6 := fn_of1 f6
    f11 := fn_of1 f11
    f65 := fn_of4 f65
    f9 := fn_of1 f9
    f10 := fn_of1 f10
    f63 := fn_of1 f63
    f66 := fn_of1 f66
    f67 := fn_of1 f67
    gC := ⟨_, gC⟩
    gT := ⟨_, gT⟩
    gNT := ⟨_, gNT⟩
    gLen := gLen
    gRange := gRange
    gEn := gEn
    gSum := gSum
    gMax := gMax
    gZip := gZip
    gType := gType
    gTuple := gTuple
    gP := gP
    gQ := gQ
    P1 := pat_of p1
    P2 := pat_of p2
    gTab := gTab
    look := look
    nd := of_decide_eq_true (by kernel_rfl)
    hash := hash
    t1 := by kernel_rfl
    t2 := by kernel_rfl
    t3 := by kernel_rfl
    tp := by kernel_rfl
    tm := by kernel_rfl
    ts := by kernel_rfl
  }, fn_of1 f68, law⟩
end Mine

end

section
open PySem PySem.W PyProof.Rows PySem.Builtin.Re
set_option maxRecDepth 100000
set_option Elab.async false
set_option linter.unusedVariables false
namespace Mine
/-! the head: the run of the text's own lines, looked at once -/
noncomputable def adrs : List Addr := [0, 2, 3, 35, 36, 40, 41, 47, 48, 54, 55, 61, 62, 68, 69, 75, 76, 77, 85, 86, 92, 93, 99, 100, 104, 105, 109, 110]
noncomputable def vw : Program := view PySem.Challenge.pw_rs0098_01 [0, 68]
noncomputable def lsX : List Str := (PySem.Challenge.pw_rs0098_01.main.body.flatMap bindsAtTop).filter fun x => x != Str.ofString "law" && x != Str.ofString "_sre"
noncomputable def obsL (s : Shared) : Seen := seenAll (kof s.heap adrs)
theorem top_of (w : World) (s : Shared) (e : obsL s = goodAll w) : TopGood w s.heap := good_of e (kof_in (fun _ _ x => x) adrs)
theorem TopGood.keeps (w : World) (h h' : Heap) (g : TopGood w h) (k : ∀ b o, h.get? b = some o → h'.get? b = some o) : TopGood w h' := by
  obtain ⟨K, x, r⟩ := g
  exact ⟨K, fun a o e => k _ _ (x a o e), r⟩
theorem law_adr {K : Frag} {h : Heap} {mg : Str → Option Value} (x : K.In h) (e : isDict K mainGlobals = true) (n : h.Ns mainGlobals mg) (y : Str) : mg y = nsFind (dictOf K mainGlobals) y := by
  obtain ⟨o, es, ep, ho, hd, _, hf⟩ := n
  obtain ⟨o', es', ep', ho', hd', _, hf'⟩ := ns_of x e
  rw [ho] at ho'
  cases ho'
  rw [hd] at hd'
  cases hd'
  rw [← hf y, hf' y]
set_option maxHeartbeats 0 in
theorem said : PySem.Challenge.rw_rs0098_01.wellSaid = true := by
  unfold OpenLaw.wellSaid OpenRow.wellSaid OpenRow.partSaid looksOpen
  repeat' (with_reducible apply look_both)
  all_goals decide +kernel
end Mine

end

section
open PySem PySem.W PyProof.Rows PySem.Builtin.Re
set_option maxRecDepth 100000
set_option Elab.async false
set_option linter.unusedVariables false
namespace Mine.Hd
noncomputable section
/-! the run of the text's own lines, cut in five; the states at the cuts (printed by a program: wip/PrintStates.lean) -/
noncomputable abbrev S := Str.ofString
noncomputable def de (P : Params) (x : String) (t : Nat) (v : Value) : DictEntry := ⟨PyData.keyHash P (Str.ofString x), .str (Str.ofString x) t, v⟩
noncomputable def paramsOf (k : Nat) : Arguments := match fnOf k with
  | .FunctionDef _ p _ _ _ _ _ _ _ _ => p
  | _ => default
noncomputable def o0 (P : Params) : Obj := ⟨(.type "dict"), none, .dict ⟨[de P "__name__" 1 (.str (S "builtins") 160), de P "__doc__" 2 (.builtin "builtins.__doc__:str#\x6fpaque"), de P "__package__" 3 (.builtin "builtins.__package__:str#\x6fpaque"), de P "__loader__" 4 (.builtin "builtins.__loader__:shared#\x6fpaque"), de P "__spec__" 5 (.builtin "builtins.__spec__#\x6fpaque"), de P "__build_class__" 6 (.builtin "__build_class__"), de P "__import__" 7 (.builtin "__import__"), de P "abs" 8 (.builtin "abs"), de P "all" 9 (.builtin "all"), de P "any" 10 (.builtin "any"), de P "ascii" 11 (.builtin "ascii"), de P "bin" 12 (.builtin "bin"), de P "breakpoint" 13 (.builtin "breakpoint"), de P "callable" 14 (.builtin "callable"), de P "chr" 15 (.builtin "chr"), de P "compile" 16 (.builtin "compile"), de P "delattr" 17 (.builtin "delattr"), de P "dir" 18 (.builtin "dir"), de P "divmod" 19 (.builtin "divmod"), de P "eval" 20 (.builtin "eval"), de P "exec" 21 (.builtin "exec"), de P "format" 22 (.builtin "format"), de P "getattr" 23 (.builtin "getattr"), de P "globals" 24 (.builtin "globals"), de P "hasattr" 25 (.builtin "hasattr"), de P "hash" 26 (.builtin "hash"), de P "hex" 27 (.builtin "hex"), de P "id" 28 (.builtin "id"), de P "input" 29 (.builtin "input"), de P "isinstance" 30 (.builtin "isinstance"), de P "issubclass" 31 (.builtin "issubclass"), de P "iter" 32 (.builtin "iter"), de P "aiter" 33 (.builtin "aiter"), de P "len" 34 (.builtin "len"), de P "locals" 35 (.builtin "locals"), de P "max" 36 (.builtin "max"), de P "min" 37 (.builtin "min"), de P "next" 38 (.builtin "next"), de P "anext" 39 (.builtin "anext"), de P "oct" 40 (.builtin "oct"), de P "ord" 41 (.builtin "ord"), de P "pow" 42 (.builtin "pow"), de P "print" 43 (.builtin "print"), de P "repr" 44 (.builtin "repr"), de P "round" 45 (.builtin "round"), de P "setattr" 46 (.builtin "setattr"), de P "sorted" 47 (.builtin "sorted"), de P "sum" 48 (.builtin "sum"), de P "vars" 49 (.builtin "vars"), de P "None" 50 .none, de P "Ellipsis" 51 .ellipsis, de P "NotImplemented" 52 .notImplemented, de P "False" 53 (.bool false), de P "True" 54 (.bool true), de P "bool" 55 (.type "bool"), de P "memoryview" 56 (.type "memoryview"), de P "bytearray" 57 (.type "bytearray"), de P "bytes" 58 (.type "bytes"), de P "classmethod" 59 (.type "classmethod"), de P "complex" 60 (.type "complex"), de P "dict" 61 (.type "dict"), de P "enumerate" 62 (.type "enumerate"), de P "filter" 63 (.type "filter"), de P "float" 64 (.type "float"), de P "frozenset" 65 (.type "frozenset"), de P "property" 66 (.type "property"), de P "int" 67 (.type "int"), de P "list" 68 (.type "list"), de P "map" 69 (.type "map"), de P "object" 70 (.type "object"), de P "range" 71 (.type "range"), de P "reversed" 72 (.type "reversed"), de P "set" 73 (.type "set"), de P "slice" 74 (.type "slice"), de P "staticmethod" 75 (.type "staticmethod"), de P "str" 76 (.type "str"), de P "super" 77 (.type "super"), de P "tuple" 78 (.type "tuple"), de P "type" 79 (.type "type"), de P "zip" 80 (.type "zip"), de P "__debug__" 81 (.bool true), de P "BaseException" 82 (.type "BaseException"), de P "BaseExceptionGroup" 83 (.type "BaseExceptionGroup"), de P "Exception" 84 (.type "Exception"), de P "GeneratorExit" 85 (.type "GeneratorExit"), de P "KeyboardInterrupt" 86 (.type "KeyboardInterrupt"), de P "SystemExit" 87 (.type "SystemExit"), de P "ArithmeticError" 88 (.type "ArithmeticError"), de P "AssertionError" 89 (.type "AssertionError"), de P "AttributeError" 90 (.type "AttributeError"), de P "BufferError" 91 (.type "BufferError"), de P "EOFError" 92 (.type "EOFError"), de P "ImportError" 93 (.type "ImportError"), de P "LookupError" 94 (.type "LookupError"), de P "MemoryError" 95 (.type "MemoryError"), de P "NameError" 96 (.type "NameError"), de P "OSError" 97 (.type "OSError"), de P "ReferenceError" 98 (.type "ReferenceError"), de P "RuntimeError" 99 (.type "RuntimeError"), de P "StopAsyncIteration" 100 (.type "StopAsyncIteration"), de P "StopIteration" 101 (.type "StopIteration"), de P "SyntaxError" 102 (.type "SyntaxError"), de P "SystemError" 103 (.type "SystemError"), de P "TypeError" 104 (.type "TypeError"), de P "ValueError" 105 (.type "ValueError"), de P "Warning" 106 (.type "Warning"), de P "FloatingPointError" 107 (.type "FloatingPointError"), de P "OverflowError" 108 (.type "OverflowError"), de P "ZeroDivisionError" 109 (.type "ZeroDivisionError"), de P "BytesWarning" 110 (.type "BytesWarning"), de P "DeprecationWarning" 111 (.type "DeprecationWarning"), de P "EncodingWarning" 112 (.type "EncodingWarning"), de P "FutureWarning" 113 (.type "FutureWarning"), de P "ImportWarning" 114 (.type "ImportWarning"), de P "PendingDeprecationWarning" 115 (.type "PendingDeprecationWarning"), de P "ResourceWarning" 116 (.type "ResourceWarning"), de P "RuntimeWarning" 117 (.type "RuntimeWarning"), de P "SyntaxWarning" 118 (.type "SyntaxWarning"), de P "UnicodeWarning" 119 (.type "UnicodeWarning"), de P "UserWarning" 120 (.type "UserWarning"), de P "BlockingIOError" 121 (.type "BlockingIOError"), de P "ChildProcessError" 122 (.type "ChildProcessError"), de P "ConnectionError" 123 (.type "ConnectionError"), de P "FileExistsError" 124 (.type "FileExistsError"), de P "FileNotFoundError" 125 (.type "FileNotFoundError"), de P "InterruptedError" 126 (.type "InterruptedError"), de P "IsADirectoryError" 127 (.type "IsADirectoryError"), de P "NotADirectoryError" 128 (.type "NotADirectoryError"), de P "PermissionError" 129 (.type "PermissionError"), de P "ProcessLookupError" 130 (.type "ProcessLookupError"), de P "TimeoutError" 131 (.type "TimeoutError"), de P "IndentationError" 132 (.type "IndentationError"), de P "_IncompleteInputError" 133 (.type "_IncompleteInputError"), de P "IndexError" 134 (.type "IndexError"), de P "KeyError" 135 (.type "KeyError"), de P "ModuleNotFoundError" 136 (.type "ModuleNotFoundError"), de P "NotImplementedError" 137 (.type "NotImplementedError"), de P "PythonFinalizationError" 138 (.type "PythonFinalizationError"), de P "RecursionError" 139 (.type "RecursionError"), de P "UnboundLocalError" 140 (.type "UnboundLocalError"), de P "UnicodeError" 141 (.type "UnicodeError"), de P "BrokenPipeError" 142 (.type "BrokenPipeError"), de P "ConnectionAbortedError" 143 (.type "ConnectionAbortedError"), de P "ConnectionRefusedError" 144 (.type "ConnectionRefusedError"), de P "ConnectionResetError" 145 (.type "ConnectionResetError"), de P "TabError" 146 (.type "TabError"), de P "UnicodeDecodeError" 147 (.type "UnicodeDecodeError"), de P "UnicodeEncodeError" 148 (.type "UnicodeEncodeError"), de P "UnicodeTranslateError" 149 (.type "UnicodeTranslateError"), de P "ExceptionGroup" 150 (.type "ExceptionGroup"), de P "EnvironmentError" 151 (.type "OSError"), de P "IOError" 152 (.type "OSError"), de P "open" 153 (.builtin "open"), de P "quit" 154 (.builtin "builtins.quit#\x6fpaque"), de P "exit" 155 (.builtin "builtins.exit#\x6fpaque"), de P "copyright" 156 (.builtin "builtins.copyright#\x6fpaque"), de P "credits" 157 (.builtin "builtins.credits#\x6fpaque"), de P "license" 158 (.builtin "builtins.license#\x6fpaque"), de P "help" 159 (.builtin "builtins.help#\x6fpaque")]⟩ 159, ⟨[]⟩⟩
noncomputable def o1 (P : Params) : Obj := ⟨(.type "dict"), none, .dict ⟨[de P "builtins" 162 (.ref 4), de P "__main__" 163 (.ref 5), de P "_sre" 244 (.ref 12)]⟩ 3, ⟨[]⟩⟩
noncomputable def o2 (P : Params) : Obj := ⟨.none, none, .dict ⟨[de P "\x69mport.loaded._sre" 183 (.bool true), de P "class._frozen_importlib.BuiltinImporter" 185 (.ref 14), de P "watched.\x69mport" 206 (.ref 18), de P "class._frozen_importlib.ModuleSpec" 216 (.ref 22), de P "sys.modules.booked-epoch" 245 (.int 3 0), de P "\x69mport.later-laid._sre" 270 (.bool true), de P "watched.library" 272 (.ref 27), de P "watched.library-objects" 0 (.str (S "\x0c") 0), de P "watched.library-deep._sre" 273 (.str (S "\x04\x00\x00\x0b\x04\x00\x00\x0b\x04\x00\x00\x03\x04\x00\x00\x0b\x08\x04dict\x02") 0)]⟩ 9, ⟨[]⟩⟩
noncomputable def o3 (P : Params) : Obj := ⟨(.type "dict"), none, .dict ⟨[de P "__name__" 165 (.str (S "__main__") 164), de P "__doc__" 166 .none, de P "__package__" 167 .none, de P "__loader__" 168 (.builtin "__main__.__loader__#\x6fpaque"), de P "__spec__" 169 .none, de P "__annotations__" 170 (.ref 6), de P "__builtins__" 171 (.ref 4), de P "__file__" 173 (.str (S "/claim/cut.py") 172), de P "__cached__" 174 .none, de P "_sre" 275 (.ref 12)]⟩ 10, ⟨[]⟩⟩
noncomputable def o4 (P : Params) : Obj := ⟨(.type "module"), (some 0), .plain, ⟨[]⟩⟩
noncomputable def o5 (P : Params) : Obj := ⟨(.type "module"), (some 3), .plain, ⟨[]⟩⟩
noncomputable def o6 (P : Params) : Obj := ⟨(.type "dict"), none, .dict ⟨[]⟩ 0, ⟨[]⟩⟩
noncomputable def o7 (P : Params) : Obj := ⟨(.type "tuple"), none, .seq ⟨[]⟩ 0, ⟨[]⟩⟩
noncomputable def o8 (P : Params) : Obj := ⟨.none, none, .fields ⟨[]⟩, ⟨[]⟩⟩
noncomputable def o9 (P : Params) : Obj := ⟨(.type "code"), none, .fields ⟨[(.str (S "<module>") 176), (.str (S "<module>") 177), (.str (S "/claim/cut.py") 178), (.int 1 0), (.int 0 0), (.int 0 0), (.int 0 0), (.int 0 0), (.ref 7), (.bool false), (.int 175 0), (.ref 8), .none, .none, .none, .none, (.int 179 0), (.int 1 0), (.str (S "/claim/cut.py") 180)]⟩, ⟨[]⟩⟩
noncomputable def o10 (P : Params) : Obj := ⟨(.type "frame"), none, .plain, ⟨[(some (.ref 9)), (some (.ref 3)), (some (.ref 3)), none, (some (.str (S "__main__") 164)), none, (some (.ref 0))]⟩⟩
noncomputable def o11 (P : Params) : Obj := ⟨(.type "dict"), none, .dict ⟨[de P "__name__" 247 (.str (S "_sre") 246), de P "__doc__" 248 .none, de P "__package__" 250 (.str (S "") 249), de P "__loader__" 251 (.builtin "off-the-table:_sre.__loader__:shared#\x6fpaque"), de P "__spec__" 252 (.builtin "off-the-table:_sre.__spec__:shared#\x6fpaque"), de P "compile" 253 (.builtin "_sre.compile"), de P "template" 254 (.builtin "off-the-table:_sre.template:shared#\x6fpaque"), de P "getcodesize" 255 (.builtin "off-the-table:_sre.getcodesize:shared#\x6fpaque"), de P "ascii_iscased" 256 (.builtin "off-the-table:_sre.ascii_iscased:shared#\x6fpaque"), de P "unicode_iscased" 257 (.builtin "off-the-table:_sre.unicode_iscased:shared#\x6fpaque"), de P "ascii_tolower" 258 (.builtin "off-the-table:_sre.ascii_tolower:shared#\x6fpaque"), de P "unicode_tolower" 259 (.builtin "off-the-table:_sre.unicode_tolower:shared#\x6fpaque"), de P "MAGIC" 261 (.int 20230612 260), de P "CODESIZE" 263 (.int 4 262), de P "MAXREPEAT" 265 (.int 4294967295 264), de P "MAXGROUPS" 267 (.int 1073741823 266), de P "copyright" 269 (.str (S " SRE 2.2.2 Copyright (c) 1997-2002 by Secret Labs AB ") 268)]⟩ 17, ⟨[]⟩⟩
noncomputable def o12 (P : Params) : Obj := ⟨(.type "module"), (some 11), .plain, ⟨[]⟩⟩
noncomputable def o13 (P : Params) : Obj := ⟨(.type "dict"), none, .dict ⟨[de P "__module__" 189 (.str (S "_frozen_importlib") 186), de P "__firstlineno__" 190 (.int 971 187), de P "__doc__" 191 (.builtin "_frozen_importlib.BuiltinImporter.__doc__:str#\x6fpaque"), de P "_ORIGIN" 192 (.str (S "built-in") 188), de P "find_spec" 193 (.builtin "_frozen_importlib.BuiltinImporter.find_spec#\x6fpaque"), de P "create_module" 194 (.builtin "_frozen_importlib.BuiltinImporter.create_module#\x6fpaque"), de P "exec_module" 195 (.builtin "_frozen_importlib.BuiltinImporter.exec_module#\x6fpaque"), de P "get_code" 196 (.builtin "_frozen_importlib.BuiltinImporter.get_code#\x6fpaque"), de P "get_source" 197 (.builtin "_frozen_importlib.BuiltinImporter.get_source#\x6fpaque"), de P "is_package" 198 (.builtin "_frozen_importlib.BuiltinImporter.is_package#\x6fpaque"), de P "load_module" 199 (.builtin "_frozen_importlib.BuiltinImporter.load_module#\x6fpaque"), de P "__static_attributes__" 200 (.ref 15), de P "__dict__" 202 (.ref 16), de P "__weakref__" 204 (.ref 17)]⟩ 14, ⟨[]⟩⟩
noncomputable def o14 (P : Params) : Obj := ⟨(.type "type"), none, .cls ⟨S "BuiltinImporter", [(.type "object")], [(.ref 14), (.type "object")], 13, S "BuiltinImporter", true, [], [], false, none, false⟩, ⟨[]⟩⟩
noncomputable def o15 (P : Params) : Obj := ⟨(.type "tuple"), none, .seq ⟨[]⟩ 0, ⟨[]⟩⟩
noncomputable def o16 (P : Params) : Obj := ⟨(.type "getset_descriptor"), none, .fields ⟨[(.str (S "__dict__") 201), (.ref 14), (.builtin "function.__dict__"), (.builtin "function.__dict__#set")]⟩, ⟨[]⟩⟩
noncomputable def o17 (P : Params) : Obj := ⟨(.type "getset_descriptor"), none, .fields ⟨[(.str (S "__weakref__") 203), (.ref 14), (.builtin "ExceptionGroup.__weakref__"), .none]⟩, ⟨[]⟩⟩
noncomputable def o19 (P : Params) : Obj := ⟨(.type "list"), none, .seq ⟨[]⟩ 0, ⟨[]⟩⟩
noncomputable def o20 (P : Params) : Obj := ⟨(.type "dict"), none, .dict ⟨[de P "name" 208 (.str (S "_sre") 207), de P "loader" 209 (.ref 14), de P "origin" 210 (.str (S "built-in") 184), de P "loader_state" 211 .none, de P "submodule_search_locations" 212 .none, de P "_uninitialized_submodules" 213 (.ref 19), de P "_set_fileattr" 214 (.bool false), de P "_cached" 215 .none, de P "_initializing" 243 (.bool false)]⟩ 9, ⟨[]⟩⟩
noncomputable def o21 (P : Params) : Obj := ⟨(.type "dict"), none, .dict ⟨[de P "__module__" 227 (.str (S "_frozen_importlib") 217), de P "__firstlineno__" 228 (.int 562 218), de P "__doc__" 229 (.builtin "_frozen_importlib.ModuleSpec.__doc__:str#\x6fpaque"), de P "__init__" 230 (.builtin "_frozen_importlib.ModuleSpec.__init__#\x6fpaque"), de P "__repr__" 231 (.builtin "_frozen_importlib.ModuleSpec.__repr__#\x6fpaque"), de P "__eq__" 232 (.builtin "_frozen_importlib.ModuleSpec.__eq__#\x6fpaque"), de P "cached" 233 (.builtin "_frozen_importlib.ModuleSpec.cached#\x6fpaque"), de P "parent" 234 (.builtin "_frozen_importlib.ModuleSpec.parent#\x6fpaque"), de P "has_location" 235 (.builtin "_frozen_importlib.ModuleSpec.has_location#\x6fpaque"), de P "__static_attributes__" 236 (.ref 23), de P "__dict__" 238 (.ref 24), de P "__weakref__" 240 (.ref 25), de P "__hash__" 241 .none]⟩ 13, ⟨[]⟩⟩
noncomputable def o22 (P : Params) : Obj := ⟨(.type "type"), none, .cls ⟨S "ModuleSpec", [(.type "object")], [(.ref 22), (.type "object")], 21, S "ModuleSpec", true, [], [], false, none, false⟩, ⟨[]⟩⟩
noncomputable def o23 (P : Params) : Obj := ⟨(.type "tuple"), none, .seq ⟨[(.str (S "_cached") 219), (.str (S "_set_fileattr") 220), (.str (S "_uninitialized_submodules") 221), (.str (S "loader") 222), (.str (S "loader_state") 223), (.str (S "name") 224), (.str (S "origin") 225), (.str (S "submodule_search_locations") 226)]⟩ 0, ⟨[]⟩⟩
noncomputable def o24 (P : Params) : Obj := ⟨(.type "getset_descriptor"), none, .fields ⟨[(.str (S "__dict__") 237), (.ref 22), (.builtin "function.__dict__"), (.builtin "function.__dict__#set")]⟩, ⟨[]⟩⟩
noncomputable def o25 (P : Params) : Obj := ⟨(.type "getset_descriptor"), none, .fields ⟨[(.str (S "__weakref__") 239), (.ref 22), (.builtin "ExceptionGroup.__weakref__"), .none]⟩, ⟨[]⟩⟩
noncomputable def o26 (P : Params) : Obj := ⟨(.ref 22), (some 20), .plain, ⟨[]⟩⟩
noncomputable def o27 (P : Params) : Obj := ⟨.none, none, .seq ⟨[(.int 11 0), (.str (⟨⟨[6, 247, 8, 95, 95, 110, 97, 109, 101, 95, 95, 6, 246, 4, 95, 115, 114, 101, 6, 248, 7, 95, 95, 100, 111, 99, 95, 95, 0, 6, 250, 11, 95, 95, 112, 97, 99, 107, 97, 103, 101, 95, 95, 6, 249, 0, 6, 251, 10, 95, 95, 108, 111, 97, 100, 101, 114, 95, 95, 4, 0, 0, 14, 6, 252, 8, 95, 95, 115, 112, 101, 99, 95, 95, 4, 0, 0, 26, 6, 253, 7, 99, 111, 109, 112, 105, 108, 101, 9, 12, 95, 115, 114, 101, 46, 99, 111, 109, 112, 105, 108, 101, 6, 254, 8, 116, 101, 109, 112, 108, 97, 116, 101, 9, 13, 95, 115, 114, 101, 46, 116, 101, 109, 112, 108, 97, 116, 101, 6, 255, 11, 103, 101, 116, 99, 111, 100, 101, 115, 105, 122, 101, 9, 16, 95, 115, 114, 101, 46, 103, 101, 116, 99, 111, 100, 101, 115, 105, 122, 101, 6, 256, 13, 97, 115, 99, 105, 105, 95, 105, 115, 99, 97, 115, 101, 100, 9, 18, 95, 115, 114, 101, 46, 97, 115, 99, 105, 105, 95, 105, 115, 99, 97, 115, 101, 100, 6, 257, 15, 117, 110, 105, 99, 111, 100, 101, 95, 105, 115, 99, 97, 115, 101, 100, 9, 20, 95, 115, 114, 101, 46, 117, 110, 105, 99, 111, 100, 101, 95, 105, 115, 99, 97, 115, 101, 100, 6, 258, 13, 97, 115, 99, 105, 105, 95, 116, 111, 108, 111, 119, 101, 114, 9, 18, 95, 115, 114, 101, 46, 97, 115, 99, 105, 105, 95, 116, 111, 108, 111, 119, 101, 114, 6, 259, 15, 117, 110, 105, 99, 111, 100, 101, 95, 116, 111, 108, 111, 119, 101, 114, 9, 20, 95, 115, 114, 101, 46, 117, 110, 105, 99, 111, 100, 101, 95, 116, 111, 108, 111, 119, 101, 114, 6, 261, 5, 77, 65, 71, 73, 67, 4, 260, 0, 20230612, 6, 263, 8, 67, 79, 68, 69, 83, 73, 90, 69, 4, 262, 0, 4, 6, 265, 9, 77, 65, 88, 82, 69, 80, 69, 65, 84, 4, 264, 0, 4294967295, 6, 267, 9, 77, 65, 88, 71, 82, 79, 85, 80, 83, 4, 266, 0, 1073741823, 6, 269, 9, 99, 111, 112, 121, 114, 105, 103, 104, 116, 6, 268, 53, 32, 83, 82, 69, 32, 50, 46, 50, 46, 50, 32, 67, 111, 112, 121, 114, 105, 103, 104, 116, 32, 40, 99, 41, 32, 49, 57, 57, 55, 45, 50, 48, 48, 50, 32, 98, 121, 32, 83, 101, 99, 114, 101, 116, 32, 76, 97, 98, 115, 32, 65, 66, 32]⟩⟩) 0), (.bool true), (.bool false), (.str (S "_sre") 271)]⟩ 0, ⟨[]⟩⟩
noncomputable def lf1 : Life := ⟨[], [], [], 0, [], [], false, ⟨[]⟩, [], 0, false, false, false, 0, [2000, 10, 10], false, 0, true, [], [], 0, false⟩
noncomputable def hpZ (P : Params) (x : Obj) : Heap := ⟨⟨[o0 P, o1 P, o2 P, o3 P, o4 P, o5 P, o6 P, o7 P, o8 P, o9 P, o10 P, o11 P, o12 P, o13 P, o14 P, o15 P, o16 P, o17 P, x, o19 P, o20 P, o21 P, o22 P, o23 P, o24 P, o25 P, o26 P, o27 P]⟩, lf1⟩
noncomputable abbrev stZ (w : World) (x : Obj) (os : OsState) : Shared := ⟨hpZ w.params x, ⟨[]⟩, ⟨0, 0, 0, 0⟩, 276, os⟩
noncomputable def o28 (P : Params) : Obj := ⟨(.type "tuple"), none, .seq ⟨[]⟩ 0, ⟨[]⟩⟩
noncomputable def o29 (P : Params) : Obj := ⟨.none, none, .fields ⟨[]⟩, ⟨[]⟩⟩
noncomputable def o30 (P : Params) : Obj := ⟨(.type "code"), none, .fields ⟨[(.str (S "<module>") 277), (.str (S "<module>") 278), (.str (S "/claim/cut.py") 279), (.int 1 0), (.int 0 0), (.int 0 0), (.int 0 0), (.int 0 0), (.ref 28), (.bool false), (.int 276 0), (.ref 29), .none, .none, .none, .none, (.int 280 0), (.int 1 0), (.str (S "/claim/cut.py") 281)]⟩, ⟨[]⟩⟩
noncomputable def o31 (P : Params) : Obj := ⟨(.type "frame"), none, .plain, ⟨[(some (.ref 30)), (some (.ref 3)), (some (.ref 3)), none, (some (.str (S "__main__") 164)), none, (some (.ref 0))]⟩⟩
noncomputable def hpA (P : Params) (x : Obj) : Heap := ⟨⟨[o0 P, o1 P, o2 P, o3 P, o4 P, o5 P, o6 P, o7 P, o8 P, o9 P, o10 P, o11 P, o12 P, o13 P, o14 P, o15 P, o16 P, o17 P, x, o19 P, o20 P, o21 P, o22 P, o23 P, o24 P, o25 P, o26 P, o27 P, o28 P, o29 P, o30 P, o31 P]⟩, lf1⟩
noncomputable abbrev stA (w : World) (x : Obj) (os : OsState) : Shared := ⟨hpA w.params x, ⟨[]⟩, ⟨0, 0, 0, 0⟩, 282, os⟩
noncomputable def hpB (P : Params) (x : Obj) : Heap := ⟨⟨[o0 P, o1 P, o2 P, o3 P, o4 P, o5 P, o6 P, o7 P, o8 P, o9 P, o10 P, o11 P, o12 P, o13 P, o14 P, o15 P, o16 P, o17 P, x, o19 P, o20 P, o21 P, o22 P, o23 P, o24 P, o25 P, o26 P, o27 P, o28 P, o29 P, o30 P, o31 P]⟩, lf1⟩
noncomputable abbrev stB (w : World) (x : Obj) (os : OsState) : Shared := ⟨hpB w.params x, ⟨[]⟩, ⟨0, 0, 0, 0⟩, 282, os⟩
noncomputable def o3_C (P : Params) : Obj := ⟨(.type "dict"), none, .dict ⟨[de P "__name__" 165 (.str (S "cpy313.token") 392), de P "__doc__" 166 .none, de P "__package__" 167 .none, de P "__loader__" 168 (.builtin "__main__.__loader__#\x6fpaque"), de P "__spec__" 169 .none, de P "__annotations__" 170 (.ref 6), de P "__builtins__" 171 (.ref 4), de P "__file__" 173 (.str (S "/claim/cut.py") 172), de P "__cached__" 174 .none, de P "_sre" 275 (.ref 12), de P "_twin_re_1" 299 (.ref 36), de P "_twin_re_2" 341 (.ref 41), de P "CRLF" 343 (.str (S "\x0d\n") 342), de P "_quote_periods" 350 (.ref 48), de P "_fix_eols" 357 (.ref 55), de P "TICK" 361 (.str (S "'") 360), de P "_iter_escaped_chars" 371 (.ref 62), de P "_strip_quoted_realnames" 383 (.ref 69), de P "decode_rfc2231" 391 (.ref 76), de P "LPAR" 395 (.int 7 394), de P "RPAR" 397 (.int 8 396), de P "LSQB" 399 (.int 9 398), de P "RSQB" 401 (.int 10 400), de P "COLON" 403 (.int 11 402), de P "COMMA" 405 (.int 12 404), de P "SEMI" 407 (.int 13 406), de P "PLUS" 409 (.int 14 408), de P "MINUS" 411 (.int 15 410), de P "STAR" 413 (.int 16 412), de P "SLASH" 415 (.int 17 414), de P "VBAR" 417 (.int 18 416), de P "AMPER" 419 (.int 19 418), de P "LESS" 421 (.int 20 420), de P "GREATER" 423 (.int 21 422), de P "EQUAL" 425 (.int 22 424), de P "DOT" 427 (.int 23 426), de P "PERCENT" 429 (.int 24 428), de P "LBRACE" 431 (.int 25 430), de P "RBRACE" 433 (.int 26 432), de P "EQEQUAL" 435 (.int 27 434), de P "NOTEQUAL" 437 (.int 28 436), de P "LESSEQUAL" 439 (.int 29 438), de P "GREATEREQUAL" 441 (.int 30 440), de P "TILDE" 443 (.int 31 442), de P "CIRCUMFLEX" 445 (.int 32 444), de P "LEFTSHIFT" 447 (.int 33 446), de P "RIGHTSHIFT" 449 (.int 34 448), de P "DOUBLESTAR" 451 (.int 35 450), de P "PLUSEQUAL" 453 (.int 36 452), de P "MINEQUAL" 455 (.int 37 454), de P "STAREQUAL" 457 (.int 38 456), de P "SLASHEQUAL" 459 (.int 39 458), de P "PERCENTEQUAL" 461 (.int 40 460), de P "AMPEREQUAL" 463 (.int 41 462), de P "VBAREQUAL" 465 (.int 42 464), de P "CIRCUMFLEXEQUAL" 467 (.int 43 466), de P "LEFTSHIFTEQUAL" 469 (.int 44 468), de P "RIGHTSHIFTEQUAL" 471 (.int 45 470), de P "DOUBLESTAREQUAL" 473 (.int 46 472), de P "DOUBLESLASH" 475 (.int 47 474), de P "DOUBLESLASHEQUAL" 477 (.int 48 476), de P "AT" 479 (.int 49 478), de P "ATEQUAL" 481 (.int 50 480), de P "RARROW" 483 (.int 51 482), de P "ELLIPSIS" 485 (.int 52 484), de P "COLONEQUAL" 487 (.int 53 486), de P "EXCLAMATION" 489 (.int 54 488), de P "NT_OFFSET" 491 (.int 256 490)]⟩ 68, ⟨[]⟩⟩
noncomputable def o29_C (P : Params) : Obj := ⟨.none, none, .fields ⟨[(.int 6 0), (.int 0 0), (.ref 47), (.int 8 0), (.int 0 0), (.ref 54), (.int 12 0), (.int 0 0), (.ref 61), (.int 25 0), (.int 0 0), (.ref 68), (.int 43 0), (.int 0 0), (.ref 75)]⟩, ⟨[]⟩⟩
noncomputable def o32 (P : Params) : Obj := ⟨(.type "list"), none, .seq ⟨[(.int 14 287), (.int 4 288), (.int 0 289), (.int 1 290), (.int 1 291), (.int 6 292), (.int 1 293), (.int 16 294), (.int 46 295), (.int 1 296)]⟩ 0, ⟨[]⟩⟩
noncomputable def o33 (P : Params) : Obj := ⟨(.type "dict"), none, .dict ⟨[]⟩ 0, ⟨[]⟩⟩
noncomputable def o34 (P : Params) : Obj := ⟨(.type "tuple"), none, .seq ⟨[.none]⟩ 0, ⟨[]⟩⟩
noncomputable def o35 (P : Params) : Obj := ⟨(.type "tuple"), none, .seq ⟨[(.int 14 0), (.int 4 0), (.int 0 0), (.int 1 0), (.int 1 0), (.int 6 0), (.int 1 0), (.int 16 0), (.int 46 0), (.int 1 0)]⟩ 0, ⟨[]⟩⟩
noncomputable def o36 (P : Params) : Obj := ⟨(.type "re.Pattern"), none, .fields ⟨[(.bytes #[40, 63, 109, 41, 94, 92, 46] 285), (.int 8 298), (.int 0 0), .none, .none, (.ref 35), (.int 1 0)]⟩, ⟨[]⟩⟩
noncomputable def o37 (P : Params) : Obj := ⟨(.type "list"), none, .seq ⟨[(.int 14 303), (.int 9 304), (.int 4 305), (.int 1 306), (.int 2 307), (.int 16 308), (.int 10 309), (.int 16 310), (.int 13 311), (.int 0 312), (.int 7 313), (.int 7 314), (.int 16 315), (.int 13 316), (.int 16 317), (.int 10 318), (.int 15 319), (.int 18 320), (.int 5 321), (.int 16 322), (.int 10 323), (.int 15 324), (.int 13 325), (.int 11 326), (.int 16 327), (.int 13 328), (.int 5 329), (.int 5 330), (.int 0 331), (.int 16 332), (.int 10 333), (.int 1 334), (.int 15 335), (.int 2 336), (.int 0 337), (.int 1 338)]⟩ 0, ⟨[]⟩⟩
noncomputable def o38 (P : Params) : Obj := ⟨(.type "dict"), none, .dict ⟨[]⟩ 0, ⟨[]⟩⟩
noncomputable def o39 (P : Params) : Obj := ⟨(.type "tuple"), none, .seq ⟨[.none]⟩ 0, ⟨[]⟩⟩
noncomputable def o40 (P : Params) : Obj := ⟨(.type "tuple"), none, .seq ⟨[(.int 14 0), (.int 9 0), (.int 4 0), (.int 1 0), (.int 2 0), (.int 16 0), (.int 10 0), (.int 16 0), (.int 13 0), (.int 0 0), (.int 7 0), (.int 7 0), (.int 16 0), (.int 13 0), (.int 16 0), (.int 10 0), (.int 15 0), (.int 18 0), (.int 5 0), (.int 16 0), (.int 10 0), (.int 15 0), (.int 13 0), (.int 11 0), (.int 16 0), (.int 13 0), (.int 5 0), (.int 5 0), (.int 0 0), (.int 16 0), (.int 10 0), (.int 1 0), (.int 15 0), (.int 2 0), (.int 0 0), (.int 1 0)]⟩ 0, ⟨[]⟩⟩
noncomputable def o41 (P : Params) : Obj := ⟨(.type "re.Pattern"), none, .fields ⟨[(.str (S "(?:\\r\\n|\\n|\\r(?!\\n))") 301), (.int 32 340), (.int 0 0), .none, .none, (.ref 40), (.int 0 0)]⟩, ⟨[]⟩⟩
noncomputable def o42 (P : Params) : Obj := ⟨(.type "tuple"), none, .seq ⟨[]⟩ 0, ⟨[]⟩⟩
noncomputable def o43 (P : Params) : Obj := ⟨.none, none, .fields ⟨[]⟩, ⟨[]⟩⟩
noncomputable def o44 (P : Params) : Obj := ⟨(.type "tuple"), none, .seq ⟨[(.str (S "bindata") 347)]⟩ 0, ⟨[]⟩⟩
noncomputable def o45 (P : Params) : Obj := ⟨(.type "tuple"), none, .seq ⟨[]⟩ 0, ⟨[]⟩⟩
noncomputable def o46 (P : Params) : Obj := ⟨.none, none, .func ⟨S "_quote_periods", S "_quote_periods",  paramsOf 5, .stmts (bodyOf 5), scopeOf 5, 0, [], .none, .none, .none, .none, none, .none, .none, 0⟩, ⟨[]⟩⟩
noncomputable def o47 (P : Params) : Obj := ⟨(.type "code"), none, .fields ⟨[(.str (S "_quote_periods") 344), (.str (S "_quote_periods") 345), (.str (S "/claim/cut.py") 346), (.int 6 0), (.int 1 0), (.int 0 0), (.int 0 0), (.int 3 0), (.ref 42), (.bool true), (.int 276 0), (.ref 43), .none, (.ref 44), (.ref 45), (.ref 46), (.int 348 0), (.int 6 0), (.str (S "/claim/cut.py") 349)]⟩, ⟨[]⟩⟩
noncomputable def o48 (P : Params) : Obj := ⟨(.type "function"), none, .func ⟨S "_quote_periods", S "_quote_periods",  paramsOf 5, .stmts (bodyOf 5), scopeOf 5, 3, [], .none, .none, .none, (.str (S "cpy313.smtplib") 282), none, (.ref 47), .none, 0⟩, ⟨[]⟩⟩
noncomputable def o49 (P : Params) : Obj := ⟨(.type "tuple"), none, .seq ⟨[]⟩ 0, ⟨[]⟩⟩
noncomputable def o50 (P : Params) : Obj := ⟨.none, none, .fields ⟨[]⟩, ⟨[]⟩⟩
noncomputable def o51 (P : Params) : Obj := ⟨(.type "tuple"), none, .seq ⟨[(.str (S "data") 354)]⟩ 0, ⟨[]⟩⟩
noncomputable def o52 (P : Params) : Obj := ⟨(.type "tuple"), none, .seq ⟨[]⟩ 0, ⟨[]⟩⟩
noncomputable def o53 (P : Params) : Obj := ⟨.none, none, .func ⟨S "_fix_eols", S "_fix_eols",  paramsOf 6, .stmts (bodyOf 6), scopeOf 6, 0, [], .none, .none, .none, .none, none, .none, .none, 0⟩, ⟨[]⟩⟩
noncomputable def o54 (P : Params) : Obj := ⟨(.type "code"), none, .fields ⟨[(.str (S "_fix_eols") 351), (.str (S "_fix_eols") 352), (.str (S "/claim/cut.py") 353), (.int 8 0), (.int 1 0), (.int 0 0), (.int 0 0), (.int 3 0), (.ref 49), (.bool true), (.int 276 0), (.ref 50), .none, (.ref 51), (.ref 52), (.ref 53), (.int 355 0), (.int 8 0), (.str (S "/claim/cut.py") 356)]⟩, ⟨[]⟩⟩
noncomputable def o55 (P : Params) : Obj := ⟨(.type "function"), none, .func ⟨S "_fix_eols", S "_fix_eols",  paramsOf 6, .stmts (bodyOf 6), scopeOf 6, 3, [], .none, .none, .none, (.str (S "cpy313.smtplib") 282), none, (.ref 54), .none, 0⟩, ⟨[]⟩⟩
noncomputable def o56 (P : Params) : Obj := ⟨(.type "tuple"), none, .seq ⟨[]⟩ 0, ⟨[]⟩⟩
noncomputable def o57 (P : Params) : Obj := ⟨.none, none, .fields ⟨[]⟩, ⟨[]⟩⟩
noncomputable def o58 (P : Params) : Obj := ⟨(.type "tuple"), none, .seq ⟨[(.str (S "addr") 365), (.str (S "pos") 366), (.str (S "escape") 367), (.str (S "ch") 368)]⟩ 0, ⟨[]⟩⟩
noncomputable def o59 (P : Params) : Obj := ⟨(.type "tuple"), none, .seq ⟨[]⟩ 0, ⟨[]⟩⟩
noncomputable def o60 (P : Params) : Obj := ⟨.none, none, .func ⟨S "_iter_escaped_chars", S "_iter_escaped_chars",  paramsOf 9, .stmts (bodyOf 9), scopeOf 9, 0, [], .none, .none, .none, .none, none, .none, .none, 0⟩, ⟨[]⟩⟩
noncomputable def o61 (P : Params) : Obj := ⟨(.type "code"), none, .fields ⟨[(.str (S "_iter_escaped_chars") 362), (.str (S "_iter_escaped_chars") 363), (.str (S "/claim/cut.py") 364), (.int 12 0), (.int 1 0), (.int 0 0), (.int 0 0), (.int 35 0), (.ref 56), (.bool true), (.int 276 0), (.ref 57), .none, (.ref 58), (.ref 59), (.ref 60), (.int 369 0), (.int 12 0), (.str (S "/claim/cut.py") 370)]⟩, ⟨[]⟩⟩
noncomputable def o62 (P : Params) : Obj := ⟨(.type "function"), none, .func ⟨S "_iter_escaped_chars", S "_iter_escaped_chars",  paramsOf 9, .stmts (bodyOf 9), scopeOf 9, 3, [], .none, .none, .none, (.str (S "cpy313.email.utils") 358), none, (.ref 61), .none, 0⟩, ⟨[]⟩⟩
noncomputable def o63 (P : Params) : Obj := ⟨(.type "tuple"), none, .seq ⟨[]⟩ 0, ⟨[]⟩⟩
noncomputable def o64 (P : Params) : Obj := ⟨.none, none, .fields ⟨[]⟩, ⟨[]⟩⟩
noncomputable def o65 (P : Params) : Obj := ⟨(.type "tuple"), none, .seq ⟨[(.str (S "addr") 375), (.str (S "start") 376), (.str (S "open_pos") 377), (.str (S "result") 378), (.str (S "pos") 379), (.str (S "ch") 380)]⟩ 0, ⟨[]⟩⟩
noncomputable def o66 (P : Params) : Obj := ⟨(.type "tuple"), none, .seq ⟨[]⟩ 0, ⟨[]⟩⟩
noncomputable def o67 (P : Params) : Obj := ⟨.none, none, .func ⟨S "_strip_quoted_realnames", S "_strip_quoted_realnames",  paramsOf 10, .stmts (bodyOf 10), scopeOf 10, 0, [], .none, .none, .none, .none, none, .none, .none, 0⟩, ⟨[]⟩⟩
noncomputable def o68 (P : Params) : Obj := ⟨(.type "code"), none, .fields ⟨[(.str (S "_strip_quoted_realnames") 372), (.str (S "_strip_quoted_realnames") 373), (.str (S "/claim/cut.py") 374), (.int 25 0), (.int 1 0), (.int 0 0), (.int 0 0), (.int 3 0), (.ref 63), (.bool true), (.int 276 0), (.ref 64), .none, (.ref 65), (.ref 66), (.ref 67), (.int 381 0), (.int 25 0), (.str (S "/claim/cut.py") 382)]⟩, ⟨[]⟩⟩
noncomputable def o69 (P : Params) : Obj := ⟨(.type "function"), none, .func ⟨S "_strip_quoted_realnames", S "_strip_quoted_realnames",  paramsOf 10, .stmts (bodyOf 10), scopeOf 10, 3, [], .none, .none, .none, (.str (S "cpy313.email.utils") 358), none, (.ref 68), .none, 0⟩, ⟨[]⟩⟩
noncomputable def o70 (P : Params) : Obj := ⟨(.type "tuple"), none, .seq ⟨[]⟩ 0, ⟨[]⟩⟩
noncomputable def o71 (P : Params) : Obj := ⟨.none, none, .fields ⟨[]⟩, ⟨[]⟩⟩
noncomputable def o72 (P : Params) : Obj := ⟨(.type "tuple"), none, .seq ⟨[(.str (S "s") 387), (.str (S "parts") 388)]⟩ 0, ⟨[]⟩⟩
noncomputable def o73 (P : Params) : Obj := ⟨(.type "tuple"), none, .seq ⟨[]⟩ 0, ⟨[]⟩⟩
noncomputable def o74 (P : Params) : Obj := ⟨.none, none, .func ⟨S "decode_rfc2231", S "decode_rfc2231",  paramsOf 11, .stmts (bodyOf 11), scopeOf 11, 0, [], .none, .none, .none, .none, none, .none, .none, 0⟩, ⟨[]⟩⟩
noncomputable def o75 (P : Params) : Obj := ⟨(.type "code"), none, .fields ⟨[(.str (S "decode_rfc2231") 384), (.str (S "decode_rfc2231") 385), (.str (S "/claim/cut.py") 386), (.int 43 0), (.int 1 0), (.int 0 0), (.int 0 0), (.int 3 0), (.ref 70), (.bool true), (.int 276 0), (.ref 71), .none, (.ref 72), (.ref 73), (.ref 74), (.int 389 0), (.int 43 0), (.str (S "/claim/cut.py") 390)]⟩, ⟨[]⟩⟩
noncomputable def o76 (P : Params) : Obj := ⟨(.type "function"), none, .func ⟨S "decode_rfc2231", S "decode_rfc2231",  paramsOf 11, .stmts (bodyOf 11), scopeOf 11, 3, [], .none, .none, .none, (.str (S "cpy313.email.utils") 358), none, (.ref 75), .none, 0⟩, ⟨[]⟩⟩
noncomputable def hpC (P : Params) (x : Obj) : Heap := ⟨⟨[o0 P, o1 P, o2 P, o3_C P, o4 P, o5 P, o6 P, o7 P, o8 P, o9 P, o10 P, o11 P, o12 P, o13 P, o14 P, o15 P, o16 P, o17 P, x, o19 P, o20 P, o21 P, o22 P, o23 P, o24 P, o25 P, o26 P, o27 P, o28 P, o29_C P, o30 P, o31 P, o32 P, o33 P, o34 P, o35 P, o36 P, o37 P, o38 P, o39 P, o40 P, o41 P, o42 P, o43 P, o44 P, o45 P, o46 P, o47 P, o48 P, o49 P, o50 P, o51 P, o52 P, o53 P, o54 P, o55 P, o56 P, o57 P, o58 P, o59 P, o60 P, o61 P, o62 P, o63 P, o64 P, o65 P, o66 P, o67 P, o68 P, o69 P, o70 P, o71 P, o72 P, o73 P, o74 P, o75 P, o76 P]⟩, lf1⟩
noncomputable abbrev stC (w : World) (x : Obj) (os : OsState) : Shared := ⟨hpC w.params x, ⟨[]⟩, ⟨0, 0, 0, 0⟩, 492, os⟩
noncomputable def o3_D (P : Params) : Obj := ⟨(.type "dict"), none, .dict ⟨[de P "__name__" 165 (.str (S "cpy313.token") 392), de P "__doc__" 166 .none, de P "__package__" 167 .none, de P "__loader__" 168 (.builtin "__main__.__loader__#\x6fpaque"), de P "__spec__" 169 .none, de P "__annotations__" 170 (.ref 6), de P "__builtins__" 171 (.ref 4), de P "__file__" 173 (.str (S "/claim/cut.py") 172), de P "__cached__" 174 .none, de P "_sre" 275 (.ref 12), de P "_twin_re_1" 299 (.ref 36), de P "_twin_re_2" 341 (.ref 41), de P "CRLF" 343 (.str (S "\x0d\n") 342), de P "_quote_periods" 350 (.ref 48), de P "_fix_eols" 357 (.ref 55), de P "TICK" 361 (.str (S "'") 360), de P "_iter_escaped_chars" 371 (.ref 62), de P "_strip_quoted_realnames" 383 (.ref 69), de P "decode_rfc2231" 391 (.ref 76), de P "LPAR" 395 (.int 7 394), de P "RPAR" 397 (.int 8 396), de P "LSQB" 399 (.int 9 398), de P "RSQB" 401 (.int 10 400), de P "COLON" 403 (.int 11 402), de P "COMMA" 405 (.int 12 404), de P "SEMI" 407 (.int 13 406), de P "PLUS" 409 (.int 14 408), de P "MINUS" 411 (.int 15 410), de P "STAR" 413 (.int 16 412), de P "SLASH" 415 (.int 17 414), de P "VBAR" 417 (.int 18 416), de P "AMPER" 419 (.int 19 418), de P "LESS" 421 (.int 20 420), de P "GREATER" 423 (.int 21 422), de P "EQUAL" 425 (.int 22 424), de P "DOT" 427 (.int 23 426), de P "PERCENT" 429 (.int 24 428), de P "LBRACE" 431 (.int 25 430), de P "RBRACE" 433 (.int 26 432), de P "EQEQUAL" 435 (.int 27 434), de P "NOTEQUAL" 437 (.int 28 436), de P "LESSEQUAL" 439 (.int 29 438), de P "GREATEREQUAL" 441 (.int 30 440), de P "TILDE" 443 (.int 31 442), de P "CIRCUMFLEX" 445 (.int 32 444), de P "LEFTSHIFT" 447 (.int 33 446), de P "RIGHTSHIFT" 449 (.int 34 448), de P "DOUBLESTAR" 451 (.int 35 450), de P "PLUSEQUAL" 453 (.int 36 452), de P "MINEQUAL" 455 (.int 37 454), de P "STAREQUAL" 457 (.int 38 456), de P "SLASHEQUAL" 459 (.int 39 458), de P "PERCENTEQUAL" 461 (.int 40 460), de P "AMPEREQUAL" 463 (.int 41 462), de P "VBAREQUAL" 465 (.int 42 464), de P "CIRCUMFLEXEQUAL" 467 (.int 43 466), de P "LEFTSHIFTEQUAL" 469 (.int 44 468), de P "RIGHTSHIFTEQUAL" 471 (.int 45 470), de P "DOUBLESTAREQUAL" 473 (.int 46 472), de P "DOUBLESLASH" 475 (.int 47 474), de P "DOUBLESLASHEQUAL" 477 (.int 48 476), de P "AT" 479 (.int 49 478), de P "ATEQUAL" 481 (.int 50 480), de P "RARROW" 483 (.int 51 482), de P "ELLIPSIS" 485 (.int 52 484), de P "COLONEQUAL" 487 (.int 53 486), de P "EXCLAMATION" 489 (.int 54 488), de P "NT_OFFSET" 491 (.int 256 490), de P "EXACT_TOKEN_TYPES" 588 (.ref 77)]⟩ 69, ⟨[]⟩⟩
noncomputable def o77 (P : Params) : Obj := ⟨(.type "dict"), none, .dict ⟨[de P "!" 492 (.int 54 488), de P "!=" 494 (.int 28 436), de P "%" 496 (.int 24 428), de P "%=" 498 (.int 40 460), de P "&" 500 (.int 19 418), de P "&=" 502 (.int 41 462), de P "(" 504 (.int 7 394), de P ")" 506 (.int 8 396), de P "*" 508 (.int 16 412), de P "**" 510 (.int 35 450), de P "**=" 512 (.int 46 472), de P "*=" 514 (.int 38 456), de P "+" 516 (.int 14 408), de P "+=" 518 (.int 36 452), de P "," 520 (.int 12 404), de P "-" 522 (.int 15 410), de P "-=" 524 (.int 37 454), de P "->" 526 (.int 51 482), de P "." 528 (.int 23 426), de P "..." 530 (.int 52 484), de P "/" 532 (.int 17 414), de P "//" 534 (.int 47 474), de P "//=" 536 (.int 48 476), de P "/=" 538 (.int 39 458), de P ":" 540 (.int 11 402), de P ":=" 542 (.int 53 486), de P ";" 544 (.int 13 406), de P "<" 546 (.int 20 420), de P "<<" 548 (.int 33 446), de P "<<=" 550 (.int 44 468), de P "<=" 552 (.int 29 438), de P "=" 554 (.int 22 424), de P "==" 556 (.int 27 434), de P ">" 558 (.int 21 422), de P ">=" 560 (.int 30 440), de P ">>" 561 (.int 34 448), de P ">>=" 562 (.int 45 470), de P "@" 563 (.int 49 478), de P "@=" 564 (.int 50 480), de P "[" 565 (.int 9 398), de P "]" 566 (.int 10 400), de P "^" 567 (.int 32 444), de P "^=" 568 (.int 43 466), de P "{" 569 (.int 25 430), de P "|" 570 (.int 18 416), de P "|=" 571 (.int 42 464), de P "}" 572 (.int 26 432), de P "~" 573 (.int 31 442)]⟩ 48, ⟨[]⟩⟩
noncomputable def o78 (P : Params) : Obj := ⟨(.type "dict"), none, .dict ⟨[de P "->" 526 (.int 51 482), de P "." 528 (.int 23 426), de P "..." 530 (.int 52 484), de P "/" 532 (.int 17 414), de P "//" 534 (.int 47 474), de P "//=" 536 (.int 48 476), de P "/=" 538 (.int 39 458), de P ":" 540 (.int 11 402), de P ":=" 542 (.int 53 486), de P ";" 544 (.int 13 406), de P "<" 546 (.int 20 420), de P "<<" 548 (.int 33 446), de P "<<=" 550 (.int 44 468), de P "<=" 552 (.int 29 438), de P "=" 554 (.int 22 424), de P "==" 556 (.int 27 434), de P ">" 558 (.int 21 422)]⟩ 17, ⟨[]⟩⟩
noncomputable def o79 (P : Params) : Obj := ⟨(.type "dict"), none, .dict ⟨[de P ">=" 560 (.int 30 440), de P ">>" 561 (.int 34 448), de P ">>=" 562 (.int 45 470), de P "@" 563 (.int 49 478), de P "@=" 564 (.int 50 480), de P "[" 565 (.int 9 398), de P "]" 566 (.int 10 400), de P "^" 567 (.int 32 444), de P "^=" 568 (.int 43 466), de P "{" 569 (.int 25 430), de P "|" 570 (.int 18 416), de P "|=" 571 (.int 42 464), de P "}" 572 (.int 26 432), de P "~" 573 (.int 31 442)]⟩ 14, ⟨[]⟩⟩
noncomputable def hpD (P : Params) (x : Obj) : Heap := ⟨⟨[o0 P, o1 P, o2 P, o3_D P, o4 P, o5 P, o6 P, o7 P, o8 P, o9 P, o10 P, o11 P, o12 P, o13 P, o14 P, o15 P, o16 P, o17 P, x, o19 P, o20 P, o21 P, o22 P, o23 P, o24 P, o25 P, o26 P, o27 P, o28 P, o29_C P, o30 P, o31 P, o32 P, o33 P, o34 P, o35 P, o36 P, o37 P, o38 P, o39 P, o40 P, o41 P, o42 P, o43 P, o44 P, o45 P, o46 P, o47 P, o48 P, o49 P, o50 P, o51 P, o52 P, o53 P, o54 P, o55 P, o56 P, o57 P, o58 P, o59 P, o60 P, o61 P, o62 P, o63 P, o64 P, o65 P, o66 P, o67 P, o68 P, o69 P, o70 P, o71 P, o72 P, o73 P, o74 P, o75 P, o76 P, o77 P, o78 P, o79 P]⟩, lf1⟩
noncomputable abbrev stD (w : World) (x : Obj) (os : OsState) : Shared := ⟨hpD w.params x, ⟨[]⟩, ⟨0, 0, 0, 0⟩, 589, os⟩
noncomputable def o3_E (P : Params) : Obj := ⟨(.type "dict"), none, .dict ⟨[de P "__name__" 165 (.str (S "law_rs0098_01") 596), de P "__doc__" 166 .none, de P "__package__" 167 .none, de P "__loader__" 168 (.builtin "__main__.__loader__#\x6fpaque"), de P "__spec__" 169 .none, de P "__annotations__" 170 (.ref 6), de P "__builtins__" 171 (.ref 4), de P "__file__" 173 (.str (S "/claim/cut.py") 172), de P "__cached__" 174 .none, de P "_sre" 275 (.ref 12), de P "_twin_re_1" 299 (.ref 36), de P "_twin_re_2" 341 (.ref 41), de P "CRLF" 343 (.str (S "\x0d\n") 342), de P "_quote_periods" 350 (.ref 48), de P "_fix_eols" 357 (.ref 55), de P "TICK" 361 (.str (S "'") 360), de P "_iter_escaped_chars" 371 (.ref 62), de P "_strip_quoted_realnames" 383 (.ref 69), de P "decode_rfc2231" 391 (.ref 76), de P "LPAR" 395 (.int 7 394), de P "RPAR" 397 (.int 8 396), de P "LSQB" 399 (.int 9 398), de P "RSQB" 401 (.int 10 400), de P "COLON" 403 (.int 11 402), de P "COMMA" 405 (.int 12 404), de P "SEMI" 407 (.int 13 406), de P "PLUS" 409 (.int 14 408), de P "MINUS" 411 (.int 15 410), de P "STAR" 413 (.int 16 412), de P "SLASH" 415 (.int 17 414), de P "VBAR" 417 (.int 18 416), de P "AMPER" 419 (.int 19 418), de P "LESS" 421 (.int 20 420), de P "GREATER" 423 (.int 21 422), de P "EQUAL" 425 (.int 22 424), de P "DOT" 427 (.int 23 426), de P "PERCENT" 429 (.int 24 428), de P "LBRACE" 431 (.int 25 430), de P "RBRACE" 433 (.int 26 432), de P "EQEQUAL" 435 (.int 27 434), de P "NOTEQUAL" 437 (.int 28 436), de P "LESSEQUAL" 439 (.int 29 438), de P "GREATEREQUAL" 441 (.int 30 440), de P "TILDE" 443 (.int 31 442), de P "CIRCUMFLEX" 445 (.int 32 444), de P "LEFTSHIFT" 447 (.int 33 446), de P "RIGHTSHIFT" 449 (.int 34 448), de P "DOUBLESTAR" 451 (.int 35 450), de P "PLUSEQUAL" 453 (.int 36 452), de P "MINEQUAL" 455 (.int 37 454), de P "STAREQUAL" 457 (.int 38 456), de P "SLASHEQUAL" 459 (.int 39 458), de P "PERCENTEQUAL" 461 (.int 40 460), de P "AMPEREQUAL" 463 (.int 41 462), de P "VBAREQUAL" 465 (.int 42 464), de P "CIRCUMFLEXEQUAL" 467 (.int 43 466), de P "LEFTSHIFTEQUAL" 469 (.int 44 468), de P "RIGHTSHIFTEQUAL" 471 (.int 45 470), de P "DOUBLESTAREQUAL" 473 (.int 46 472), de P "DOUBLESLASH" 475 (.int 47 474), de P "DOUBLESLASHEQUAL" 477 (.int 48 476), de P "AT" 479 (.int 49 478), de P "ATEQUAL" 481 (.int 50 480), de P "RARROW" 483 (.int 51 482), de P "ELLIPSIS" 485 (.int 52 484), de P "COLONEQUAL" 487 (.int 53 486), de P "EXCLAMATION" 489 (.int 54 488), de P "NT_OFFSET" 491 (.int 256 490), de P "EXACT_TOKEN_TYPES" 588 (.ref 77), de P "ISNONTERMINAL" 595 (.ref 86), de P "_law_sent" 611 (.ref 93), de P "_law_rows" 618 (.ref 100), de P "_law_numbers" 624 (.ref 105), de P "law" 630 (.ref 110)]⟩ 74, ⟨[]⟩⟩
noncomputable def o29_E (P : Params) : Obj := ⟨.none, none, .fields ⟨[(.int 6 0), (.int 0 0), (.ref 47), (.int 8 0), (.int 0 0), (.ref 54), (.int 12 0), (.int 0 0), (.ref 61), (.int 25 0), (.int 0 0), (.ref 68), (.int 43 0), (.int 0 0), (.ref 75), (.int 99 0), (.int 0 0), (.ref 85), (.int 102 0), (.int 0 0), (.ref 92), (.int 111 0), (.int 0 0), (.ref 99), (.int 113 0), (.int 0 0), (.ref 104), (.int 121 0), (.int 0 0), (.ref 109)]⟩, ⟨[]⟩⟩
noncomputable def o80 (P : Params) : Obj := ⟨(.type "tuple"), none, .seq ⟨[]⟩ 0, ⟨[]⟩⟩
noncomputable def o81 (P : Params) : Obj := ⟨.none, none, .fields ⟨[]⟩, ⟨[]⟩⟩
noncomputable def o82 (P : Params) : Obj := ⟨(.type "tuple"), none, .seq ⟨[(.str (S "x") 592)]⟩ 0, ⟨[]⟩⟩
noncomputable def o83 (P : Params) : Obj := ⟨(.type "tuple"), none, .seq ⟨[]⟩ 0, ⟨[]⟩⟩
noncomputable def o84 (P : Params) : Obj := ⟨.none, none, .func ⟨S "ISNONTERMINAL", S "ISNONTERMINAL",  paramsOf 63, .stmts (bodyOf 63), scopeOf 63, 0, [], .none, .none, .none, .none, none, .none, .none, 0⟩, ⟨[]⟩⟩
noncomputable def o85 (P : Params) : Obj := ⟨(.type "code"), none, .fields ⟨[(.str (S "ISNONTERMINAL") 589), (.str (S "ISNONTERMINAL") 590), (.str (S "/claim/cut.py") 591), (.int 99 0), (.int 1 0), (.int 0 0), (.int 0 0), (.int 3 0), (.ref 80), (.bool true), (.int 276 0), (.ref 81), .none, (.ref 82), (.ref 83), (.ref 84), (.int 593 0), (.int 99 0), (.str (S "/claim/cut.py") 594)]⟩, ⟨[]⟩⟩
noncomputable def o86 (P : Params) : Obj := ⟨(.type "function"), none, .func ⟨S "ISNONTERMINAL", S "ISNONTERMINAL",  paramsOf 63, .stmts (bodyOf 63), scopeOf 63, 3, [], .none, .none, .none, (.str (S "cpy313.token") 392), none, (.ref 85), .none, 0⟩, ⟨[]⟩⟩
noncomputable def o87 (P : Params) : Obj := ⟨(.type "tuple"), none, .seq ⟨[]⟩ 0, ⟨[]⟩⟩
noncomputable def o88 (P : Params) : Obj := ⟨.none, none, .fields ⟨[]⟩, ⟨[]⟩⟩
noncomputable def o89 (P : Params) : Obj := ⟨(.type "tuple"), none, .seq ⟨[(.str (S "head") 601), (.str (S "rows") 602), (.str (S "own") 603), (.str (S "x") 604), (.str (S "hidden") 605), (.str (S "ends") 606), (.str (S "typed") 607), (.str (S "k") 608)]⟩ 0, ⟨[]⟩⟩
noncomputable def o90 (P : Params) : Obj := ⟨(.type "tuple"), none, .seq ⟨[]⟩ 0, ⟨[]⟩⟩
noncomputable def o91 (P : Params) : Obj := ⟨.none, none, .func ⟨S "_law_sent", S "_law_sent",  paramsOf 65, .stmts (bodyOf 65), scopeOf 65, 0, [], .none, .none, .none, .none, none, .none, .none, 0⟩, ⟨[]⟩⟩
noncomputable def o92 (P : Params) : Obj := ⟨(.type "code"), none, .fields ⟨[(.str (S "_law_sent") 598), (.str (S "_law_sent") 599), (.str (S "/claim/cut.py") 600), (.int 102 0), (.int 4 0), (.int 0 0), (.int 0 0), (.int 3 0), (.ref 87), (.bool true), (.int 276 0), (.ref 88), .none, (.ref 89), (.ref 90), (.ref 91), (.int 609 0), (.int 102 0), (.str (S "/claim/cut.py") 610)]⟩, ⟨[]⟩⟩
noncomputable def o93 (P : Params) : Obj := ⟨(.type "function"), none, .func ⟨S "_law_sent", S "_law_sent",  paramsOf 65, .stmts (bodyOf 65), scopeOf 65, 3, [], .none, .none, .none, (.str (S "law_rs0098_01") 596), none, (.ref 92), .none, 0⟩, ⟨[]⟩⟩
noncomputable def o94 (P : Params) : Obj := ⟨(.type "tuple"), none, .seq ⟨[]⟩ 0, ⟨[]⟩⟩
noncomputable def o95 (P : Params) : Obj := ⟨.none, none, .fields ⟨[]⟩, ⟨[]⟩⟩
noncomputable def o96 (P : Params) : Obj := ⟨(.type "tuple"), none, .seq ⟨[(.str (S "text") 615)]⟩ 0, ⟨[]⟩⟩
noncomputable def o97 (P : Params) : Obj := ⟨(.type "tuple"), none, .seq ⟨[]⟩ 0, ⟨[]⟩⟩
noncomputable def o98 (P : Params) : Obj := ⟨.none, none, .func ⟨S "_law_rows", S "_law_rows",  paramsOf 66, .stmts (bodyOf 66), scopeOf 66, 0, [], .none, .none, .none, .none, none, .none, .none, 0⟩, ⟨[]⟩⟩
noncomputable def o99 (P : Params) : Obj := ⟨(.type "code"), none, .fields ⟨[(.str (S "_law_rows") 612), (.str (S "_law_rows") 613), (.str (S "/claim/cut.py") 614), (.int 111 0), (.int 1 0), (.int 0 0), (.int 0 0), (.int 3 0), (.ref 94), (.bool true), (.int 276 0), (.ref 95), .none, (.ref 96), (.ref 97), (.ref 98), (.int 616 0), (.int 111 0), (.str (S "/claim/cut.py") 617)]⟩, ⟨[]⟩⟩
noncomputable def o100 (P : Params) : Obj := ⟨(.type "function"), none, .func ⟨S "_law_rows", S "_law_rows",  paramsOf 66, .stmts (bodyOf 66), scopeOf 66, 3, [], .none, .none, .none, (.str (S "law_rs0098_01") 596), none, (.ref 99), .none, 0⟩, ⟨[]⟩⟩
noncomputable def o101 (P : Params) : Obj := ⟨(.type "tuple"), none, .seq ⟨[]⟩ 0, ⟨[]⟩⟩
noncomputable def o102 (P : Params) : Obj := ⟨.none, none, .fields ⟨[]⟩, ⟨[]⟩⟩
noncomputable def o103 (P : Params) : Obj := ⟨.none, none, .func ⟨S "_law_numbers", S "_law_numbers",  paramsOf 67, .stmts (bodyOf 67), scopeOf 67, 0, [], .none, .none, .none, .none, none, .none, .none, 0⟩, ⟨[]⟩⟩
noncomputable def o104 (P : Params) : Obj := ⟨(.type "code"), none, .fields ⟨[(.str (S "_law_numbers") 619), (.str (S "_law_numbers") 620), (.str (S "/claim/cut.py") 621), (.int 113 0), (.int 1 0), (.int 0 0), (.int 0 0), (.int 3 0), (.ref 101), (.bool true), (.int 276 0), (.ref 102), .none, .none, .none, (.ref 103), (.int 622 0), (.int 113 0), (.str (S "/claim/cut.py") 623)]⟩, ⟨[]⟩⟩
noncomputable def o105 (P : Params) : Obj := ⟨(.type "function"), none, .func ⟨S "_law_numbers", S "_law_numbers",  paramsOf 67, .stmts (bodyOf 67), scopeOf 67, 3, [], .none, .none, .none, (.str (S "law_rs0098_01") 596), none, (.ref 104), .none, 0⟩, ⟨[]⟩⟩
noncomputable def o106 (P : Params) : Obj := ⟨(.type "tuple"), none, .seq ⟨[]⟩ 0, ⟨[]⟩⟩
noncomputable def o107 (P : Params) : Obj := ⟨.none, none, .fields ⟨[]⟩, ⟨[]⟩⟩
noncomputable def o108 (P : Params) : Obj := ⟨.none, none, .func ⟨S "law", S "law",  paramsOf 68, .stmts (bodyOf 68), scopeOf 68, 0, [], .none, .none, .none, .none, none, .none, .none, 0⟩, ⟨[]⟩⟩
noncomputable def o109 (P : Params) : Obj := ⟨(.type "code"), none, .fields ⟨[(.str (S "law") 625), (.str (S "law") 626), (.str (S "/claim/cut.py") 627), (.int 121 0), (.int 1 0), (.int 0 0), (.int 0 0), (.int 3 0), (.ref 106), (.bool true), (.int 276 0), (.ref 107), .none, .none, .none, (.ref 108), (.int 628 0), (.int 121 0), (.str (S "/claim/cut.py") 629)]⟩, ⟨[]⟩⟩
noncomputable def o110 (P : Params) : Obj := ⟨(.type "function"), none, .func ⟨S "law", S "law",  paramsOf 68, .stmts (bodyOf 68), scopeOf 68, 3, [], .none, .none, .none, (.str (S "law_rs0098_01") 596), none, (.ref 109), .none, 0⟩, ⟨[]⟩⟩
noncomputable def hpE (P : Params) (x : Obj) : Heap := ⟨⟨[o0 P, o1 P, o2 P, o3_E P, o4 P, o5 P, o6 P, o7 P, o8 P, o9 P, o10 P, o11 P, o12 P, o13 P, o14 P, o15 P, o16 P, o17 P, x, o19 P, o20 P, o21 P, o22 P, o23 P, o24 P, o25 P, o26 P, o27 P, o28 P, o29_E P, o30 P, o31 P, o32 P, o33 P, o34 P, o35 P, o36 P, o37 P, o38 P, o39 P, o40 P, o41 P, o42 P, o43 P, o44 P, o45 P, o46 P, o47 P, o48 P, o49 P, o50 P, o51 P, o52 P, o53 P, o54 P, o55 P, o56 P, o57 P, o58 P, o59 P, o60 P, o61 P, o62 P, o63 P, o64 P, o65 P, o66 P, o67 P, o68 P, o69 P, o70 P, o71 P, o72 P, o73 P, o74 P, o75 P, o76 P, o77 P, o78 P, o79 P, o80 P, o81 P, o82 P, o83 P, o84 P, o85 P, o86 P, o87 P, o88 P, o89 P, o90 P, o91 P, o92 P, o93 P, o94 P, o95 P, o96 P, o97 P, o98 P, o99 P, o100 P, o101 P, o102 P, o103 P, o104 P, o105 P, o106 P, o107 P, o108 P, o109 P, o110 P]⟩, lf1⟩
noncomputable abbrev stE (w : World) (x : Obj) (os : OsState) : Shared := ⟨hpE w.params x, ⟨[]⟩, ⟨0, 0, 0, 0⟩, 631, os⟩
noncomputable def hpF (P : Params) (x : Obj) : Heap := ⟨⟨[o0 P, o1 P, o2 P, o3_E P, o4 P, o5 P, o6 P, o7 P, o8 P, o9 P, o10 P, o11 P, o12 P, o13 P, o14 P, o15 P, o16 P, o17 P, x, o19 P, o20 P, o21 P, o22 P, o23 P, o24 P, o25 P, o26 P, o27 P, o28 P, o29_E P, o30 P, o31 P, o32 P, o33 P, o34 P, o35 P, o36 P, o37 P, o38 P, o39 P, o40 P, o41 P, o42 P, o43 P, o44 P, o45 P, o46 P, o47 P, o48 P, o49 P, o50 P, o51 P, o52 P, o53 P, o54 P, o55 P, o56 P, o57 P, o58 P, o59 P, o60 P, o61 P, o62 P, o63 P, o64 P, o65 P, o66 P, o67 P, o68 P, o69 P, o70 P, o71 P, o72 P, o73 P, o74 P, o75 P, o76 P, o77 P, o78 P, o79 P, o80 P, o81 P, o82 P, o83 P, o84 P, o85 P, o86 P, o87 P, o88 P, o89 P, o90 P, o91 P, o92 P, o93 P, o94 P, o95 P, o96 P, o97 P, o98 P, o99 P, o100 P, o101 P, o102 P, o103 P, o104 P, o105 P, o106 P, o107 P, o108 P, o109 P, o110 P]⟩, lf1⟩
noncomputable abbrev stF (w : World) (x : Obj) (os : OsState) : Shared := ⟨hpF w.params x, ⟨[]⟩, ⟨0, 0, 0, 0⟩, 631, os⟩

noncomputable abbrev pw : Program := PySem.Challenge.pw_rs0098_01
noncomputable def bE : List Stmt := behindTheImports pw
noncomputable def envE : Env := { scope := pw.main.scope, locals := mainNs, globals := mainNs, cells := [], code := .ref 30, frame := some 31 }
noncomputable def cE : Code := .body bE envE
noncomputable def qE : Pos := ⟨0, 0, 0, 0⟩
noncomputable def ann : Option Value := some (.ref 6)
theorem open_ (w : World) : (fencedOpening treeTable pw w 3960).map (fun s => (s.heap.objs.toList.take 18, s.heap.objs.toList.drop 19, s.heap.life, s.gens, s.drawn, s.toks)) = some ((hpZ w.params default).objs.toList.take 18, (hpZ w.params default).objs.toList.drop 19, lf1, Array.mk [], ⟨0, 0, 0, 0⟩, 276) := by kernel_rfl
theorem size (w : World) (x : Obj) : ((hpZ w.params x).isNs mainGlobals && (Array.mk [] : Array GenState).size == 0, (hpZ w.params x).objs.size, (hpZ w.params x).nsMap mainGlobals "__annotations__") = (true, 28, ann) := by kernel_rfl
theorem pre (w : World) (x : Obj) (os : OsState) : topGo treeTable pw w 28 ann 12 (stZ w x os) (topStub pw) = some (stA w x os, ⟨denote treeTable cE, cE, ⟨0, 0, 0, 0⟩, [topFrame qE]⟩) := by kernel_rfl
theorem block (w : World) (x : Obj) (os : OsState) : segRun treeTable pw w 28 ann 1 1 (stA w x os) (blockOf bE envE cE ⟨0, 0, 0, 0⟩ [topFrame qE]) = some (.next, stB w x os, cE, ⟨0, 0, 0, 0⟩) := by kernel_rfl
theorem segC (w : World) (x : Obj) (os : OsState) : segRun treeTable pw w 28 ann 1 785 (stB w x os) (piecesOf (bE.take 61) envE cE ⟨0, 0, 0, 0⟩ [topFrame qE]) = some (.next, stC w x os, cE, ⟨97, 0, 97, 9⟩) := by kernel_rfl
noncomputable abbrev SegD (w : World) : Prop := ∀ (x : Obj) (os : OsState), segRun treeTable pw w 28 ann 1 979 (stC w x os) (piecesOf ((bE.drop 61).take 1) envE cE ⟨97, 0, 97, 9⟩ [topFrame qE]) = some (.next, stD w x os, cE, ⟨98, 0, 98, 17⟩)
theorem segD0 (w : World) : SegD (w.withFollow "special-get-raises" false) := fun x os => by kernel_rfl
theorem segD1 (w : World) : SegD (w.withFollow "special-get-raises" true) := fun x os => by kernel_rfl
theorem segD (w : World) : SegD w := byRow2 "special-get-raises" segD0 segD1 w
theorem segE (w : World) (x : Obj) (os : OsState) : segRun treeTable pw w 28 ann 1 156 (stD w x os) (piecesOf (bE.drop 62) envE cE ⟨98, 0, 98, 17⟩ [topFrame qE]) = some (.next, stE w x os, cE, ⟨121, 0, 162, 15⟩) := by kernel_rfl
theorem fin (w : World) (x : Obj) (os : OsState) : topRun treeTable pw w 28 ann 2 (stE w x os) ⟨doneF .next, cE, ⟨121, 0, 162, 15⟩, [topFrame qE]⟩ = some (stF w x os) := by kernel_rfl
theorem parts : bE = bE.take 61 ++ ((bE.drop 61).take 1 ++ (bE.drop 62 ++ [])) := by kernel_rfl
theorem run (w : World) (x : Obj) (os : OsState) : topRun treeTable pw w 28 ann (12 + (1 + (785 + (979 + (156 + 2))))) (stZ w x os) (topStub pw) = some (stF w x os) := by
  refine go_top (pre w x os) ?_
  refine piece_block (q := qE) (block w x os) ?_
  have k := piece_app (q := qE) (segC w x os) (piece_app (q := qE) (segD w x os) (piece_app (q := qE) (segE w x os) (piece_nil (fin w x os))))
  rw [← parts] at k
  exact k
theorem looks1 (w : World) (x : Obj) (os : OsState) : (staticsOk (importedModules pw.main.body) (stZ w x os).heap (stF w x os).heap && namesBound pw (stF w x os).heap && gensDone (stF w x os) && laidKept (stZ w x os).heap (stF w x os).heap) = true := by kernel_rfl
theorem looks2 (w : World) (x : Obj) (os : OsState) : openSeen vw lsX (importedModules pw.main.body) (fun _ => true) true (stF w x os) = openGood vw lsX := by kernel_rfl
theorem looks3 (w : World) (x : Obj) (os : OsState) : obsL (stF w x os) = goodAll w := by kernel_rfl
theorem cut_at {α : Type} {l a b : List α} {n : Nat} {y : α} (h1 : l.take n = a) (h2 : l.drop (n + 1) = y :: b) : ∃ x, l = a ++ x :: y :: b := by
  cases e : l.drop n with
  | nil =>
    rw [← List.drop_drop, e] at h2
    simp at h2
  | cons x r =>
    refine ⟨x, ?_⟩
    rw [← List.drop_drop, e] at h2
    rw [← List.take_append_drop n l, h1, e]
    rw [List.drop_succ_cons, List.drop_zero] at h2
    rw [h2]
theorem top_from {p : Program} {w : World} {N n₀ : Nat} {an : Option Value} {s s' : Shared} (z1 : (s.heap.isNs mainGlobals && s.gens.size == 0) = true) (z2 : s.heap.objs.size = n₀) (z3 : s.heap.nsMap mainGlobals "__annotations__" = an) (r : topRun treeTable p w n₀ an N s (topStub p) = some s')
    (l : (staticsOk (importedModules p.main.body) s.heap s'.heap && namesBound p s'.heap && gensDone s' && laidKept s.heap s'.heap) = true) : topFrom treeTable p w N s = some s' := by
  unfold topFrom
  rw [z1, z2, z3, r]
  show (match _ with | true => some s' | false => none) = some s'
  rw [l]
theorem left_at {p q : Program} {loose : List Str} {Xt : Shared → Bool} {α : Type} {Yf : Shared → α} {Ya : World → α} {N : Nat} {g0 : Bool} {w : World} {s s' : Shared} (o : fencedOpening treeTable p w N = some s) (t : topFrom treeTable p w N s = some s')
    (l : openSeen q loose (importedModules p.main.body) Xt g0 s' = openGood q loose) (l' : Yf s' = Ya w) : (openEnds treeTable p w N).map (fun s => (openSeen q loose (importedModules p.main.body) Xt g0 s, Yf s)) = some (openGood q loose, Ya w) := by
  unfold openEnds
  rw [o]
  show (topFrom treeTable p w N s).map _ = _
  rw [t]
  exact congrArg some (Prod.ext l l')
theorem opened (w : World) : ∃ x os, fencedOpening treeTable pw w 3960 = some (stZ w x os) := by
  obtain ⟨⟨⟨⟨h⟩, lf⟩, gs, d, k, os⟩, e, e'⟩ := Option.map_eq_some_iff.mp (open_ w)
  simp only [Prod.mk.injEq] at e'
  obtain ⟨h1, h2, h3, h4, h5, h6⟩ := e'
  obtain ⟨x, hx⟩ := cut_at h1 h2
  refine ⟨x, os, ?_⟩
  rw [e, h3, h4, h5, h6, hx]
  kernel_rfl
theorem hl : LeftO pw vw lsX (fun _ => true) obsL goodAll 3960 := fun w => by
  obtain ⟨x, os, o⟩ := opened w
  have z := size w x
  simp only [Prod.mk.injEq] at z
  exact left_at o (top_from z.1 z.2.1 z.2.2 (topRun_mono 2025 _ _ _ _ (run w x os)) (looks1 w x os)) (looks2 w x os) (looks3 w x os)
end
end Mine.Hd

end

open PySem PySem.W PySem.W.X PySem.W.ZRun PyProof.Rows
set_option Elab.async false
set_option maxRecDepth 100000 in
set_option maxHeartbeats 0 in
theorem PySem.Challenge.cw_rs0098_01_holds : PySem.Challenge.rw_rs0098_01.Holds := by
  w_on
  refine holds_law Mine.said fun said => ?_
  refine holds_open (q := Mine.vw) (loose := Mine.lsX) (Xt := fun _ => true) (XP := fun _ _ => True) (Yf := Mine.obsL) (Ya := Mine.goodAll) (YP := Mine.TopGood) (N := 3960) Mine.Hd.hl Mine.top_of Mine.TopGood.keeps (fun _ _ => trivial) (fun _ _ _ _ _ => trivial) (by rfl) (by rfl) (by rfl) (fun s e => recFacts_nil rfl) rfl (by assumption) (by decide +kernel) ⟨rfl, rfl, rfl, rfl, rfl, by decide +kernel⟩ ?hw ?hc
  case hw => w_witness2
  case hc =>
    intro w s₀ s₁ mg mb G YP a o pm cd doc dV kV ho hd hcd hD hmg hg args vals as hpre hlay hrd hwl hlo
    clear ho hd hcd hD
    obtain ⟨K, x, H, I, ⟨fd, F⟩, hm⟩ := YP
    replace hmg := (Mine.law_adr x H.d1 G.T.g (Str.ofString "law")).symm.trans hmg
    rw [hm] at hmg
    cases hmg
    refine Ground.open G ?_
    intro T B D TE TW
    clear G T B D TE TW
    wrow_args hpre hlay hrd hwl hlo
    rename Well _ _ _ _ => W
    rename ¬ _ => hlen
    refine Mine.law_good (P := w.params) H I F x (by omega) W ?_
    intro s' kk
    refine ⟨.inl ⟨_, .bool true, [], rfl, fun cls => ?_, .bool true, ?_, fun _ => ⟨List.nodup_nil, fun a h => nomatch h⟩⟩, .of_keep kk.heap, kk.os, ?_⟩
    · rfl
    · first | kc_post | exact postW_of (by wrow_shape) (by wtm_val) (by rfl)
    · obtain ⟨l, e, hl⟩ := kk.gens
      rw [hg] at e
      rw [e]
      intro y hy
      exact hl y (by simpa using hy)
