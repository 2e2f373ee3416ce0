import PyProof.Rows.All
import Wide.All
import OpenK.AllK
import Wide.FinOn
import PySem.Challenge.RW_pe0128_01
set_option Elab.async false
section
open PySem PySem.W PyProof.Rows
set_option maxRecDepth 100000
set_option maxHeartbeats 8000000
open_top hd for PySem.Challenge.rw_pe0128_01
end
section
open PySem PySem.W PyProof.Rows
set_option maxRecDepth 100000
set_option linter.unusedVariables false
namespace Mine
/-- tokens are only ever added -/
theorem runs_toks {M : Model} {Γ : Ctx} {p : Pos} {t : Sem Fin} {fs : List Frame} {s s' : Shared} {e : End} (h : Runs M Γ p t fs s e s') : s.toks ≤ s'.toks := by
  induction h with
  | done => exact Nat.le_refl _
  | raise => exact Nat.le_refl _
  | yield => exact Nat.le_refl _
  | fresh _ ih => exact Nat.le_trans (Nat.le_succ _) ih
  | call _ _ ih1 ih2 => exact Nat.le_trans ih1 ih2
  | callSusp _ ih => exact ih
  | resumeFresh _ _ _ _ ih1 ih2 => exact Nat.le_trans ih1 ih2
  | resumeSuspended _ _ _ _ ih1 ih2 => exact Nat.le_trans ih1 ih2
  | segRet _ _ ih1 ih2 => exact Nat.le_trans ih1 ih2
  | segGen _ _ ih1 ih2 => exact Nat.le_trans ih1 ih2
  | segSuspOut _ _ ih => exact ih
  | segSuspGen _ _ _ _ ih1 ih2 => exact Nat.le_trans ih1 ih2
  | again _ _ ih => exact ih
  | rule _ ih => exact ih
  | «at» _ ih => exact ih
  | load _ _ ih => exact ih
  | update _ _ ih => exact ih
  | loadIfAlive _ ih => exact ih
  | point _ ih => exact ih
  | alloc _ ih => exact ih
  | ask _ ih => exact ih
  | choose _ _ ih => exact ih
  | os _ ih => exact ih
  | handled _ ih => exact ih
  | genState _ _ ih => exact ih
  | stack _ ih => exact ih
  | thread _ ih => exact ih
  | newGen _ ih => exact ih
  | resumeJustStarted _ _ _ ih => exact ih
  | resumeThrowFresh _ _ ih => exact ih
  | resumeRunning _ _ ih => exact ih
  | resumeFinished _ _ ih => exact ih
theorem wakes_toks {M : Model} {Γ : Ctx} {p : Pos} {g : Nat} {r : Resume} {s s' : Shared} {res : GenResult} (h : Wakes M Γ p g r s res s') : s.toks ≤ s'.toks := by
  unfold Wakes at h
  split at h
  · exact h.elim
  · split at h
    · obtain ⟨e₁, s₁, h1, _, _, rfl⟩ := h; have z := runs_toks h1; exact z
    · rw [h.2]; exact Nat.le_refl _
    · rw [h.2]; exact Nat.le_refl _
  · obtain ⟨e₁, s₁, h1, _, _, rfl⟩ := h; have z := runs_toks h1; exact z
  · rw [h.2]; exact Nat.le_refl _
  · rw [h.2]; exact Nat.le_refl _
theorem wp_toks {α : Type} {M : Model} {Γ : Ctx} (t : Sem α) (n : Nat) (Q : α → Pos → Shared → Prop) (E : Value → Pos → Shared → Prop) (p : Pos) (s : Shared) (hn : n ≤ s.toks)
    (h : Sem.wp M Γ t (fun a p' s' => n ≤ s'.toks → Q a p' s') E p s) : Sem.wp M Γ t Q E p s := by
  induction t generalizing p s with
  | pure a => exact h hn
  | raise e => exact h
  | unsupported | finish | yield | fork | await | register => exact h
  | rule tag k ih => exact ih _ _ _ hn h
  | «at» p' k ih => exact ih _ _ _ hn h
  | load a part k ih => obtain ⟨o, ho, h⟩ := h; exact ⟨o, ho, ih _ _ _ hn h⟩
  | loadIfAlive a k ih => exact ih _ _ _ hn h
  | point l k ih => exact ih _ _ _ hn h
  | update a part f k ih => exact ⟨h.1, ih _ _ _ hn h.2⟩
  | alloc o k ih => exact ih _ _ _ hn h
  | fresh k ih => exact ih _ _ _ (Nat.le_trans hn (Nat.le_succ _)) h
  | ask k ih => exact ih _ _ _ hn h
  | choose src n k ih => exact ⟨h.1, ih _ _ _ hn h.2⟩
  | os q l k ih => exact ih _ _ _ hn h
  | call c hh g l k ih => obtain ⟨r, s1, h1, h2⟩ := h; exact ⟨r, s1, h1, ih _ _ _ (Nat.le_trans hn (runs_toks h1)) h2⟩
  | genState g k ih => obtain ⟨st, h1, h2⟩ := h; exact ⟨st, h1, ih _ _ _ hn h2⟩
  | handled own k ih => exact ih _ _ _ hn h
  | newGen c k ih => exact ih _ _ _ hn h
  | resume g r l k ih => obtain ⟨res, s1, h1, h2⟩ := h; exact ⟨res, s1, h1, ih _ _ _ (Nat.le_trans hn (wakes_toks h1)) h2⟩
  | stack k ih => exact ih _ _ _ hn h
  | thread k ih => exact ih _ _ _ hn h
theorem toks_up {α : Type} {M : Model} {A : Around} {t : Sem α} {Q : α → Shared → Prop} {E : Value → Shared → Prop} {s : Shared} (h : wpAny M A t (fun a s' => s.toks ≤ s'.toks → Q a s') E s) : wpAny M A t Q E s :=
  fun Γ p hΓ => wp_toks t s.toks _ _ p s (Nat.le_refl _) (h Γ p hΓ)
end Mine
end
section
open PySem PySem.W PySem.Calls PyProof.Rows
set_option maxRecDepth 100000
set_option linter.unusedVariables false
namespace Mine

inductive PV where
  | none
  | bool (b : Bool)
  | int (i : Int)
  | flt (x : UInt64)
  | str (s : Str)
  | tup (l : List PV)
  | lst (n : Nat)
  | ref (a : Addr)
  | bi (id : String)
  | ty (n : String)
  | rng (a b c : Int)
  deriving Inhabited

abbrev LS := List (List PV)
abbrev Loc := List (Str × PV)

/-- what is noted aside: where the lists lie, which float a token stands for -/
structure Gh where
  l : List Addr
  τ : Tok → Option UInt64
def Gh.add (am : Gh) (D : Addr) : Gh := ⟨am.l ++ [D], am.τ⟩
def Gh.tok (am : Gh) (t : Tok) (x : UInt64) : Gh := ⟨am.l, fun u => if u = t then some x else am.τ u⟩
structure Pre (am am' : Gh) : Prop where
  l : am.l <+: am'.l
  τ : ∀ t x, am.τ t = some x → am'.τ t = some x
theorem Pre.refl (am : Gh) : Pre am am := ⟨List.prefix_refl _, fun _ _ e => e⟩
theorem Pre.trans {a b c : Gh} (x : Pre a b) (y : Pre b c) : Pre a c := ⟨x.l.trans y.l, fun t v e => y.τ t v (x.τ t v e)⟩
theorem Pre.add (am : Gh) (D : Addr) : Pre am (am.add D) := ⟨⟨_, rfl⟩, fun _ _ e => e⟩
theorem Pre.tok (am : Gh) (t : Tok) (x : UInt64) (h : am.τ t = none) : Pre am (am.tok t x) := ⟨List.prefix_refl _, fun u y e => by
  by_cases q : u = t
  · subst q; rw [h] at e; cases e
  · show (if u = t then some x else am.τ u) = _
    rw [if_neg q]; exact e⟩
theorem Gh.tok_self (am : Gh) (t : Tok) (x : UInt64) : (am.tok t x).τ t = some x := by show (if t = t then some x else am.τ t) = _; rw [if_pos rfl]

mutual
inductive RV (am : Gh) (h : Heap) : PV → Value → Prop where
  | none : RV am h .none .none
  | bool (b : Bool) : RV am h (.bool b) (.bool b)
  | int (i : Int) (t : Tok) : RV am h (.int i) (.int i t)
  | flt (x : UInt64) (t : Tok) : am.τ t = some x → RV am h (.flt x) (.float x t)
  | str (s : Str) (t : Tok) : RV am h (.str s) (.str s t)
  | tup {l : List PV} {a : Addr} {vs : List Value} : h.IsTuple a vs.toArray → RVs am h l vs → RV am h (.tup l) (.ref a)
  | lst {n : Nat} {a : Addr} : am.l[n]? = some a → RV am h (.lst n) (.ref a)
  | ref (a : Addr) : RV am h (.ref a) (.ref a)
  | bi (id : String) : RV am h (.bi id) (.builtin id)
  | ty (n : String) : RV am h (.ty n) (.type n)
  | rng {a b c : Int} {x : Addr} {t u v : Tok} : IsRange h x a b c t u v → RV am h (.rng a b c) (.ref x)
inductive RVs (am : Gh) (h : Heap) : List PV → List Value → Prop where
  | nil : RVs am h [] []
  | cons {p : PV} {ps : List PV} {v : Value} {vs : List Value} : RV am h p v → RVs am h ps vs → RVs am h (p :: ps) (v :: vs)
end

/-- a list's object -/
def IsLst (o : Obj) : Prop := o.cls = .type "list" ∧ ∃ xs n, o.data = .seq xs n

/-- all that is no list stands as it stood -/
def Gr (h h' : Heap) : Prop := ∀ b o, h.get? b = some o → ¬ IsLst o → h'.get? b = some o
theorem Gr.refl (h : Heap) : Gr h h := fun _ _ e _ => e
theorem Gr.trans {a b c : Heap} (x : Gr a b) (y : Gr b c) : Gr a c := fun d o e n => y d o (x d o e n) n
theorem Gr.of_keeps {h h' : Heap} (k : ∀ b o, h.get? b = some o → h'.get? b = some o) : Gr h h' := fun b o e _ => k b o e
theorem Gr.push (h : Heap) (o : Obj) : Gr h (h.push o) := fun _ _ e _ => Heap.get?_push_of_some _ e

theorem isCell_gr {h h' : Heap} {a : Addr} {v : Option Value} (x : h.IsCell a v) (g : Gr h h') : h'.IsCell a v := by
  obtain ⟨o, ho, hd⟩ := x
  refine ⟨o, g a o ho (fun y => ?_), hd⟩
  obtain ⟨xs, n, e⟩ := y.2
  rw [hd] at e; cases e
theorem ns_gr {h h' : Heap} {a : Addr} {m : Str → Option Value} (x : h.Ns a m) (g : Gr h h') : h'.Ns a m := by
  obtain ⟨o, es, ep, ho, hd, r⟩ := x
  refine ⟨o, es, ep, g a o ho (fun y => ?_), hd, r⟩
  obtain ⟨xs, n, e⟩ := y.2
  rw [hd] at e; cases e

theorem prefix_get {am am' : Gh} (p : Pre am am') {n : Nat} {a : Addr} (h : am.l[n]? = some a) : am'.l[n]? = some a := by
  obtain ⟨am, _⟩ := am
  obtain ⟨am', _⟩ := am'
  obtain ⟨⟨t, ht⟩, _⟩ := p
  have ht : am ++ t = am' := ht
  subst ht
  rw [List.getElem?_append_left (List.getElem?_eq_some_iff.mp h).1]; exact h

/-- the values' own objects -/
def Val (o : Obj) : Prop := (o.cls = .type "tuple" ∧ ∃ xs n, o.data = .seq xs n) ∨ (o.cls = .type "range" ∧ ∃ vs, o.data = .fields vs)
def GrV (h h' : Heap) : Prop := ∀ b o, h.get? b = some o → Val o → h'.get? b = some o
theorem Gr.v {h h' : Heap} (g : Gr h h') : GrV h h' := fun b o e v => g b o e fun l => by
  rcases v with ⟨c, _⟩ | ⟨c, _⟩ <;> (have := l.1; rw [c] at this; exact absurd this (by decide))
/-- what a value stands for holds on: the floats' tokens, the values' own objects, and the lists that S speaks of -/
theorem RV.gen {am am' : Gh} {h h' : Heap} (hτ : ∀ t x, am.τ t = some x → am'.τ t = some x) (g : GrV h h') (S : PV → Prop) (hl : ∀ n a, S (.lst n) → am.l[n]? = some a → am'.l[n]? = some a) (hS : ∀ l, S (.tup l) → ∀ x ∈ l, S x) {p : PV} {v : Value} (r : RV am h p v) : S p → RV am' h' p v :=
  RV.rec (motive_1 := fun p v _ => S p → RV am' h' p v) (motive_2 := fun ps vs _ => (∀ x ∈ ps, S x) → RVs am' h' ps vs)
    (fun _ => .none) (fun b _ => .bool b) (fun i t _ => .int i t) (fun x t e _ => .flt x t (hτ t x e)) (fun x t _ => .str x t)
    (fun ht _ ih s => .tup (by
      obtain ⟨o, ho, hc, n, hd⟩ := ht
      exact ⟨o, g _ o ho (.inl ⟨hc, _, n, hd⟩), hc, n, hd⟩) (ih (hS _ s)))
    (fun e s => .lst (hl _ _ s e)) (fun a _ => .ref a) (fun a _ => .bi a) (fun a _ => .ty a) (fun hr _ => .rng (g _ _ hr (.inr ⟨rfl, _, rfl⟩)))
    (fun _ => .nil) (fun _ _ ih1 ih2 s => .cons (ih1 (s _ (List.mem_cons_self ..))) (ih2 fun x hx => s x (List.mem_cons_of_mem _ hx))) r
theorem RVs.gen {am am' : Gh} {h h' : Heap} (hτ : ∀ t x, am.τ t = some x → am'.τ t = some x) (g : GrV h h') (S : PV → Prop) (hl : ∀ n a, S (.lst n) → am.l[n]? = some a → am'.l[n]? = some a) (hS : ∀ l, S (.tup l) → ∀ x ∈ l, S x) {ps : List PV} {vs : List Value} (r : RVs am h ps vs) : (∀ x ∈ ps, S x) → RVs am' h' ps vs :=
  RVs.rec (motive_1 := fun _ _ _ => True) (motive_2 := fun ps vs _ => (∀ x ∈ ps, S x) → RVs am' h' ps vs)
    trivial (fun _ => trivial) (fun _ _ => trivial) (fun _ _ _ => trivial) (fun _ _ => trivial) (fun _ _ _ => trivial) (fun _ => trivial) (fun _ => trivial) (fun _ => trivial) (fun _ => trivial) (fun _ => trivial)
    (fun _ => .nil) (fun a _ _ ih s => .cons (a.gen hτ g S hl hS (s _ (List.mem_cons_self ..))) (ih fun x hx => s x (List.mem_cons_of_mem _ hx))) r
theorem RV.monoV {am am' : Gh} {h h' : Heap} (p : Pre am am') (g : GrV h h') {x : PV} {v : Value} (r : RV am h x v) : RV am' h' x v := r.gen p.τ g (fun _ => True) (fun _ _ _ e => prefix_get p e) (fun _ _ _ _ => trivial) trivial
theorem RVs.monoV {am am' : Gh} {h h' : Heap} (p : Pre am am') (g : GrV h h') {xs : List PV} {vs : List Value} (r : RVs am h xs vs) : RVs am' h' xs vs := r.gen p.τ g (fun _ => True) (fun _ _ _ e => prefix_get p e) (fun _ _ _ _ => trivial) fun _ _ => trivial
theorem RV.mono {am am' : Gh} {h h' : Heap} (p : Pre am am') (g : Gr h h') {x : PV} {v : Value} (r : RV am h x v) : RV am' h' x v := r.monoV p g.v
theorem RVs.mono {am am' : Gh} {h h' : Heap} (p : Pre am am') (g : Gr h h') {xs : List PV} {vs : List Value} (r : RVs am h xs vs) : RVs am' h' xs vs := r.monoV p g.v
theorem RVs.ind {am : Gh} {h : Heap} {P : List PV → List Value → Prop} (h0 : P [] []) (h1 : ∀ p v ps vs, RV am h p v → RVs am h ps vs → P ps vs → P (p :: ps) (v :: vs)) {ps : List PV} {vs : List Value} (r : RVs am h ps vs) : P ps vs :=
  RVs.rec (motive_1 := fun _ _ _ => True) (motive_2 := fun ps vs _ => P ps vs)
    trivial (fun _ => trivial) (fun _ _ => trivial) (fun _ _ _ => trivial) (fun _ _ => trivial) (fun _ _ _ => trivial) (fun _ => trivial) (fun _ => trivial) (fun _ => trivial) (fun _ => trivial) (fun _ => trivial)
    h0 (fun a b _ ih => h1 _ _ _ _ a b ih) r
theorem RVs.length {am : Gh} {h : Heap} {xs : List PV} {vs : List Value} (r : RVs am h xs vs) : vs.length = xs.length :=
  r.ind (P := fun xs vs => vs.length = xs.length) rfl fun _ _ _ _ _ _ ih => congrArg (· + 1) ih
theorem RVs.get {am : Gh} {h : Heap} {xs : List PV} {vs : List Value} (r : RVs am h xs vs) : ∀ {i : Nat} {p : PV}, xs[i]? = some p → ∃ v, vs[i]? = some v ∧ RV am h p v :=
  fun {i p} => r.ind (P := fun xs vs => ∀ i p, xs[i]? = some p → ∃ v, vs[i]? = some v ∧ RV am h p v) (fun i p e => by simp at e) (fun _ v _ _ a _ ih i p e => by
    cases i with
    | zero => exact ⟨v, rfl, Option.some.inj e ▸ a⟩
    | succ i => exact ih i p e) i p
theorem RVs.append {am : Gh} {h : Heap} {xs ys : List PV} {vs ws : List Value} (r : RVs am h xs vs) (y : RVs am h ys ws) : RVs am h (xs ++ ys) (vs ++ ws) :=
  r.ind (P := fun xs vs => RVs am h (xs ++ ys) (vs ++ ws)) y fun _ _ _ _ a _ ih => .cons a ih
theorem RVs.take {am : Gh} {h : Heap} {xs : List PV} {vs : List Value} (r : RVs am h xs vs) : ∀ n, RVs am h (xs.take n) (vs.take n) :=
  r.ind (P := fun xs vs => ∀ n, RVs am h (xs.take n) (vs.take n)) (fun n => by rw [List.take_nil, List.take_nil]; exact .nil) fun _ _ _ _ a _ ih n => by
    cases n with
    | zero => exact .nil
    | succ n => exact .cons a (ih n)
theorem RVs.drop {am : Gh} {h : Heap} {xs : List PV} {vs : List Value} (r : RVs am h xs vs) : ∀ n, RVs am h (xs.drop n) (vs.drop n) :=
  r.ind (P := fun xs vs => ∀ n, RVs am h (xs.drop n) (vs.drop n)) (fun n => by rw [List.drop_nil, List.drop_nil]; exact .nil) fun _ _ _ _ a b ih n => by
    cases n with
    | zero => exact .cons a b
    | succ n => exact ih n

/-- what is fixed: the program, the world, the heap at the law's start, its globals and built-ins -/
structure Cx where
  prog : Program
  w : World
  hb : Heap
  mg : Str → Option Value
  mb : Str → Option Value
structure Cx.Ok (C : Cx) : Prop where
  lim : C.hb.NoLimit
  g : C.hb.Ns mainGlobals C.mg
  b : C.hb.Ns builtinsNs C.mb
  bk : NoneBooked C.hb

structure Rep (C : Cx) (am : Gh) (ls : LS) (h : Heap) (tk : Nat) : Prop where
  pos : 0 < tk
  tks : ∀ t x, am.τ t = some x → 0 < t ∧ t < tk
  old : ∀ b o, C.hb.get? b = some o → h.get? b = some o
  len : am.l.length = ls.length
  nd : am.l.Nodup
  new : ∀ a ∈ am.l, C.hb.get? a = none
  its : ∀ {i : Nat} {a : Addr} {l : List PV}, am.l[i]? = some a → ls[i]? = some l → ∃ vs, h.PlainList a vs.toArray ∧ RVs am h l vs

/-- nothing of the lists is turned -/
theorem Rep.keeps {C : Cx} {tk : Nat} {am : Gh} {ls : LS} {h h' : Heap} (R : Rep C am ls h tk) (k : ∀ b o, h.get? b = some o → h'.get? b = some o) : Rep C am ls h' tk where
  pos := R.pos
  tks := R.tks
  old := fun b o e => k b o (R.old b o e)
  len := R.len
  nd := R.nd
  new := R.new
  its := fun ha hl => by
    obtain ⟨vs, ⟨n, ho⟩, q⟩ := R.its ha hl
    exact ⟨vs, ⟨n, k _ _ ho⟩, RVs.mono (Pre.refl _) (Gr.of_keeps k) q⟩
/-- objects that are neither lists of ours nor of the base nor values' own are turned -/
theorem Rep.change {C : Cx} {tk : Nat} {am : Gh} {ls : LS} {h h' : Heap} {X : Addr → Prop} (R : Rep C am ls h tk) (k : ∀ b o, ¬ X b → h.get? b = some o → h'.get? b = some o) (hL : ∀ b, X b → C.hb.get? b = none) (hn : ∀ b, X b → b ∉ am.l)
    (ht : ∀ b o, X b → h.get? b = some o → ¬ Val o) : Rep C am ls h' tk := by
  have g : GrV h h' := fun b o e v => k b o (fun x => ht b o x e v) e
  refine ⟨R.pos, R.tks, fun b o e => k b o (fun q => by rw [hL b q] at e; cases e) (R.old b o e), R.len, R.nd, R.new, fun {i a l} ha hl => ?_⟩
  obtain ⟨vs, ⟨n, ho⟩, q⟩ := R.its ha hl
  exact ⟨vs, ⟨n, k _ _ (fun e => hn a e (List.mem_of_getElem? ha)) ho⟩, q.monoV (Pre.refl _) g⟩
theorem isLst_of {h : Heap} {a : Addr} {xs : Array Value} {o : Obj} (x : h.PlainList a xs) (e : h.get? a = some o) : IsLst o := by
  obtain ⟨n, q⟩ := x
  rw [e] at q; cases q
  exact ⟨rfl, _, _, rfl⟩
/-- a list is changed -/
theorem Rep.put {C : Cx} {tk : Nat} {am : Gh} {ls : LS} {h h' : Heap} (R : Rep C am ls h tk) {n : Nat} {a : Addr} {l l' : List PV} {vs' : List Value} (ha : am.l[n]? = some a) (hn : ls[n]? = some l) (hs : ∀ b, b ≠ a → h'.get? b = h.get? b) (hl : h'.PlainList a vs'.toArray) (hv : RVs am h l' vs') : Rep C am (ls.set n l') h' tk ∧ Gr h h' := by
  obtain ⟨vs₀, hp₀, _⟩ := R.its ha hn
  have g : Gr h h' := fun b o e k => by
    by_cases q : b = a
    · subst q; exact absurd (isLst_of hp₀ e) k
    · rw [hs b q]; exact e
  refine ⟨⟨R.pos, R.tks, fun b o e => ?_, by rw [List.length_set]; exact R.len, R.nd, R.new, fun {i b m} hb hm => ?_⟩, g⟩
  · have : b ≠ a := fun q => by have := R.new a (List.mem_of_getElem? ha); rw [← q, e] at this; cases this
    rw [hs b this]; exact R.old b o e
  · by_cases q : i = n
    · subst q
      rw [ha] at hb; cases hb
      rw [List.getElem?_set_self (by exact (List.getElem?_eq_some_iff.mp hn).1)] at hm
      cases hm
      exact ⟨vs', hl, RVs.mono (Pre.refl _) g hv⟩
    · rw [List.getElem?_set_ne (Ne.symm q)] at hm
      obtain ⟨vs, ⟨k, hp⟩, hr⟩ := R.its hb hm
      have hne : b ≠ a := fun e => by
        subst e
        obtain ⟨h1, e1⟩ := List.getElem?_eq_some_iff.mp hb
        obtain ⟨h2, e2⟩ := List.getElem?_eq_some_iff.mp ha
        exact q ((List.getElem_inj R.nd).mp (e1.trans e2.symm))
      exact ⟨vs, ⟨k, by rw [hs b hne]; exact hp⟩, RVs.mono (Pre.refl _) g hr⟩
/-- a list is new -/
theorem Rep.more {C : Cx} {tk : Nat} {am : Gh} {ls : LS} {h h' : Heap} (R : Rep C am ls h tk) {D : Addr} {l : List PV} {vs : List Value} (hD : h.get? D = none) (k : ∀ b o, h.get? b = some o → h'.get? b = some o) (hl : h'.PlainList D vs.toArray) (hv : RVs am h l vs) : Rep C (am.add (D)) (ls ++ [l]) h' tk := by
  have g := Gr.of_keeps k
  have pf : Pre am (am.add D) := Pre.add am D
  refine ⟨R.pos, R.tks, fun b o e => k b o (R.old b o e), by show (am.l ++ [D]).length = _; simp [R.len], ?_, fun a ha => ?_, fun {i a m} ha hm => ?_⟩
  · refine List.nodup_append.mpr ⟨R.nd, by simp, fun a ha b hb e => ?_⟩
    have : b = D := by simpa using hb
    subst this; subst e
    obtain ⟨i, hi, e⟩ := List.getElem_of_mem ha
    have hi' : i < ls.length := by rw [← R.len]; exact hi
    obtain ⟨vs, ⟨_, hp⟩, _⟩ := R.its (i := i) (a := a) (l := ls[i]) (by simp [hi, e]) (by simp [hi'])
    rw [hD] at hp; cases hp
  · have ha : a ∈ am.l ++ [D] := ha
    rcases List.mem_append.mp ha with h1 | h1
    · exact R.new a h1
    · have : a = D := by simpa using h1
      subst this
      cases e : C.hb.get? a with
      | none => rfl
      | some o => rw [R.old a o e] at hD; cases hD
  · have ha : (am.l ++ [D])[i]? = some a := ha
    by_cases q : i < am.l.length
    · rw [List.getElem?_append_left q] at ha
      rw [List.getElem?_append_left (by rw [← R.len]; exact q)] at hm
      obtain ⟨vs, ⟨n, hp⟩, hr⟩ := R.its ha hm
      exact ⟨vs, ⟨n, k _ _ hp⟩, RVs.mono pf g hr⟩
    · have hi : i < (am.l ++ [D]).length := (List.getElem?_eq_some_iff.mp ha).1
      have : i = am.l.length := by simp at hi; lia
      subst this
      rw [List.getElem?_append_right (Nat.le_refl _)] at ha
      rw [R.len, List.getElem?_append_right (Nat.le_refl _)] at hm
      simp at ha hm
      subst ha hm
      exact ⟨vs, hl, RVs.mono pf g hv⟩
theorem Rep.up {C : Cx} {tk tk' : Nat} {am : Gh} {ls : LS} {h : Heap} (R : Rep C am ls h tk) (e : tk ≤ tk') : Rep C am ls h tk' := ⟨Nat.lt_of_lt_of_le R.pos e, fun t x z => ⟨(R.tks t x z).1, Nat.lt_of_lt_of_le (R.tks t x z).2 e⟩, R.old, R.len, R.nd, R.new, R.its⟩
/-- a new float -/
theorem Rep.free {C : Cx} {tk : Nat} {am : Gh} {ls : LS} {h : Heap} (R : Rep C am ls h tk) : am.τ tk = none := by
  cases e : am.τ tk with
  | none => rfl
  | some x => exact absurd (R.tks tk x e).2 (Nat.lt_irrefl _)
theorem Rep.tok {C : Cx} {tk : Nat} {am : Gh} {ls : LS} {h : Heap} (R : Rep C am ls h tk) (x : UInt64) : Rep C (am.tok tk x) ls h (tk + 1) :=
  ⟨Nat.succ_pos _, fun t y z => by
    by_cases q : t = tk
    · rw [q]; exact ⟨R.pos, Nat.lt_succ_self _⟩
    · have z' : (if t = tk then some x else am.τ t) = some y := z
      rw [if_neg q] at z'
      exact ⟨(R.tks t y z').1, Nat.lt_succ_of_lt (R.tks t y z').2⟩, R.old, R.len, R.nd, R.new, fun {i a l} ha hl => by
    obtain ⟨vs, h1, h2⟩ := R.its (i := i) (a := a) (l := l) ha hl
    exact ⟨vs, h1, h2.mono (Pre.tok am tk x R.free) (Gr.refl _)⟩⟩
theorem Rep.last {C : Cx} {tk : Nat} {am : Gh} {ls : LS} {h : Heap} (R : Rep C am ls h tk) (D : Addr) : (am.add D).l[ls.length]? = some D := by rw [← R.len]; show (am.l ++ [D])[am.l.length]? = some D; simp
structure Room (A : Around) (d : Nat) : Prop where
  hand : A.handled = none
  depth : A.depth + d < recursionLimit
  units : A.units + 16 * d + 64 < cLine

/-- the frame's names -/
structure Fm (C : Cx) (env : Env) (am : Gh) (h : Heap) (ρ : Loc) : Prop where
  kind : env.scope.kind = .function
  gl : env.globals = mainGlobals
  bl : env.builtins = builtinsNs
  fr : C.hb.get? env.locals = none
  frc : ∀ x c, env.cells.lookup x = some c → C.hb.get? c = none
  ns : ∃ m, h.Ns env.locals m ∧ ∀ x p, ρ.lookup x = some p → env.kindOf x = some .local → ∃ v, m x = some v ∧ RV am h p v
  cel : ∀ x p, ρ.lookup x = some p → env.kindOf x ≠ some .local → ∃ c v, env.cells.lookup x = some c ∧ h.IsCell c (some v) ∧ RV am h p v
  all : ∀ x c, env.cells.lookup x = some c → ∃ ov, h.IsCell c ov
  apart : ∀ x y c, env.cells.lookup x = some c → env.cells.lookup y = some c → x = y

theorem Fm.mono {C : Cx} {env : Env} {am am' : Gh} {h h' : Heap} {ρ : Loc} (F : Fm C env am h ρ) (p : Pre am am') (g : Gr h h') : Fm C env am' h' ρ where
  kind := F.kind
  gl := F.gl
  bl := F.bl
  fr := F.fr
  frc := F.frc
  ns := by
    obtain ⟨m, hn, hm⟩ := F.ns
    refine ⟨m, ns_gr hn g, fun x q e k => ?_⟩
    obtain ⟨v, hv, r⟩ := hm x q e k
    exact ⟨v, hv, r.mono p g⟩
  cel := fun x q e k => by
    obtain ⟨c, v, hc, hv, r⟩ := F.cel x q e k
    exact ⟨c, v, hc, isCell_gr hv g, r.mono p g⟩
  all := fun x c e => let ⟨ov, h⟩ := F.all x c e; ⟨ov, isCell_gr h g⟩
  apart := F.apart
/-- the frame's own: its names, the cells that it has laid (behind its names) -/
def ownOf (env : Env) (b : Addr) : Prop := b = env.locals ∨ (env.locals < b ∧ ∃ x, env.cells.lookup x = some b)
/-- all that is neither a list nor of this frame stands as it stood -/
def GrS (env : Env) (h h' : Heap) : Prop := ∀ b o, h.get? b = some o → ¬ IsLst o → ¬ ownOf env b → h'.get? b = some o
theorem GrS.refl (env : Env) (h : Heap) : GrS env h h := fun _ _ e _ _ => e
theorem GrS.trans {env : Env} {a b c : Heap} (x : GrS env a b) (y : GrS env b c) : GrS env a c := fun d o e n l => y d o (x d o e n l) n l
theorem Gr.s {env : Env} {h h' : Heap} (g : Gr h h') : GrS env h h' := fun b o e n _ => g b o e n

inductive PF where
  | next
  | ret (p : PV)
inductive RF (am : Gh) (h : Heap) : PF → Flow → Prop where
  | next : RF am h .next .next
  | ret {p : PV} {v : Value} : RV am h p v → RF am h (.ret p) (.ret v)

def ETo (C : Cx) (env : Env) (d : Nat) (t : Sem Value) (ρ : Loc) (ls : LS) (p : PV) (ls' : LS) : Prop :=
  ∀ (A : Around) (s : Shared) (am : Gh) (Q : Value → Shared → Prop) (E : Value → Shared → Prop), Room A d → Rep C am ls s.heap s.toks → Fm C env am s.heap ρ →
    (∀ v h' tk am', Pre am am' → Gr s.heap h' → Rep C am' ls' h' tk → RV am' h' p v → Q v { s with heap := h', toks := tk }) →
    wpAny (model C.prog C.w) A t Q E s
def BTo (C : Cx) (env : Env) (d : Nat) (t : Sem Bool) (ρ : Loc) (ls : LS) (b : Bool) (ls' : LS) : Prop :=
  ∀ (A : Around) (s : Shared) (am : Gh) (Q : Bool → Shared → Prop) (E : Value → Shared → Prop), Room A d → Rep C am ls s.heap s.toks → Fm C env am s.heap ρ →
    (∀ h' tk am', Pre am am' → Gr s.heap h' → Rep C am' ls' h' tk → Q b { s with heap := h', toks := tk }) →
    wpAny (model C.prog C.w) A t Q E s
def LTo (C : Cx) (env : Env) (d : Nat) (t : Sem (List Value)) (ρ : Loc) (ls : LS) (ps : List PV) (ls' : LS) : Prop :=
  ∀ (A : Around) (s : Shared) (am : Gh) (Q : List Value → Shared → Prop) (E : Value → Shared → Prop), Room A d → Rep C am ls s.heap s.toks → Fm C env am s.heap ρ →
    (∀ vs h' tk am', Pre am am' → Gr s.heap h' → Rep C am' ls' h' tk → RVs am' h' ps vs → Q vs { s with heap := h', toks := tk }) →
    wpAny (model C.prog C.w) A t Q E s
/-- a tree over one value at hand, over two, over several -/
def V1To (C : Cx) (d : Nat) (p : PV) (t : Value → Sem Value) (ls : LS) (r : PV) (ls' : LS) : Prop :=
  ∀ (A : Around) (s : Shared) (am : Gh) (a : Value) (Q : Value → Shared → Prop) (E : Value → Shared → Prop), Room A d → Rep C am ls s.heap s.toks → RV am s.heap p a →
    (∀ v h' tk am', Pre am am' → Gr s.heap h' → Rep C am' ls' h' tk → RV am' h' r v → Q v { s with heap := h', toks := tk }) →
    wpAny (model C.prog C.w) A (t a) Q E s
def V2To (C : Cx) (d : Nat) (p q : PV) (t : Value → Value → Sem Value) (ls : LS) (r : PV) (ls' : LS) : Prop :=
  ∀ (A : Around) (s : Shared) (am : Gh) (a b : Value) (Q : Value → Shared → Prop) (E : Value → Shared → Prop), Room A d → Rep C am ls s.heap s.toks → RV am s.heap p a → RV am s.heap q b →
    (∀ v h' tk am', Pre am am' → Gr s.heap h' → Rep C am' ls' h' tk → RV am' h' r v → Q v { s with heap := h', toks := tk }) →
    wpAny (model C.prog C.w) A (t a b) Q E s
/-- a call: the callee, what is handed by place and by name -/
inductive RKs (am : Gh) (h : Heap) : List (Str × PV) → List (Str × Value) → Prop where
  | nil : RKs am h [] []
  | cons {x : Str} {p : PV} {v : Value} {ps : List (Str × PV)} {vs : List (Str × Value)} : RV am h p v → RKs am h ps vs → RKs am h ((x, p) :: ps) ((x, v) :: vs)
def CTo (C : Cx) (d : Nat) (f : Value) (ps : List PV) (ks : List (Str × PV)) (ls : LS) (r : PV) (ls' : LS) : Prop :=
  ∀ (A : Around) (s : Shared) (am : Gh) (vs : List Value) (kv : List (Str × Value)) (Q : Value → Shared → Prop) (E : Value → Shared → Prop), Room A d → Rep C am ls s.heap s.toks → RVs am s.heap ps vs → RKs am s.heap ks kv →
    (∀ v h' tk am', Pre am am' → Gr s.heap h' → Rep C am' ls' h' tk → RV am' h' r v → Q v { s with heap := h', toks := tk }) →
    wpAny (model C.prog C.w) A (call f vs kv) Q E s
def XTo (C : Cx) (env : Env) (d : Nat) (t : Sem Flow) (ρ : Loc) (ls : LS) (f : PF) (ρ' : Loc) (ls' : LS) : Prop :=
  ∀ (A : Around) (s : Shared) (am : Gh) (Q : Flow → Shared → Prop) (E : Value → Shared → Prop), Room A d → Rep C am ls s.heap s.toks → Fm C env am s.heap ρ →
    (∀ fl h' tk am', Pre am am' → GrS env s.heap h' → Rep C am' ls' h' tk → Fm C env am' h' ρ' → RF am' h' f fl → Q fl { s with heap := h', toks := tk }) →
    wpAny (model C.prog C.w) A t Q E s

theorem ETo.of {C : Cx} {env : Env} {d : Nat} {t : Sem Value} {ρ : Loc} {ls : LS} {p : PV} {ls' : LS}
    (h : ∀ (A : Around) (s : Shared) (am : Gh) (Q : Value → Shared → Prop) (E : Value → Shared → Prop), Room A d → Rep C am ls s.heap s.toks → Fm C env am s.heap ρ →
      (∀ v h' tk am', Pre am am' → Gr s.heap h' → Rep C am' ls' h' s.toks → RV am' h' p v → Q v { s with heap := h', toks := tk }) → wpAny (model C.prog C.w) A t Q E s) : ETo C env d t ρ ls p ls' :=
  fun A s am Q E hr R F K => toks_up (h A s am _ E hr R F fun v h' tk am' p g R' hv hle => K v h' tk am' p g (R'.up hle) hv)
theorem V1To.of {C : Cx} {d : Nat} {p : PV} {t : Value → Sem Value} {ls : LS} {r : PV} {ls' : LS}
    (h : ∀ (A : Around) (s : Shared) (am : Gh) (a : Value) (Q : Value → Shared → Prop) (E : Value → Shared → Prop), Room A d → Rep C am ls s.heap s.toks → RV am s.heap p a →
      (∀ v h' tk am', Pre am am' → Gr s.heap h' → Rep C am' ls' h' s.toks → RV am' h' r v → Q v { s with heap := h', toks := tk }) → wpAny (model C.prog C.w) A (t a) Q E s) : V1To C d p t ls r ls' :=
  fun A s am a Q E hr R ha K => toks_up (h A s am a _ E hr R ha fun v h' tk am' p g R' hv hle => K v h' tk am' p g (R'.up hle) hv)
theorem V2To.of {C : Cx} {d : Nat} {p q : PV} {t : Value → Value → Sem Value} {ls : LS} {r : PV} {ls' : LS}
    (h : ∀ (A : Around) (s : Shared) (am : Gh) (a b : Value) (Q : Value → Shared → Prop) (E : Value → Shared → Prop), Room A d → Rep C am ls s.heap s.toks → RV am s.heap p a → RV am s.heap q b →
      (∀ v h' tk am', Pre am am' → Gr s.heap h' → Rep C am' ls' h' s.toks → RV am' h' r v → Q v { s with heap := h', toks := tk }) → wpAny (model C.prog C.w) A (t a b) Q E s) : V2To C d p q t ls r ls' :=
  fun A s am a b Q E hr R ha hb K => toks_up (h A s am a b _ E hr R ha hb fun v h' tk am' p g R' hv hle => K v h' tk am' p g (R'.up hle) hv)
theorem CTo.of {C : Cx} {d : Nat} {f : Value} {ps : List PV} {ks : List (Str × PV)} {ls : LS} {r : PV} {ls' : LS}
    (h : ∀ (A : Around) (s : Shared) (am : Gh) (vs : List Value) (kv : List (Str × Value)) (Q : Value → Shared → Prop) (E : Value → Shared → Prop), Room A d → Rep C am ls s.heap s.toks → RVs am s.heap ps vs → RKs am s.heap ks kv →
      (∀ v h' tk am', Pre am am' → Gr s.heap h' → Rep C am' ls' h' s.toks → RV am' h' r v → Q v { s with heap := h', toks := tk }) → wpAny (model C.prog C.w) A (call f vs kv) Q E s) : CTo C d f ps ks ls r ls' :=
  fun A s am vs kv Q E hr R hvs hkv K => toks_up (h A s am vs kv _ E hr R hvs hkv fun v h' tk am' p g R' hv hle => K v h' tk am' p g (R'.up hle) hv)
end Mine
end
section
open PySem PySem.W PySem.Calls PyProof.Rows
set_option maxRecDepth 100000
set_option linter.unusedVariables false
namespace Mine
section
variable {C : Cx} {env : Env} {d : Nat} {ρ : Loc} {ls ls1 ls2 ls3 : LS} {p q r : PV}

/-! constants, names -/
theorem e_int {i : Int} {k : Nat} {pos : Pos} : ETo C env d (eval (.Constant (.int i) k pos) env) ρ ls (.int i) ls :=
  .of fun A s am Q E hr R F K => wpAny_Constant_int (K _ s.heap _ am (Pre.refl _) (Gr.refl _) R (.int _ _))
theorem e_flt {x : UInt64} {k : Nat} {pos : Pos} : ETo C env d (eval (.Constant (.float x) k pos) env) ρ ls (.flt x) ls :=
  fun A s am Q E hr R F K => wpAny_Constant_float (K (.float _ s.toks) s.heap _ (am.tok s.toks _) (Pre.tok _ _ _ R.free) (Gr.refl _) (R.tok _) (.flt _ _ (am.tok_self _ _)))
theorem e_str {x : Str} {k : Nat} {pos : Pos} : ETo C env d (eval (.Constant (.str x) k pos) env) ρ ls (.str x) ls :=
  .of fun A s am Q E hr R F K => wpAny_Constant_str (K _ s.heap _ am (Pre.refl _) (Gr.refl _) R (.str _ _))
theorem e_none {k : Nat} {pos : Pos} : ETo C env d (eval (.Constant .none k pos) env) ρ ls .none ls :=
  .of fun A s am Q E hr R F K => wpAny_Constant_none (K _ s.heap s.toks am (Pre.refl _) (Gr.refl _) R .none)
theorem e_bool {b : Bool} {k : Nat} {pos : Pos} : ETo C env d (eval (.Constant (.bool b) k pos) env) ρ ls (.bool b) ls :=
  .of fun A s am Q E hr R F K => wpAny_Constant_bool (K _ s.heap s.toks am (Pre.refl _) (Gr.refl _) R (.bool b))

theorem e_name {x : Str} {pos : Pos} (hp : ρ.lookup x = some p) (hk : env.kindOf x = some .local) (hd : (x == ("__debug__" : Str)) = false) : ETo C env d (eval (.Name x pos) env) ρ ls p ls :=
  .of fun A s am Q E hr R F K => by
    obtain ⟨m, hn, hm⟩ := F.ns
    obtain ⟨v, hv, hr⟩ := hm x p hp hk
    exact wpAny_Name (wpAny_loadName_local F.kind hk hn hv (K _ s.heap s.toks am (Pre.refl _) (Gr.refl _) R hr)) hd
theorem e_cell {x : Str} {pos : Pos} (hp : ρ.lookup x = some p) (hk : env.kindOf x = some .cell) (hd : (x == ("__debug__" : Str)) = false) : ETo C env d (eval (.Name x pos) env) ρ ls p ls :=
  .of fun A s am Q E hr R F K => by
    obtain ⟨c, v, hc, hv, hr⟩ := F.cel x p hp (by rw [hk]; decide)
    exact wpAny_Name (wpAny_loadName_cell F.kind hk hc hv (K _ s.heap s.toks am (Pre.refl _) (Gr.refl _) R hr)) hd
/-! operators -/
theorem e_bin {l rr : Expr} {op : Operator} {pos : Pos} (hl : ETo C env d (eval l env) ρ ls p ls1) (hr : ETo C env d (eval rr env) ρ ls1 q ls2) (ho : V2To C d p q (binaryOp op) ls2 r ls3) :
    ETo C env d (eval (.BinOp l op rr pos) env) ρ ls r ls3 :=
  fun A s am Q E hroom R F K => wpAny_BinOp (hl A s am _ E hroom R F fun a h1 t1 am1 p1 g1 R1 v1 =>
    hr A _ am1 _ E hroom R1 (F.mono p1 g1) fun b h2 t2 am2 p2 g2 R2 v2 =>
      ho A _ am2 a b Q E hroom R2 (v1.mono p2 g2) v2 fun v h3 t3 am3 p3 g3 R3 v3 => K v h3 t3 am3 (p1.trans (p2.trans p3)) (g1.trans (g2.trans g3)) R3 v3)
theorem b_cmp {l rr : Expr} {op : CmpOp} {pos : Pos} {whole : Sem Value} {b : Bool} (hl : ETo C env d (eval l env) ρ ls p ls1) (hr : ETo C env d (eval rr env) ρ ls1 q ls2) (ho : V2To C d p q (compareOp op) ls2 (.bool b) ls3)
    (hm : behindInMarks op rr = false) : BTo C env d (isTrue (.Compare l [op] [rr] pos) env whole) ρ ls b ls3 :=
  fun A s am Q E hroom R F K => wpAny_isTrue_Compare1 (hl A s am _ E hroom R F fun a h1 t1 am1 p1 g1 R1 v1 =>
    hr A _ am1 _ E hroom R1 (F.mono p1 g1) fun b h2 t2 am2 p2 g2 R2 v2 =>
      ho A _ am2 a b _ E hroom R2 (v1.mono p2 g2) v2 fun v h3 t3 am3 p3 g3 R3 v3 => by
        cases v3
        exact wpAny_truthy_bool (K h3 t3 am3 (p1.trans (p2.trans p3)) (g1.trans (g2.trans g3)) R3)) hm

section
variable {a b : Int} {x y : UInt64} {u v : Str}
theorem o_add_int : V2To C d (.int a) (.int b) (binaryOp .Add) ls (.int (a + b)) ls := .of fun A s am _ _ Q E _ R ha hb K => by
  cases ha; cases hb; exact PyProof.Rows.add_int (K _ s.heap _ am (Pre.refl _) (Gr.refl _) R (.int _ _))
theorem o_sub_int : V2To C d (.int a) (.int b) (binaryOp .Sub) ls (.int (a - b)) ls := .of fun A s am _ _ Q E _ R ha hb K => by
  cases ha; cases hb; exact PyProof.Rows.sub_int (K _ s.heap _ am (Pre.refl _) (Gr.refl _) R (.int _ _))
theorem o_lt_int : V2To C d (.int a) (.int b) (compareOp .Lt) ls (.bool (decide (a < b))) ls := .of fun A s am _ _ Q E _ R ha hb K => by
  cases ha; cases hb; exact PyProof.Rows.lt_int (K _ s.heap s.toks am (Pre.refl _) (Gr.refl _) R (.bool _))
theorem o_gt_int : V2To C d (.int a) (.int b) (compareOp .Gt) ls (.bool (decide (b < a))) ls := .of fun A s am _ _ Q E _ R ha hb K => by
  cases ha; cases hb; exact PyProof.Rows.gt_int (K _ s.heap s.toks am (Pre.refl _) (Gr.refl _) R (.bool _))
theorem o_eq_int : V2To C d (.int a) (.int b) (compareOp .Eq) ls (.bool (a == b)) ls := .of fun A s am _ _ Q E _ R ha hb K => by
  cases ha; cases hb; exact PyProof.Rows.eq_int (K _ s.heap s.toks am (Pre.refl _) (Gr.refl _) R (.bool _))
theorem o_mod_int (h : b ≠ 0) : V2To C d (.int a) (.int b) (binaryOp .Mod) ls (.int (a.fmod b)) ls := .of fun A s am _ _ Q E _ R ha hb K => by
  cases ha; cases hb; exact PyProof.Rows.mod_int h (K _ s.heap _ am (Pre.refl _) (Gr.refl _) R (.int _ _))
theorem o_add_flt : V2To C d (.flt x) (.flt y) (binaryOp .Add) ls (.flt (Float64.add x y)) ls := fun A s am _ _ Q E _ R ha hb K => by
  cases ha; cases hb; exact PyProof.Rows.add_float (K (.float _ s.toks) s.heap _ (am.tok s.toks _) (Pre.tok _ _ _ R.free) (Gr.refl _) (R.tok _) (.flt _ _ (am.tok_self _ _)))
theorem o_sub_flt : V2To C d (.flt x) (.flt y) (binaryOp .Sub) ls (.flt (Float64.sub x y)) ls := fun A s am _ _ Q E _ R ha hb K => by
  cases ha; cases hb; exact PyProof.Rows.sub_float (K (.float _ s.toks) s.heap _ (am.tok s.toks _) (Pre.tok _ _ _ R.free) (Gr.refl _) (R.tok _) (.flt _ _ (am.tok_self _ _)))
theorem o_mul_flt : V2To C d (.flt x) (.flt y) (binaryOp .Mult) ls (.flt (Float64.mul x y)) ls := fun A s am _ _ Q E _ R ha hb K => by
  cases ha; cases hb; exact PyProof.Rows.mul_float (K (.float _ s.toks) s.heap _ (am.tok s.toks _) (Pre.tok _ _ _ R.free) (Gr.refl _) (R.tok _) (.flt _ _ (am.tok_self _ _)))
theorem o_div_flt (h : Float64.isZero y = false) : V2To C d (.flt x) (.flt y) (binaryOp .Div) ls (.flt (Float64.div x y)) ls := fun A s am _ _ Q E hr R ha hb K => by
  cases ha; cases hb
  exact PyProof.Rows.truediv_float_or hr.hand (fun e => absurd e (by rw [h]; decide)) (fun _ => K (.float _ s.toks) s.heap _ (am.tok s.toks _) (Pre.tok _ _ _ R.free) (Gr.refl _) (R.tok _) (.flt _ _ (am.tok_self _ _)))
end
end
end Mine
end
section
open PySem PySem.W PySem.Calls PyProof.Rows
set_option maxRecDepth 100000
set_option linter.unusedVariables false
namespace Mine
theorem not_val_dict {o : Obj} {es : Array DictEntry} {ep : Nat} (hd : o.data = .dict es ep) : ¬ Val o := fun v => by
  rcases v with ⟨_, xs, n, e⟩ | ⟨_, vs, e⟩ <;> (rw [hd] at e; cases e)
theorem not_val_cell {o : Obj} {ov : Option Value} (hd : o.data = .cell ov) : ¬ Val o := fun v => by
  rcases v with ⟨_, xs, n, e⟩ | ⟨_, vs, e⟩ <;> (rw [hd] at e; cases e)
theorem ns_not_val {h : Heap} {a : Addr} {m : Str → Option Value} {o : Obj} (x : h.Ns a m) (e : h.get? a = some o) : ¬ Val o := by
  obtain ⟨o', es, ep, ho', hd', _⟩ := x
  rw [e] at ho'; cases ho'; exact not_val_dict hd'
theorem cell_not_val {h : Heap} {a : Addr} {m : Option Value} {o : Obj} (x : h.IsCell a m) (e : h.get? a = some o) : ¬ Val o := by
  obtain ⟨o', ho', hd'⟩ := x
  rw [e] at ho'; cases ho'; exact not_val_cell hd'
theorem ns_not_list {h : Heap} {a : Addr} {m : Str → Option Value} {xs : Array Value} (x : h.Ns a m) : ¬ h.IsList a xs := fun ⟨o, ho, _, n, hd⟩ => by
  obtain ⟨o', es, ep, ho', hd', _⟩ := x
  rw [ho] at ho'; cases ho'; rw [hd] at hd'; cases hd'
theorem cell_not_list {h : Heap} {a : Addr} {m : Option Value} {xs : Array Value} (x : h.IsCell a m) : ¬ h.IsList a xs := fun ⟨o, ho, _, n, hd⟩ => by
  obtain ⟨o', ho', hd'⟩ := x
  rw [ho] at ho'; cases ho'; rw [hd] at hd'; cases hd'
theorem cell_ne_ns {h : Heap} {a b : Addr} {m : Option Value} {n : Str → Option Value} (x : h.IsCell a m) (y : h.Ns b n) : a ≠ b := by
  rintro rfl
  obtain ⟨o', ho', hd'⟩ := x
  obtain ⟨o, es, ep, ho, hd, _⟩ := y
  rw [ho] at ho'; cases ho'; rw [hd] at hd'; cases hd'
theorem Fm.own {C : Cx} {env : Env} {am : Gh} {h : Heap} {ρ : Loc} (F : Fm C env am h ρ) : ∀ b o, ownOf env b → h.get? b = some o → ¬ Val o := fun b o hb e => by
  rcases hb with rfl | ⟨_, x, hx⟩
  · obtain ⟨m, hn, _⟩ := F.ns
    exact ns_not_val hn e
  · obtain ⟨ov, hc⟩ := F.all x b hx
    exact cell_not_val hc e
theorem GrS.v {C : Cx} {env : Env} {am : Gh} {h h' : Heap} {ρ : Loc} (g : GrS env h h') (F : Fm C env am h ρ) : GrV h h' := fun b o e v =>
  g b o e (fun l => by rcases v with ⟨c, _⟩ | ⟨c, _⟩ <;> (have := l.1; rw [c] at this; exact absurd this (by decide))) (fun q => F.own b o q e v)
theorem RV.monoS {C : Cx} {env : Env} {am am' : Gh} {h h' : Heap} {ρ : Loc} {x : PV} {v : Value} (r : RV am h x v) (p : Pre am am') (F : Fm C env am h ρ) (g : GrS env h h') : RV am' h' x v := r.monoV p (g.v F)

def pset : Loc → Str → PV → Loc
  | [], x, p => [(x, p)]
  | (y, q) :: r, x, p => if x == y then (y, p) :: r else (y, q) :: pset r x p
theorem lookup_pset : ∀ (ρ : Loc) (x : Str) (p : PV) (z : Str), (pset ρ x p).lookup z = if z = x then some p else ρ.lookup z
  | [], x, p, z => by
    simp only [pset, List.lookup_cons, List.lookup_nil]
    by_cases h : z = x
    · subst h; simp
    · have : (z == x) = false := by simpa using h
      simp [h, this]
  | (y, q) :: r, x, p, z => by
    unfold pset
    by_cases hxy : x = y
    · subst hxy
      rw [if_pos (by simp)]
      simp only [List.lookup_cons]
      by_cases h : z = x
      · subst h; simp
      · have : (z == x) = false := by simpa using h
        simp [h, this]
    · rw [if_neg (by simpa using hxy)]
      simp only [List.lookup_cons]
      by_cases h : z = y
      · subst h
        have : ¬ z = x := fun e => hxy e.symm
        simp [this]
      · have : (z == y) = false := by simpa using h
        simp only [this]
        exact lookup_pset r x p z

section
variable {C : Cx} {env : Env} {d : Nat} {ρ ρ1 ρ2 : Loc} {ls ls1 ls2 ls3 : LS} {p q r : PV} {f : PF}

theorem Rep.not_am {am : Gh} {h : Heap} {tk : Nat} (R : Rep C am ls h tk) {L : Addr} (hn : ∀ xs, ¬ h.IsList L xs) : L ∉ am.l := fun hm => by
  obtain ⟨i, hi, e⟩ := List.getElem_of_mem hm
  have hi' : i < ls.length := by rw [← R.len]; exact hi
  obtain ⟨vs, hl, _⟩ := R.its (i := i) (a := L) (l := ls[i]) (by simp [hi, e]) (by simp [hi'])
  exact hn _ hl.isList

/-- a name is bound -/
theorem st_local {x : Str} {v : Value} {A : Around} {s : Shared} {am : Gh} {Q : Unit → Shared → Prop} {E : Value → Shared → Prop} (R : Rep C am ls s.heap s.toks) (F : Fm C env am s.heap ρ) (hv : RV am s.heap p v)
    (hk : env.kindOf x = some .local) (K : ∀ h' tk, GrS env s.heap h' → Rep C am ls h' tk → Fm C env am h' (pset ρ x p) → Q () { s with heap := h', toks := tk }) :
    wpAny (model C.prog C.w) A (storeName env x v) Q E s := by
  obtain ⟨m, hn, hm⟩ := F.ns
  refine wpAny_storeName_local hk hn (fun h' hn' hs => ?_) (by rw [F.kind]; rfl)
  have g : GrS env s.heap h' := fun b o e _ hb => (hs.2 b fun q => hb (.inl q)).trans e
  have R' : Rep C am ls h' s.toks := R.change (X := fun b => b = env.locals) (fun b o hb e => (hs.2 b hb).trans e) (fun b q => by rw [q]; exact F.fr) (fun b q => by rw [q]; exact R.not_am fun xs => ns_not_list hn) fun b o q e => by rw [q] at e; exact ns_not_val hn e
  have mo : ∀ {y : PV} {u : Value}, RV am s.heap y u → RV am h' y u := fun r => r.monoS (Pre.refl _) F g
  refine K h' _ g (R'.up (Nat.le_succ _)) ⟨F.kind, F.gl, F.bl, F.fr, F.frc, ⟨_, hn', fun z q e hz => ?_⟩, fun z q e hz => ?_, fun z c e => ?_, F.apart⟩
  · rw [lookup_pset] at e
    by_cases h : z = x
    · subst h; simp at e; subst e
      exact ⟨v, by simp, mo hv⟩
    · rw [if_neg h] at e
      obtain ⟨u, hu, ru⟩ := hm z q e hz
      exact ⟨u, by simp [h, hu], mo ru⟩
  · rw [lookup_pset] at e
    by_cases h : z = x
    · subst h; exact absurd hk hz
    · rw [if_neg h] at e
      obtain ⟨c, u, hc, hu, ru⟩ := F.cel z q e hz
      exact ⟨c, u, hc, hu.sameBut hs (cell_ne_ns hu hn), mo ru⟩
  · obtain ⟨ov, ho⟩ := F.all z c e
    exact ⟨ov, ho.sameBut hs (cell_ne_ns ho hn)⟩
theorem st_cell {x : Str} {c : Addr} {v : Value} {A : Around} {s : Shared} {am : Gh} {Q : Unit → Shared → Prop} {E : Value → Shared → Prop} (R : Rep C am ls s.heap s.toks) (F : Fm C env am s.heap ρ) (hv : RV am s.heap p v)
    (hk : env.kindOf x = some .cell) (hc : env.cells.lookup x = some c) (hlt : env.locals < c) (K : ∀ h' tk, GrS env s.heap h' → Rep C am ls h' tk → Fm C env am h' (pset ρ x p) → Q () { s with heap := h', toks := tk }) :
    wpAny (model C.prog C.w) A (storeName env x v) Q E s := by
  obtain ⟨m, hn, hm⟩ := F.ns
  obtain ⟨ov, hcell⟩ := F.all x c hc
  refine wpAny_storeName_cell F.kind hk hc hcell (fun h' hc' hs => ?_)
  have g : GrS env s.heap h' := fun b o e _ hb => (hs.2 b (fun q => hb (.inr ⟨by rw [q]; exact hlt, x, by rw [q]; exact hc⟩))).trans e
  have R' : Rep C am ls h' s.toks := R.change (X := fun b => b = c) (fun b o hb e => (hs.2 b hb).trans e) (fun b q => by rw [q]; exact F.frc x c hc) (fun b q => by rw [q]; exact R.not_am fun xs => cell_not_list hcell) fun b o q e => by rw [q] at e; exact cell_not_val hcell e
  have mo : ∀ {y : PV} {u : Value}, RV am s.heap y u → RV am h' y u := fun r => r.monoS (Pre.refl _) F g
  have hL : env.locals ≠ c := fun e => cell_ne_ns hcell (by rw [e] at hn; exact hn) rfl
  refine K h' s.toks g R' ⟨F.kind, F.gl, F.bl, F.fr, F.frc, ⟨m, hn.sameBut hs hL, fun z q e hz => ?_⟩, fun z q e hz => ?_, fun z c' e => ?_, F.apart⟩
  · rw [lookup_pset] at e
    by_cases h : z = x
    · subst h; rw [hk] at hz; exact absurd hz (by decide)
    · rw [if_neg h] at e
      obtain ⟨u, hu, ru⟩ := hm z q e hz
      exact ⟨u, hu, mo ru⟩
  · rw [lookup_pset] at e
    by_cases h : z = x
    · subst h; simp at e; subst e
      exact ⟨c, v, hc, hc', mo hv⟩
    · rw [if_neg h] at e
      obtain ⟨c₂, u, hc₂, hu, ru⟩ := F.cel z q e hz
      exact ⟨c₂, u, hc₂, hu.sameBut hs (fun q => h (F.apart z x c (by rw [← q]; exact hc₂) hc)), mo ru⟩
  · by_cases h : c' = c
    · subst h; exact ⟨_, hc'⟩
    · obtain ⟨ov', ho⟩ := F.all z c' e
      exact ⟨ov', ho.sameBut hs h⟩

theorem x_nil : XTo C env d (execs [] env) ρ ls .next ρ ls := fun A s am Q E hr R F K =>
  wpAny_execs_nil (K _ s.heap s.toks am (Pre.refl _) (GrS.refl _ _) R F .next)
theorem x_cons {st : Stmt} {rest : List Stmt} (h1 : XTo C env d (exec st env) ρ ls .next ρ1 ls1) (h2 : XTo C env d (execs rest env) ρ1 ls1 f ρ2 ls2) : XTo C env d (execs (st :: rest) env) ρ ls f ρ2 ls2 :=
  fun A s am Q E hr R F K => wpAny_execs_cons (h1 A s am _ E hr R F fun fl h' tk am' p1 g1 R1 F1 rf => by
    cases rf
    exact h2 A _ am' Q E hr R1 F1 fun fl2 h2 tk2 am2 p2 g2 R2 F2 rf2 => K fl2 h2 tk2 am2 (p1.trans p2) (g1.trans g2) R2 F2 rf2)
theorem x_ret {st : Stmt} {rest : List Stmt} (h1 : XTo C env d (exec st env) ρ ls (.ret p) ρ1 ls1) : XTo C env d (execs (st :: rest) env) ρ ls (.ret p) ρ1 ls1 :=
  fun A s am Q E hr R F K => wpAny_execs_cons (h1 A s am _ E hr R F fun fl h' tk am' p1 g1 R1 F1 rf => by
    cases rf with
    | ret hv => exact K _ h' tk am' p1 g1 R1 F1 (.ret hv))
theorem x_return {e : Expr} {pos : Pos} (h : ETo C env d (eval e env) ρ ls p ls1) : XTo C env d (exec (.Return (some e) pos) env) ρ ls (.ret p) ρ ls1 :=
  fun A s am Q E hr R F K => wpAny_Return_some (h A s am _ E hr R F fun v h' tk am' p1 g1 R1 hv => K _ h' tk am' p1 g1.s R1 (F.mono p1 g1) (.ret hv))
theorem x_assign {x : Str} {pos' pos : Pos} {e : Expr} (h : ETo C env d (eval e env) ρ ls p ls1) (hk : env.kindOf x = some .local) (hs : swapsWith e (some (.Name x pos')) pos.line env = pure false) :
    XTo C env d (exec (.Assign [.Name x pos'] e pos) env) ρ ls .next (pset ρ x p) ls1 :=
  fun A s am Q E hr R F K => wpAny_Assign_Name (h A s am _ E hr R F fun v h' tk am' p1 g1 R1 hv =>
    st_local R1 (F.mono p1 g1) hv hk fun h2 tk2 g2 R2 F2 => K _ h2 tk2 am' p1 (g1.s.trans g2) R2 F2 .next) hs
theorem x_assignC {x : Str} {c : Addr} {pos' pos : Pos} {e : Expr} (h : ETo C env d (eval e env) ρ ls p ls1) (hk : env.kindOf x = some .cell) (hc : env.cells.lookup x = some c) (hlt : env.locals < c) (hs : swapsWith e (some (.Name x pos')) pos.line env = pure false) :
    XTo C env d (exec (.Assign [.Name x pos'] e pos) env) ρ ls .next (pset ρ x p) ls1 :=
  fun A s am Q E hr R F K => wpAny_Assign_Name (h A s am _ E hr R F fun v h' tk am' p1 g1 R1 hv =>
    st_cell R1 (F.mono p1 g1) hv hk hc hlt fun h2 tk2 g2 R2 F2 => K _ h2 tk2 am' p1 (g1.s.trans g2) R2 F2 .next) hs
/-- a test, then the rest behind either arm -/
theorem x_if {t : Expr} {body orelse : List Stmt} {pos : Pos} {b : Bool} (ht : BTo C env d (isTrue t env (eval t env)) ρ ls b ls1)
    (h1 : b = true → XTo C env d (execs body env) ρ ls1 f ρ1 ls2) (h2 : b = false → XTo C env d (execs orelse env) ρ ls1 f ρ1 ls2) : XTo C env d (exec (.If t body orelse pos) env) ρ ls f ρ1 ls2 :=
  fun A s am Q E hr R F K => wpAny_If (ht A s am _ E hr R F fun h' tk am' p1 g1 R1 => by
    cases b with
    | true => exact h1 rfl A _ am' Q E hr R1 (F.mono p1 g1) fun fl h2 tk2 am2 p2 g2 R2 F2 rf => K fl h2 tk2 am2 (p1.trans p2) (g1.s.trans g2) R2 F2 rf
    | false => exact h2 rfl A _ am' Q E hr R1 (F.mono p1 g1) fun fl h2 tk2 am2 p2 g2 R2 F2 rf => K fl h2 tk2 am2 (p1.trans p2) (g1.s.trans g2) R2 F2 rf)
end
end Mine
end
section
open PySem PySem.W PySem.Calls PyProof.Rows
set_option maxRecDepth 100000
set_option linter.unusedVariables false
namespace Mine
/-- a def's body: what it hands back -/
def valOf : Flow → Value
  | .ret v => v
  | _ => .none
def RTo (C : Cx) (env : Env) (d : Nat) (t : Sem Flow) (ρ : Loc) (ls : LS) (p : PV) (ls' : LS) : Prop :=
  ∀ (A : Around) (s : Shared) (am : Gh) (Q : Flow → Shared → Prop) (E : Value → Shared → Prop), Room A d → Rep C am ls s.heap s.toks → Fm C env am s.heap ρ →
    (∀ fl h' tk am', Pre am am' → GrS env s.heap h' → Rep C am' ls' h' tk → RV am' h' p (valOf fl) → Q fl { s with heap := h', toks := tk }) →
    wpAny (model C.prog C.w) A t Q E s

theorem RKs.mono {am am' : Gh} {h h' : Heap} (p : Pre am am') (g : Gr h h') : ∀ {xs : List (Str × PV)} {vs : List (Str × Value)}, RKs am h xs vs → RKs am' h' xs vs
  | _, _, .nil => .nil
  | _, _, .cons a b => .cons (a.mono p g) (RKs.mono p g b)
theorem RKs.names {am : Gh} {h : Heap} : ∀ {xs : List (Str × PV)} {vs : List (Str × Value)}, RKs am h xs vs → vs.map (·.1) = xs.map (·.1)
  | _, _, .nil => rfl
  | _, _, .cons _ b => by simp [RKs.names b]
theorem RKs.look {am : Gh} {h : Heap} : ∀ {xs : List (Str × PV)} {vs : List (Str × Value)}, RKs am h xs vs → ∀ {x : Str} {p : PV}, xs.lookup x = some p → ∃ v, vs.lookup x = some v ∧ RV am h p v
  | _, _, .nil, _, _, e => by simp at e
  | (y, q) :: _, _, .cons a b, x, p, e => by
    rw [List.lookup_cons] at e ⊢
    cases hb : x == y with
    | true => rw [hb] at e; cases e; exact ⟨_, rfl, a⟩
    | false => rw [hb] at e; exact RKs.look b e
theorem RKs.mem {am : Gh} {h : Heap} : ∀ {xs : List (Str × PV)} {vs : List (Str × Value)}, RKs am h xs vs → ∀ {x : Str} {v : Value}, (x, v) ∈ vs → x ∈ xs.map (·.1)
  | _, _, .nil, _, _, e => nomatch e
  | _, _, .cons a b, x, v, e => by
    rcases List.mem_cons.mp e with e | e
    · cases e; simp
    · simp only [List.map_cons, List.mem_cons]; exact .inr (RKs.mem b e)
theorem RKs.zip {am : Gh} {h : Heap} : ∀ {xs : List Str} {ps : List PV} {vs : List Value}, RVs am h ps vs → RKs am h (xs.zip ps) (xs.zip vs)
  | [], _, _, _ => .nil
  | _ :: _, _, _, .nil => .nil
  | _ :: _, _, _, .cons a b => .cons a (RKs.zip b)

theorem bindL_off (k : Str → Option NameKind) : ∀ (bs : List (Str × Value)) (m : Str → Option Value) (x : Str), x ∉ bs.map (·.1) → bindL k bs m x = m x
  | [], m, x, _ => rfl
  | (n, v) :: r, m, x, h => by
    simp only [List.map_cons, List.mem_cons, not_or] at h
    unfold bindL
    rw [bindL_off k r _ x h.2]
    split
    · simp [h.1]
    · rfl
theorem bindL_look (k : Str → Option NameKind) : ∀ (bs : List (Str × Value)) (m : Str → Option Value) (x : Str) (v : Value), (bs.map (·.1)).Nodup → bs.lookup x = some v → k x = some .local → bindL k bs m x = some v
  | [], m, x, v, _, h, _ => by simp at h
  | (n, u) :: r, m, x, v, hn, h, hk => by
    simp only [List.map_cons, List.nodup_cons] at hn
    rw [List.lookup_cons] at h
    unfold bindL
    cases hb : x == n with
    | true =>
      rw [hb] at h; cases h
      have e : x = n := by simpa using hb
      subst e
      rw [bindL_off k r _ x hn.1, if_pos hk]; simp
    | false => rw [hb] at h; exact bindL_look k r _ x v hn.2 h hk
theorem bindC_off (k : Str → Option NameKind) : ∀ (bs : List (Str × Value)) (m : Str → Option Value) (x : Str), x ∉ bs.map (·.1) → bindC k bs m x = m x
  | [], m, x, _ => rfl
  | (n, v) :: r, m, x, h => by
    simp only [List.map_cons, List.mem_cons, not_or] at h
    unfold bindC
    rw [bindC_off k r _ x h.2]
    split
    · rfl
    · simp [h.1]
theorem bindC_look (k : Str → Option NameKind) : ∀ (bs : List (Str × Value)) (m : Str → Option Value) (x : Str) (v : Value), (bs.map (·.1)).Nodup → bs.lookup x = some v → k x ≠ some .local → bindC k bs m x = some v
  | [], m, x, v, _, h, _ => by simp at h
  | (n, u) :: r, m, x, v, hn, h, hk => by
    simp only [List.map_cons, List.nodup_cons] at hn
    rw [List.lookup_cons] at h
    unfold bindC
    cases hb : x == n with
    | true =>
      rw [hb] at h; cases h
      have e : x = n := by simpa using hb
      subst e
      rw [bindC_off k r _ x hn.1, if_neg hk]; simp
    | false => rw [hb] at h; exact bindC_look k r _ x v hn.2 h hk

theorem Rep.fresh {C : Cx} {am : Gh} {ls : LS} {h : Heap} {tk : Nat} (R : Rep C am ls h tk) {a : Addr} (ha : h.objs.size ≤ a) : C.hb.get? a = none := by
  cases e : C.hb.get? a with
  | none => rfl
  | some o => exact absurd (Heap.lt_size (R.old a o e)) (Nat.not_lt.mpr ha)
theorem Room.deeper {A : Around} {d : Nat} (r : Room A (d + 1)) (env : Env) : Room (A.deeper env) d :=
  ⟨r.hand, by show A.depth + 1 + d < recursionLimit; have := r.depth; lia, by show A.units + 3 + 16 * d + 64 < cLine; have := r.units; lia⟩

section
variable {C : Cx} {env : Env} {d : Nat} {ρ ρ1 ρ2 : Loc} {ls ls1 ls2 ls3 : LS} {p q r : PV} {f : PF}

theorem r_nil : RTo C env d (execs [] env) ρ ls .none ls := fun A s am Q E hr R F K =>
  wpAny_execs_nil (K _ s.heap s.toks am (Pre.refl _) (GrS.refl _ _) R .none)
theorem r_cons {st : Stmt} {rest : List Stmt} (h1 : XTo C env d (exec st env) ρ ls .next ρ1 ls1) (h2 : RTo C env d (execs rest env) ρ1 ls1 p ls2) : RTo C env d (execs (st :: rest) env) ρ ls p ls2 :=
  fun A s am Q E hr R F K => wpAny_execs_cons (h1 A s am _ E hr R F fun fl h' tk am' p1 g1 R1 F1 rf => by
    cases rf
    exact h2 A _ am' Q E hr R1 F1 fun fl2 h2 tk2 am2 p2 g2 R2 rf2 => K fl2 h2 tk2 am2 (p1.trans p2) (g1.trans g2) R2 rf2)
theorem r_xret {st : Stmt} {rest : List Stmt} (h1 : XTo C env d (exec st env) ρ ls (.ret p) ρ1 ls1) : RTo C env d (execs (st :: rest) env) ρ ls p ls1 :=
  fun A s am Q E hr R F K => wpAny_execs_cons (h1 A s am _ E hr R F fun fl h' tk am' p1 g1 R1 F1 rf => by
    cases rf with
    | ret hv => exact K _ h' tk am' p1 g1 R1 hv)
theorem r_return {e : Expr} {pos : Pos} {rest : List Stmt} (h : ETo C env d (eval e env) ρ ls p ls1) : RTo C env d (execs (.Return (some e) pos :: rest) env) ρ ls p ls1 := r_xret (x_return h)
/-- an if whose arm returns -/
theorem r_if {t : Expr} {body rest : List Stmt} {pos : Pos} {b : Bool} (ht : BTo C env d (isTrue t env (eval t env)) ρ ls b ls1)
    (h1 : b = true → XTo C env d (execs body env) ρ ls1 (.ret p) ρ1 ls2) (h2 : b = false → RTo C env d (execs rest env) ρ ls1 p ls2) : RTo C env d (execs (.If t body [] pos :: rest) env) ρ ls p ls2 :=
  fun A s am Q E hr R F K => wpAny_execs_cons (wpAny_If (ht A s am _ E hr R F fun h' tk am' p1 g1 R1 => by
    cases b with
    | true =>
      refine h1 rfl A _ am' _ E hr R1 (F.mono p1 g1) fun fl h2 tk2 am2 p2 g2 R2 F2 rf => ?_
      cases rf with
      | ret hv => exact K _ h2 tk2 am2 (p1.trans p2) (g1.s.trans g2) R2 hv
    | false => exact wpAny_execs_nil (h2 rfl A _ am' Q E hr R1 (F.mono p1 g1) fun fl h2 tk2 am2 p2 g2 R2 rf => K fl h2 tk2 am2 (p1.trans p2) (g1.s.trans g2) R2 rf)))
/-- a def called by place: its cells (if any) are laid -/
theorem c_def {fa : Addr} {o : Obj} {fd : FuncData} {body : List Stmt} {ps : List PV} {xs : List Str} (ok : C.Ok)
    (ho : C.hb.get? fa = some o) (hdat : o.data = .func fd) (hcd : C.hb.CodeRec fd.code fd.qualname) (hbody : fd.body = .stmts body)
    (hbind : ∀ vs : List Value, vs.length = ps.length → bindArgs fd ⟨vs, []⟩ = pure (xs.zip vs)) (hlen : xs.length = ps.length)
    (hkind : ∀ L, xs.all (fun x => fd.scope.names.lookup x == some .local || (fd.scope.names.lookup x == some .cell && ((cellsFrom (L + 1) fd.scope.names []).lookup x).isSome)) = true)
    (hnd : xs.Nodup) (hclo : fd.closure = []) (hgl : fd.globals = mainGlobals) (hbl : fd.builtins = builtinsNs)
    (h : ∀ L, RTo C (callEnvC fd L fa) d (execs body (callEnvC fd L fa)) (xs.zip ps) ls p ls1)
    (hco : fd.scope.isCoroutine = false := by rfl) (hgen : fd.scope.isGenerator = false := by rfl) (hk : fd.scope.kind = .function := by rfl) :
    CTo C (d + 1) (.ref fa) ps [] ls p ls1 := by
  intro A s am vs kv Q E hr R hvs hkv K
  cases hkv
  have hl := hvs.length
  refine wpAny_call ?_
  have keep := R.old
  refine codeAny_call_function (by have := hr.depth; lia) (keep _ _ ho) hdat hco hgen hbody (hcd.keeps keep) ?_
  rw [hbind vs hl, hclo]
  refine wpAny_pure (toks_up (wpAny_newFunctionEnv_cells hk ?_ fun env he s₁ X hle => ?_))
  · intro x hx
    have hm : x.1 ∈ xs := (List.of_mem_zip hx).1
    have := List.all_eq_true.mp (hkind s.heap.objs.size) x.1 hm
    simp only [Bool.or_eq_true, Bool.and_eq_true, beq_iff_eq] at this
    exact this
  · subst he
    refine ⟨(ok.lim.keeps keep).keeps X.toInCall.keep, codeAny_func ?_⟩
    change InCallC s (callEnvC fd s.heap.objs.size fa).locals (bindL (callEnvC fd s.heap.objs.size fa).kindOf (xs.zip vs) fun _ => none) (callEnvC fd s.heap.objs.size fa).cells (bindC (callEnvC fd s.heap.objs.size fa).kindOf (xs.zip vs) fun _ => none) s₁ at X
    obtain ⟨h', tk, rfl⟩ := X.toInCall.same
    have R1 : Rep C am ls h' tk := (R.keeps X.toInCall.keep).up hle
    have rk : RKs am h' (xs.zip ps) (xs.zip vs) := RKs.zip (RVs.mono (Pre.refl _) (Gr.of_keeps X.toInCall.keep) hvs)
    have hnm : (xs.zip vs).map (·.1) = xs := by rw [List.map_fst_zip]; lia
    have F1 : Fm C (callEnvC fd s.heap.objs.size fa) am h' (xs.zip ps) := by
      refine ⟨hk, hgl, hbl, R.fresh (Nat.le_refl _), fun x c e => R.fresh ?_, ⟨_, X.toInCall.ns, fun x q e hx => ?_⟩, fun x q e hx => ?_, fun x c e => ?_, fun x y c e e' => ?_⟩
      · exact Nat.le_of_lt (X.above x c (mem_of_lookup e))
      · obtain ⟨v, hv, rv⟩ := rk.look e
        exact ⟨v, bindL_look _ _ _ _ _ (by rw [hnm]; exact hnd) hv hx, rv⟩
      · obtain ⟨v, hv, rv⟩ := rk.look e
        have hm : x ∈ xs := by
          have := mem_of_lookup hv
          exact (List.of_mem_zip this).1
        have hz := List.all_eq_true.mp (hkind s.heap.objs.size) x hm
        simp only [Bool.or_eq_true, Bool.and_eq_true, beq_iff_eq] at hz
        rcases hz with hz | ⟨_, hz⟩
        · exact absurd hz hx
        · obtain ⟨c, hc⟩ := Option.isSome_iff_exists.mp hz
          refine ⟨c, v, hc, ?_, rv⟩
          have := X.cell x c hc
          rwa [bindC_look _ _ _ _ _ (by rw [hnm]; exact hnd) hv hx] at this
      · exact ⟨_, X.cell x c e⟩
      · exact name_of_addr X.apart (mem_of_lookup e) (mem_of_lookup e')
    refine h s.heap.objs.size _ { s with heap := h', toks := tk } am _ _ (hr.deeper _) R1 F1 fun fl h2 tk2 am2 p2 g2 R2 rv => ?_
    have z := K _ h2 tk2 am2 p2 (fun b o e n => ?_) R2 rv
    · cases fl <;> exact z
    · have hb := X.toInCall.keep b o e
      have hlt : b < s.heap.objs.size := Heap.lt_size e
      refine g2 b o hb n fun z => ?_
      rcases z with z | ⟨_, x, hx⟩
      · have z' : b = s.heap.objs.size := z
        exact Nat.lt_irrefl _ (by rw [z'] at hlt; exact hlt)
      · exact Nat.lt_asymm hlt (X.above x b (mem_of_lookup hx))
end
end Mine
end
section
open PySem PySem.W PySem.Calls PyProof.Rows
set_option maxRecDepth 100000
set_option linter.unusedVariables false
namespace Mine
section
variable {C : Cx} {env : Env} {d : Nat} {ρ ρ1 ρ2 : Loc} {ls ls1 ls2 ls3 : LS} {p q r : PV} {f : PF} {ps qs : List PV}

/-- a value that stands for p in every heap -/
def Fix (p : PV) (v : Value) : Prop := ∀ am h, RV am h p v
theorem fix_ref (a : Addr) : Fix (.ref a) (.ref a) := fun _ _ => .ref a
theorem fix_bi (a : String) : Fix (.bi a) (.builtin a) := fun _ _ => .bi a
theorem fix_ty (a : String) : Fix (.ty a) (.type a) := fun _ _ => .ty a
theorem fix_str (s : Str) (t : Tok) : Fix (.str s) (.str s t) := fun _ _ => .str s t

theorem e_glob {x : Str} {v : Value} {pos : Pos} (ok : C.Ok) (hv : C.mg x = some v) (hf : Fix p v) (hk : env.kindOf x = some .globalImplicit) (hd : (x == ("__debug__" : Str)) = false) : ETo C env d (eval (.Name x pos) env) ρ ls p ls :=
  fun A s am Q E hr R F K => Calls.Name_function_global F.kind hk (Calls.loadGlobal_global (env := env) (mg := C.mg) (by rw [F.gl]; exact ok.g.keeps R.old) hv
    (K v s.heap s.toks am (Pre.refl _) (Gr.refl _) R (hf am s.heap))) hd
theorem e_blt {x : Str} {v : Value} {pos : Pos} (ok : C.Ok) (hn : C.mg x = none) (hv : C.mb x = some v) (hf : Fix p v) (hk : env.kindOf x = some .globalImplicit) (hd : (x == ("__debug__" : Str)) = false) : ETo C env d (eval (.Name x pos) env) ρ ls p ls :=
  fun A s am Q E hr R F K => Calls.Name_function_global F.kind hk (Calls.loadGlobal_builtin (env := env) (mg := C.mg) (mb := C.mb) (by rw [F.gl]; exact ok.g.keeps R.old) hn (by rw [F.bl]; exact ok.b.keeps R.old) hv
    (K v s.heap s.toks am (Pre.refl _) (Gr.refl _) R (hf am s.heap))) hd

/-! several in a row -/
theorem l_nil {pos : Pos} : LTo C env d (spliced (backTo pos (starEach [] env))) ρ ls [] ls := fun A s am Q E hr R F K =>
  PyProof.Rows.spliced_none (K _ s.heap s.toks am (Pre.refl _) (Gr.refl _) R .nil)
theorem l_cons {e : Expr} {rest : List Expr} {pos : Pos} (h1 : ETo C env d (eval e env) ρ ls p ls1) (h2 : LTo C env d (spliced (backTo pos (starEach rest env))) ρ ls1 ps ls2)
    (he : starEach (e :: rest) env = (false, eval e env) :: starEach rest env) : LTo C env d (spliced (backTo pos (starEach (e :: rest) env))) ρ ls (p :: ps) ls2 := fun A s am Q E hr R F K =>
  PyProof.Rows.spliced_more (h1 A s am _ E hr R F fun v h' tk am' p1 g1 R1 hv => h2 A _ am' _ E hr R1 (F.mono p1 g1) fun vs h2 tk2 am2 p2 g2 R2 hvs =>
    K _ h2 tk2 am2 (p1.trans p2) (g1.trans g2) R2 (.cons (hv.mono p2 g2) hvs)) he
/-! displays -/
theorem e_tup {elts : List Expr} {k : Nat} {pos : Pos} (h : LTo C env d (spliced (backTo pos (starEach elts env))) ρ ls ps ls1) (hl : ps.length ≤ sizeLine) : ETo C env d (eval (.Tuple elts k pos) env) ρ ls (.tup ps) ls1 :=
  fun A s am Q E hr R F K => wpAny_Tuple (h A s am _ E hr R F fun vs h' tk am' p1 g1 R1 hvs => ⟨by rw [hvs.length]; exact hl, by
    have g := Gr.push h' { cls := .type "tuple", data := .seq vs.toArray }
    exact K _ _ tk am' p1 (g1.trans g) (R1.keeps fun b o e => Heap.get?_push_of_some _ e) (.tup ⟨_, Heap.get?_push_size _ rfl, rfl, _, rfl⟩ (RVs.mono (Pre.refl _) g hvs))⟩)
theorem get_size {h : Heap} : h.get? h.objs.size = none := by
  cases e : h.get? h.objs.size with
  | none => rfl
  | some o => exact absurd (Heap.lt_size e) (Nat.lt_irrefl _)
theorem e_list {elts : List Expr} {pos : Pos} (h : LTo C env d (spliced (backTo pos (starEach elts env))) ρ ls ps ls1) (hl : ps.length ≤ sizeLine) : ETo C env d (eval (.List elts pos) env) ρ ls (.lst ls1.length) (ls1 ++ [ps]) :=
  fun A s am Q E hr R F K => wpAny_List (h A s am _ E hr R F fun vs h' tk am' p1 g1 R1 hvs => ⟨by rw [hvs.length]; exact hl, by
    have g := Gr.push h' { cls := .type "list", data := .seq vs.toArray }
    exact K _ _ tk (am'.add (h'.objs.size)) (p1.trans (Pre.add _ _)) (g1.trans g) (R1.more get_size (fun b o e => Heap.get?_push_of_some _ e) ⟨_, Heap.get?_push_size _ rfl⟩ hvs) (.lst (R1.last _))⟩)

/-! calls -/
theorem e_call {fn : Str} {fp pos : Pos} {e : Expr} {args : List Expr} {fa : Addr} {o : Obj} {fd : FuncData} (hf : ETo C env d (eval (.Name fn fp) env) ρ ls (.ref fa) ls) (ho : C.hb.get? fa = some o) (hd : o.data = .func fd)
    (ha : LTo C env d (spliced (backTo pos (starEach (e :: args) env))) ρ ls ps ls1) (hc : CTo C d (.ref fa) ps [] ls1 p ls2) (he : starEach (e :: args) env = (false, eval e env) :: starEach args env) :
    ETo C env d (eval (.Call (.Name fn fp) (e :: args) [] pos) env) ρ ls p ls2 := fun A s am Q E hr R F K =>
  wpAny_Call_NameR (hf A s am _ E hr R F fun v h' tk am' p1 g1 R1 hv => by
    cases hv
    refine PyProof.Rows.callWith_def (o := o) hd (ha A _ am' _ E hr R1 (F.mono p1 g1) fun vs h2 tk2 am2 p2 g2 R2 hvs => ⟨R2.old _ _ ho, hc A _ am2 vs [] Q E hr R2 hvs .nil fun v h3 tk3 am3 p3 g3 R3 hv => ?_⟩) he
    exact K v h3 tk3 am3 (p1.trans (p2.trans p3)) (g1.trans (g2.trans g3)) R3 hv)
theorem e_callB {fn : Str} {fp pos : Pos} {e : Expr} {args : List Expr} {id : String} (hf : ETo C env d (eval (.Name fn fp) env) ρ ls (.bi id) ls)
    (ha : LTo C env d (spliced (backTo pos (starEach (e :: args) env))) ρ ls ps ls1) (hc : CTo C d (.builtin id) ps [] ls1 p ls2) (he : starEach (e :: args) env = (false, eval e env) :: starEach args env) (hp : (backTo pos (starEach args env)).any (·.1) = false) :
    ETo C env d (eval (.Call (.Name fn fp) (e :: args) [] pos) env) ρ ls p ls2 := fun A s am Q E hr R F K =>
  wpAny_Call_NameR (hf A s am _ E hr R F fun v h' tk am' p1 g1 R1 hv => by
    cases hv
    refine PyProof.Rows.callWith_builtin1 (ha A _ am' _ E hr R1 (F.mono p1 g1) fun vs h2 tk2 am2 p2 g2 R2 hvs => hc A _ am2 vs [] Q E hr R2 hvs .nil fun v h3 tk3 am3 p3 g3 R3 hv => ?_) he hp
    exact K v h3 tk3 am3 (p1.trans (p2.trans p3)) (g1.trans (g2.trans g3)) R3 hv)
theorem e_callT {fn : Str} {fp pos : Pos} {e : Expr} {args : List Expr} {id : String} (hf : ETo C env d (eval (.Name fn fp) env) ρ ls (.ty id) ls)
    (ha : LTo C env d (spliced (backTo pos (starEach (e :: args) env))) ρ ls ps ls1) (hc : CTo C d (.type id) ps [] ls1 p ls2) (he : starEach (e :: args) env = (false, eval e env) :: starEach args env) (hp : (backTo pos (starEach args env)).any (·.1) = false) :
    ETo C env d (eval (.Call (.Name fn fp) (e :: args) [] pos) env) ρ ls p ls2 := fun A s am Q E hr R F K =>
  wpAny_Call_NameR (hf A s am _ E hr R F fun v h' tk am' p1 g1 R1 hv => by
    cases hv
    refine PyProof.Rows.callWith_type (by rw [he]; show (false || (backTo pos (starEach args env)).any (·.1)) = false; rw [hp]; rfl) (by
      rw [he]
      refine Calls.evalArgs_plain ?_
      have z := ha A { s with heap := h', toks := tk } am' (fun vs s₁ => wpAny (model C.prog C.w) A (call (.type id) ([] ++ vs)) Q E s₁) E hr R1 (F.mono p1 g1) fun vs h2 tk2 am2 p2 g2 R2 hvs => hc A _ am2 vs [] Q E hr R2 hvs .nil fun v h3 tk3 am3 p3 g3 R3 hv => ?_
      · rw [he] at z; exact z
      · exact K v h3 tk3 am3 (p1.trans (p2.trans p3)) (g1.trans (g2.trans g3)) R3 hv))
theorem k_nil {pos : Pos} : LTo C env d (evalAll ((backToKw pos (keywordEach [] env)).map (·.2))) ρ ls [] ls := fun A s am Q E hr R F K => wpAny_evalAll_nil (K _ s.heap s.toks am (Pre.refl _) (Gr.refl _) R .nil)
theorem k_cons {n : Option Str} {e : Expr} {kp : Pos} {rest : List Keyword} {pos : Pos} (h1 : ETo C env d (eval e env) ρ ls p ls1) (h2 : LTo C env d (evalAll ((backToKw pos (keywordEach rest env)).map (·.2))) ρ ls1 ps ls2) :
    LTo C env d (evalAll ((backToKw pos (keywordEach (⟨n, e, kp⟩ :: rest) env)).map (·.2))) ρ ls (p :: ps) ls2 := fun A s am Q E hr R F K => by
  refine wpAny_evalAll_cons (x := do let v ← eval e env; standAt pos; pure v) (wpAny_bind (h1 A s am _ E hr R F fun v h' tk am' p1 g1 R1 hv => wpAny_bind (wpAny_standAt (wpAny_pure ?_))))
  exact h2 A _ am' _ E hr R1 (F.mono p1 g1) fun vs h2 tk2 am2 p2 g2 R2 hvs => K _ h2 tk2 am2 (p1.trans p2) (g1.trans g2) R2 (.cons (hv.mono p2 g2) hvs)
theorem e_callK {fn : Str} {fp pos : Pos} {e : Expr} {args : List Expr} {kws : List Keyword} {fa : Addr} {o : Obj} {fd : FuncData} {xs : List Str} (hf : ETo C env d (eval (.Name fn fp) env) ρ ls (.ref fa) ls) (ho : C.hb.get? fa = some o) (hd : o.data = .func fd)
    (ha : LTo C env d (spliced (backTo pos (starEach (e :: args) env))) ρ ls ps ls1) (hk : LTo C env d (evalAll ((backToKw pos (keywordEach kws env)).map (·.2))) ρ ls1 qs ls2) (hx : (backToKw pos (keywordEach kws env)).filterMap (·.1) = xs)
    (hall : (backToKw pos (keywordEach kws env)).all (·.1.isSome) = true) (hc : CTo C d (.ref fa) ps (xs.zip qs) ls2 p ls3) (he : backTo pos (starEach (e :: args) env) = (false, eval e env) :: backTo pos (starEach args env)) :
    ETo C env d (eval (.Call (.Name fn fp) (e :: args) kws pos) env) ρ ls p ls3 := fun A s am Q E hr R F K =>
  wpAny_Call_Name_kw (hf A s am _ E hr R F fun v h' tk am' p1 g1 R1 hv => by
    cases hv
    refine PyProof.Rows.callWith_def_kw (o := o) hd ?_
    rw [he]
    refine evalArgs_kw hall ?_
    have z := ha A { s with heap := h', toks := tk } am' (fun vs s₁ => wpAny (model C.prog C.w) A (evalAll ((backToKw pos (keywordEach kws env)).map (·.2))) (fun ks s₂ => s₂.heap.get? fa = some o ∧ wpAny (model C.prog C.w) A (call (.ref fa) vs (((backToKw pos (keywordEach kws env)).filterMap (·.1)).zip ks)) Q E s₂) E s₁) E hr R1 (F.mono p1 g1)
      fun vs h2 tk2 am2 p2 g2 R2 hvs => hk A _ am2 _ E hr R2 (F.mono (p1.trans p2) (g1.trans g2)) fun ks h3 tk3 am3 p3 g3 R3 hks => ⟨R3.old _ _ ho, ?_⟩
    · rw [hx]
      refine hc A _ am3 vs _ Q E hr R3 (RVs.mono p3 g3 hvs) (RKs.zip hks) fun v h4 tk4 am4 p4 g4 R4 hv => ?_
      exact K v h4 tk4 am4 (p1.trans (p2.trans (p3.trans p4))) (g1.trans (g2.trans (g3.trans g4))) R4 hv
    · rw [he] at z; exact z)

/-! items -/
theorem e_sub {value slice : Expr} {pos : Pos} (h1 : ETo C env d (eval value env) ρ ls p ls1) (h2 : ETo C env d (eval slice env) ρ ls1 q ls2) (ht : V2To C d p q (subscriptTail value slice) ls2 r ls3) : ETo C env d (eval (.Subscript value slice pos) env) ρ ls r ls3 :=
  fun A s am Q E hr R F K => Subscript_ (h1 A s am _ E hr R F fun a h1 t1 am1 p1 g1 R1 v1 =>
    h2 A _ am1 _ E hr R1 (F.mono p1 g1) fun b h2 t2 am2 p2 g2 R2 v2 =>
      ht A _ am2 a b Q E hr R2 (v1.mono p2 g2) v2 fun v h3 t3 am3 p3 g3 R3 v3 => K v h3 t3 am3 (p1.trans (p2.trans p3)) (g1.trans (g2.trans g3)) R3 v3)
/-- the place is no slice -/
def NoSlice : Expr → Prop
  | .Slice .. => False
  | _ => True
theorem sub_plain {slice : Expr} (h : NoSlice slice) (o i : Value) : subscripted slice false o i = operate [o, i] (getItem o i) := by
  cases slice <;> first | rfl | exact h.elim
theorem t_tup {value slice : Expr} {l : List PV} {k : Int} {j : Nat} (hn : NoSlice slice) (hj : seqIndex? k l.length = some j) (hx : l[j]? = some r) (hlo : -(2 ^ 63) ≤ k) (hhi : k < 2 ^ 63) : V2To C d (.tup l) (.int k) (subscriptTail value slice) ls r ls := fun A s am a b Q E hr R ha hb K => by
  cases hb
  cases ha with
  | tup ht hs =>
    obtain ⟨v, hv, rv⟩ := hs.get hx
    exact item_tupleT ht hlo hhi (by rw [hs.length]; exact hj) hv (K v s.heap s.toks am (Pre.refl _) (Gr.refl _) R rv) (sub_plain hn _ _)
theorem t_lst {value slice : Expr} {n : Nat} {l : List PV} {k : Int} (hn : NoSlice slice) (hl : ls[n]? = some l) (h0 : 0 ≤ k) (hhi : k < 2 ^ 63) (hx : l[k.toNat]? = some r) : V2To C d (.lst n) (.int k) (subscriptTail value slice) ls r ls := fun A s am a b Q E hr R ha hb K => by
  cases hb
  cases ha with
  | lst hm =>
    obtain ⟨vs, hp, hv⟩ := R.its hm hl
    obtain ⟨v, hv, rv⟩ := hv.get hx
    exact tail_any (T := "list") hp.isList.typeIs slot_list_getitem.lookup (wpAny_getItem_list hp.isList h0 hhi (by simpa using hv) (K v s.heap s.toks am (Pre.refl _) (Gr.refl _) R rv)) (sub_plain hn _ _)
theorem t_lst_neg {value slice : Expr} {n : Nat} {l : List PV} {k : Int} (hn : NoSlice slice) (hl : ls[n]? = some l) (h0 : k < 0) (h1 : -(l.length : Int) ≤ k) (hhi : -(2 ^ 63) ≤ k) (hx : l[(k + l.length).toNat]? = some r) : V2To C d (.lst n) (.int k) (subscriptTail value slice) ls r ls := fun A s am a b Q E hr R ha hb K => by
  cases hb
  cases ha with
  | lst hm =>
    obtain ⟨vs, hp, hv⟩ := R.its hm hl
    have hlen := hv.length
    obtain ⟨v, hv, rv⟩ := hv.get hx
    exact tail_any (T := "list") hp.isList.typeIs slot_list_getitem.lookup (wpAny_getItem_list_neg hp.isList h0 (by rw [List.size_toArray, hlen]; exact h1) hhi (by rw [List.size_toArray, hlen]; simpa using hv) (K v s.heap s.toks am (Pre.refl _) (Gr.refl _) R rv)) (sub_plain hn _ _)
end
end Mine
end
section
open PySem PySem.W PySem.Calls PyProof.Rows
set_option maxRecDepth 100000
set_option linter.unusedVariables false
namespace Mine
section
variable {C : Cx} {env : Env} {d : Nat} {ρ ρ1 ρ2 : Loc} {ls ls1 ls2 ls3 : LS} {p q r : PV} {f : PF} {ps qs : List PV}
variable {a b : Int} {x y : UInt64} {u v : Str}
theorem o_mul_int (h : IntMulOk a b) : V2To C d (.int a) (.int b) (binaryOp .Mult) ls (.int (a * b)) ls := .of fun A s am _ _ Q E _ R ha hb K => by
  cases ha; cases hb; exact PyProof.Rows.mul_int (K _ s.heap _ am (Pre.refl _) (Gr.refl _) R (.int _ _)) h
theorem o_fdiv_int (h0 : b ≠ 0) (h : b.natAbs < 1073741824) : V2To C d (.int a) (.int b) (binaryOp .FloorDiv) ls (.int (a.fdiv b)) ls := .of fun A s am _ _ Q E _ R ha hb K => by
  cases ha; cases hb; exact PyProof.Rows.floordiv_int h0 (K _ s.heap _ am (Pre.refl _) (Gr.refl _) R (.int _ _)) (.inl (PyProof.noPylong_small h))
theorem o_pow4 (h0 : 0 ≤ b) (h : b < 1000) : V2To C d (.int 4) (.int b) (binaryOp .Pow) ls (.int (4 ^ b.toNat)) ls := .of fun A s am _ _ Q E _ R ha hb K => by
  cases ha; cases hb
  by_cases hb0 : b = 0
  · subst hb0
    exact AutoIntOps.pow_0 (by decide) (by decide) (K (.int 1 s.toks) s.heap _ am (Pre.refl _) (Gr.refl _) R (.int _ _))
  · refine AutoIntOps.pow_4 h0 (by simpa using hb0) (by decide) (by decide) ?_ (K (.int _ s.toks) s.heap _ am (Pre.refl _) (Gr.refl _) R (.int _ _))
    have : Builtin.Int.intBits 4 = 3 := by decide +kernel
    rw [this]
    intro hh
    simp only [Builtin.Int.intTooBig, bitsLine, Nat.reducePow] at hh
    have hh' := of_decide_eq_true hh
    simp at hh'
    lia
theorem o_div_int (h0 : b ≠ 0) (h : Float64.isInf (Float64.ofFrac (decide (a < 0) != decide (b < 0)) a.natAbs b.natAbs) = false) : V2To C d (.int a) (.int b) (binaryOp .Div) ls (.flt (Float64.ofFrac (decide (a < 0) != decide (b < 0)) a.natAbs b.natAbs)) ls := fun A s am _ _ Q E _ R ha hb K => by
  cases ha; cases hb
  exact AutoIntOps.truediv_2 (by simpa using h0) (by rw [h]; decide) (K (.float _ s.toks) s.heap _ (am.tok s.toks _) (Pre.tok _ _ _ R.free) (Gr.refl _) (R.tok _) (.flt _ _ (am.tok_self _ _)))
theorem o_mod_flt (h : Float64.isZero y = false) : V2To C d (.flt x) (.flt y) (binaryOp .Mod) ls (.flt (Float64.divmod x y).2) ls := fun A s am _ _ Q E hr R ha hb K => by
  cases ha; cases hb
  refine AutoFloatOpsIf.mod ?_
  rw [if_neg (by rw [h]; decide)]
  exact K (.float _ s.toks) s.heap _ (am.tok s.toks _) (Pre.tok _ _ _ R.free) (Gr.refl _) (R.tok _) (.flt _ _ (am.tok_self _ _))
theorem o_sub_fi (h : b.natAbs < 2 ^ 1023) : V2To C d (.flt x) (.int b) (binaryOp .Sub) ls (.flt (Float64.sub x (Float64.ofInt b))) ls := fun A s am _ _ Q E hr R ha hb K => by
  cases ha; cases hb; exact PyProof.Rows.sub_fi_fits h (K (.float _ s.toks) s.heap _ (am.tok s.toks _) (Pre.tok _ _ _ R.free) (Gr.refl _) (R.tok _) (.flt _ _ (am.tok_self _ _)))
theorem o_add_str (h : u.length + v.length ≤ sizeLine) : V2To C d (.str u) (.str v) (binaryOp .Add) ls (.str (u ++ v)) ls := .of fun A s am _ _ Q E hr R ha hb K => by
  cases ha; cases hb; exact SB.add (fun t' k => K _ s.heap k am (Pre.refl _) (Gr.refl _) R (.str _ _)) h
/-! comparisons -/
theorem o_eq_flt : V2To C d (.flt x) (.flt y) (compareOp .Eq) ls (.bool (Float64.cmp x y == some Ordering.eq)) ls := .of fun A s am _ _ Q E _ R ha hb K => by
  cases ha; cases hb; exact AutoFloatOps.eq_0 (K _ s.heap s.toks am (Pre.refl _) (Gr.refl _) R (.bool _))
theorem o_lt_flt : V2To C d (.flt x) (.flt y) (compareOp .Lt) ls (.bool (Float64.cmp x y == some Ordering.lt)) ls := .of fun A s am _ _ Q E _ R ha hb K => by
  cases ha; cases hb; exact AutoFloatOps.lt_0 (K _ s.heap s.toks am (Pre.refl _) (Gr.refl _) R (.bool _))
theorem o_ge_flt : V2To C d (.flt x) (.flt y) (compareOp .GtE) ls (.bool (Float64.cmp x y == some Ordering.gt || Float64.cmp x y == some Ordering.eq)) ls := .of fun A s am _ _ Q E _ R ha hb K => by
  cases ha; cases hb; exact AutoFloatOps.ge_0 (K _ s.heap s.toks am (Pre.refl _) (Gr.refl _) R (.bool _))
theorem o_is_none : V2To C d .none .none (compareOp .Is) ls (.bool true) ls := .of fun A s am _ _ Q E _ R ha hb K => by
  cases ha; cases hb; exact PyProof.Rows.is_none_none (K _ s.heap s.toks am (Pre.refl _) (Gr.refl _) R (.bool _))
theorem o_is_ref (z : Addr) : V2To C d (.ref z) .none (compareOp .Is) ls (.bool false) ls := .of fun A s am _ _ Q E _ R ha hb K => by
  cases ha; cases hb; exact PyProof.Rows.is_ref_none (K _ s.heap s.toks am (Pre.refl _) (Gr.refl _) R (.bool _))
theorem o_eq_str : V2To C d (.str u) (.str v) (compareOp .Eq) ls (.bool (u == v)) ls := .of fun A s am _ _ Q E _ R ha hb K => by
  cases ha; cases hb; exact PyProof.Rows.eq_str (K _ s.heap s.toks am (Pre.refl _) (Gr.refl _) R (.bool _))
theorem o_ne_str : V2To C d (.str u) (.str v) (compareOp .NotEq) ls (.bool (u != v)) ls := .of fun A s am _ _ Q E _ R ha hb K => by
  cases ha; cases hb; exact PyProof.Rows.ne_str (K _ s.heap s.toks am (Pre.refl _) (Gr.refl _) R (.bool _))
end
end Mine
end
section
open PySem PySem.W PySem.Calls PyProof.Rows
set_option maxRecDepth 100000
set_option linter.unusedVariables false
namespace Mine
/-- an object that turns and is neither a list, nor a value's own, nor a frame's -/
def Tool (o : Obj) : Prop := ¬ IsLst o ∧ ¬ Val o ∧ (∀ es ep, o.data ≠ .dict es ep) ∧ ∀ v, o.data ≠ .cell v
theorem tool_of {o : Obj} {c : String} {vs : Array Value} (hc : o.cls = .type c) (hd : o.data = .fields vs) (h1 : (c == "range") = false) : Tool o := by
  refine ⟨fun x => ?_, fun x => ?_, fun es ep e => ?_, fun v e => ?_⟩
  · obtain ⟨_, xs, n, e⟩ := x; rw [hd] at e; cases e
  · rcases x with ⟨_, xs, n, e⟩ | ⟨e, _⟩
    · rw [hd] at e; cases e
    · rw [hc] at e; cases e; simp at h1
  · rw [hd] at e; cases e
  · rw [hd] at e; cases e
section
variable {C : Cx} {env : Env} {d : Nat} {ρ ρ1 ρ2 ρ3 : Loc} {ls ls1 ls2 ls3 : LS} {p q r : PV} {f : PF} {ps qs : List PV}

theorem Fm.keepsX {am : Gh} {h h' : Heap} {X : Addr → Prop} (F : Fm C env am h ρ) (k : ∀ b o, ¬ X b → h.get? b = some o → h'.get? b = some o) (hX : ∀ b o, X b → h.get? b = some o → Tool o) : Fm C env am h' ρ := by
  have g : GrV h h' := fun b o e v => k b o (fun x => (hX b o x e).2.1 v) e
  have kc : ∀ {c ov}, h.IsCell c ov → h'.IsCell c ov := fun {c ov} x => by
    obtain ⟨o, ho, hd⟩ := x
    exact ⟨o, k c o (fun q => (hX c o q ho).2.2.2 _ hd) ho, hd⟩
  refine ⟨F.kind, F.gl, F.bl, F.fr, F.frc, ?_, fun x q e hx => ?_, fun x c e => ?_, F.apart⟩
  · obtain ⟨m, hn, hm⟩ := F.ns
    refine ⟨m, ?_, fun x q e hx => ?_⟩
    · obtain ⟨o, es, ep, ho, hd, r⟩ := hn
      exact ⟨o, es, ep, k _ o (fun q => (hX _ o q ho).2.2.1 _ _ hd) ho, hd, r⟩
    · obtain ⟨v, hv, r⟩ := hm x q e hx
      exact ⟨v, hv, r.monoV (Pre.refl _) g⟩
  · obtain ⟨c, v, hc, hv, r⟩ := F.cel x q e hx
    exact ⟨c, v, hc, kc hv, r.monoV (Pre.refl _) g⟩
  · obtain ⟨ov, h⟩ := F.all x c e
    exact ⟨ov, kc h⟩

/-! targets -/
def ATo (C : Cx) (env : Env) (target : Expr) (ρ : Loc) (p : PV) (ρ' : Loc) : Prop :=
  ∀ (A : Around) (d : Nat) (s : Shared) (am : Gh) (ls : LS) (v : Value) (Q : Unit → Shared → Prop) (E : Value → Shared → Prop), Room A d → Rep C am ls s.heap s.toks → Fm C env am s.heap ρ → RV am s.heap p v →
    (∀ h' tk, GrS env s.heap h' → Rep C am ls h' tk → Fm C env am h' ρ' → Q () { s with heap := h', toks := tk }) → wpAny (model C.prog C.w) A (assign target env v) Q E s
theorem a_loc {x : Str} {pos : Pos} (hk : env.kindOf x = some .local) : ATo C env (.Name x pos) ρ p (pset ρ x p) := fun A d s am ls v Q E hr R F hv K =>
  wpAny_assign_Name (st_local R F hv hk K)
/-- several names at once -/
inductive As (C : Cx) (env : Env) : List Expr → Loc → List PV → Loc → Prop where
  | nil {ρ : Loc} : As C env [] ρ [] ρ
  | cons {t : Expr} {ts : List Expr} {ρ ρ1 ρ2 : Loc} {p : PV} {ps : List PV} : ATo C env t ρ p ρ1 → As C env ts ρ1 ps ρ2 → (∀ ts, assignEach (t :: ts) env = (false, assign t env) :: assignEach ts env) → As C env (t :: ts) ρ (p :: ps) ρ2
theorem As.len {ts : List Expr} (h : As C env ts ρ ps ρ1) : (assignEach ts env).length = ps.length ∧ (assignEach ts env).findIdx? (·.1) = none := by
  induction h with
  | nil => exact ⟨rfl, rfl⟩
  | cons _ _ he ih =>
    rw [he, List.length_cons, ih.1, List.length_cons, List.findIdx?_cons]
    exact ⟨rfl, by simp [ih.2]⟩
theorem As.run {ts : List Expr} (h : As C env ts ρ ps ρ1) : ∀ (A : Around) (d : Nat) (s : Shared) (am : Gh) (ls : LS) (vs : List Value) (Q : Unit → Shared → Prop) (E : Value → Shared → Prop), Room A d → Rep C am ls s.heap s.toks → Fm C env am s.heap ρ → RVs am s.heap ps vs →
    (∀ h' tk, GrS env s.heap h' → Rep C am ls h' tk → Fm C env am h' ρ1 → Q () { s with heap := h', toks := tk }) → wpAny (model C.prog C.w) A (assignInOrder ((assignEach ts env).map (·.2)) vs) Q E s := by
  induction h with
  | nil =>
    intro A d s am ls vs Q E hr R F hv K
    cases hv
    exact wpAny_assignInOrder_none (K s.heap s.toks (GrS.refl _ _) R F)
  | cons h1 _ he ih =>
    intro A d s am ls vs Q E hr R F hv K
    cases hv with
    | cons a b =>
      rw [he]
      refine wpAny_assignInOrder_more (h1 A d s am ls _ _ E hr R F a fun h' tk g R1 F1 => ?_)
      exact ih A d _ am ls _ Q E hr R1 F1 (b.monoV (Pre.refl _) (g.v F)) fun h2 tk2 g2 R2 F2 => K h2 tk2 (g.trans g2) R2 F2
theorem extBut_keeps {h h' : Heap} (hs : Heap.ExtBut h.objs.size h h') : ∀ b o, h.get? b = some o → h'.get? b = some o := fun b o e => hs b o (Nat.ne_of_lt (Heap.lt_size e)) e
theorem a_tup {elts : List Expr} {k : Nat} {pos : Pos} (h : As C env elts ρ ps ρ1) : ATo C env (.Tuple elts k pos) ρ (.tup ps) ρ1 := fun A d s am ls v Q E hr R F hv K => by
  cases hv with
  | tup ht hs =>
    refine wpAny_assign_Tuple hr.hand ht (by rw [h.len.1, List.size_toArray, hs.length]) h.len.2 fun h' he => ?_
    have kp := extBut_keeps he
    have g := Gr.of_keeps kp
    rw [show (List.toArray _).toList = _ from rfl]
    exact h.run A d { s with heap := h' } am ls _ Q E hr (R.keeps kp) (F.mono (Pre.refl _) g) (hs.mono (Pre.refl _) g) fun h2 tk2 g2 R2 F2 => K h2 tk2 (g.s.trans g2) R2 F2
/-- a, b, c = e -/
theorem x_assignT {elts : List Expr} {k : Nat} {pos' pos : Pos} {e : Expr} (h : ETo C env d (eval e env) ρ ls (.tup ps) ls1) (ha : As C env elts ρ ps ρ1) (hs : ∀ n, swapsWith e (some (.Tuple elts k pos')) n env = pure false) (hw : swappedStores [.Tuple elts k pos'] e env = pure none) :
    XTo C env d (exec (.Assign [.Tuple elts k pos'] e pos) env) ρ ls .next ρ1 ls1 := fun A s am Q E hr R F K => by
  show wpAny _ A (do
    standAt pos
    if ← swapsWithSole [.Tuple elts k pos'] e pos.line env then do
      evalThenUse e env fun v => assignAll v ((assignEach [.Tuple elts k pos'] env).map (·.2))
      pure .next
    else do
      let v ← eval e env
      assignStores env v (← swappedStores [.Tuple elts k pos'] e env) ((assignEach [.Tuple elts k pos'] env).map (·.2))) Q E s
  refine wpAny_bind (wpAny_standAt (wpAny_bind ?_))
  show wpAny _ A (swapsWith e (some (.Tuple elts k pos')) pos.line env) _ E s
  rw [hs]
  refine wpAny_pure ?_
  rw [if_neg (by decide)]
  refine wpAny_bind (h A s am _ E hr R F fun v h' tk am' p1 g1 R1 hv => ?_)
  rw [hw]
  refine wpAny_bind (wpAny_pure ?_)
  show wpAny _ A (do assignAll v [assign (.Tuple elts k pos') env]; pure .next) Q E _
  refine wpAny_bind ?_
  show wpAny _ A (assign (.Tuple elts k pos') env v) _ E _
  exact a_tup ha A d _ am' ls1 v _ E hr R1 (F.mono p1 g1) hv fun h2 tk2 g2 R2 F2 => wpAny_pure (K _ h2 tk2 am' p1 (g1.s.trans g2) R2 F2 .next)

/-! iterators -/
structure Itr (C : Cx) (target : Expr) (ok : LS → Prop) (I : Addr) (fp : List Addr) (items : List PV) (St : Nat → Gh → Heap → Prop) : Prop where
  item : ∀ {A : Around} {d : Nat} {s : Shared} {am : Gh} {ls : LS} {i : Nat} {p : PV} {Q : Value → Shared → Prop} {E : Value → Shared → Prop}, Room A d → Rep C am ls s.heap s.toks → ok ls → St i am s.heap → items[i]? = some p →
    (∀ v h' tk, s.toks ≤ tk → (∀ b o, b ∉ fp → s.heap.get? b = some o → h'.get? b = some o) → St (i + 1) am h' → RV am h' p v → Q v { s with heap := h', toks := tk }) →
    wpAny (model C.prog C.w) A (pyNext (.ref I)) (fun r s₁ => match r with
      | none => False
      | some v => wpAny (model C.prog C.w) A (letOwnedTupleGo target (.ref I) v) (fun _ s₂ => Q v s₂) E s₁) E s
  done : ∀ {A : Around} {d : Nat} {s : Shared} {am : Gh} {ls : LS} {Q : Option Value → Shared → Prop} {E : Value → Shared → Prop}, Room A d → Rep C am ls s.heap s.toks → ok ls → St items.length am s.heap →
    (∀ h' tk, s.toks ≤ tk → (∀ b o, b ∉ fp → s.heap.get? b = some o → h'.get? b = some o) → Q none { s with heap := h', toks := tk }) → wpAny (model C.prog C.w) A (pyNext (.ref I)) Q E s
  self : ∀ {A : Around} {s : Shared} {am : Gh} {i : Nat} {Q : Value → Shared → Prop} {E : Value → Shared → Prop}, St i am s.heap → Q (.ref I) s → wpAny (model C.prog C.w) A (pyIter (.ref I)) Q E s
  stay : ∀ {i : Nat} {am am' : Gh} {h h' : Heap}, St i am h → Pre am am' → (∀ b ∈ fp, ∀ o, h.get? b = some o → h'.get? b = some o) → St i am' h'
  obj : ∀ {i : Nat} {am : Gh} {h : Heap}, St i am h → ∀ b ∈ fp, ∃ o, h.get? b = some o ∧ Tool o

inductive Lp (C : Cx) (env : Env) (d : Nat) (target : Expr) (body : List Stmt) (ok : LS → Prop) : List PV → Loc → LS → PF → Loc → LS → Prop where
  | nil {ρ : Loc} {ls : LS} : ok ls → Lp C env d target body ok [] ρ ls .next ρ ls
  | next {p : PV} {ps : List PV} {ρ ρ1 ρ2 ρ3 : Loc} {ls ls2 ls3 : LS} {f : PF} : ok ls → ATo C env target ρ p ρ1 → XTo C env d (execs body env) ρ1 ls .next ρ2 ls2 → Lp C env d target body ok ps ρ2 ls2 f ρ3 ls3 → Lp C env d target body ok (p :: ps) ρ ls f ρ3 ls3
  | ret {p q : PV} {ps : List PV} {ρ ρ1 ρ2 : Loc} {ls ls2 : LS} : ok ls → ATo C env target ρ p ρ1 → XTo C env d (execs body env) ρ1 ls (.ret q) ρ2 ls2 → Lp C env d target body ok (p :: ps) ρ ls (.ret q) ρ2 ls2

def GrF (env : Env) (fp : List Addr) (h h' : Heap) : Prop := ∀ b o, h.get? b = some o → ¬ IsLst o → ¬ ownOf env b → b ∉ fp → h'.get? b = some o
theorem GrF.step {fp : List Addr} {h h1 h2 : Heap} (a : GrF env fp h h1) (g : GrS env h1 h2) : GrF env fp h h2 := fun b o e n l m => g b o (a b o e n l m) n l
theorem GrF.keep {fp : List Addr} {h h1 h2 : Heap} (a : GrF env fp h h1) (g : ∀ b o, b ∉ fp → h1.get? b = some o → h2.get? b = some o) : GrF env fp h h2 := fun b o e n l m => g b o m (a b o e n l m)
/-- a tool is no frame's -/
theorem Fm.notTool {am : Gh} {h : Heap} (F : Fm C env am h ρ) {b : Addr} {o : Obj} (e : h.get? b = some o) (t : Tool o) : ¬ ownOf env b := fun z => by
  rcases z with q | ⟨_, x, q⟩
  · obtain ⟨m, ⟨o'', es, ep, ho'', hd'', _⟩, _⟩ := F.ns
    rw [← q, e] at ho''; cases ho''; exact t.2.2.1 _ _ hd''
  · obtain ⟨ov, o'', ho'', hd''⟩ := F.all x b q
    rw [e] at ho''; cases ho''; exact t.2.2.2 _ hd''

theorem for_loop {ok : LS → Prop} {I : Addr} {fp : List Addr} {items : List PV} {St : Nat → Gh → Heap → Prop} {target : Expr} (W : Itr C target ok I fp items St) {body : List Stmt} {A : Around} {s : Shared} {am : Gh} {R : Result → Shared → Prop}
    (hr : Room A d) (hfr : ∀ b ∈ fp, C.hb.get? b = none) (Rp : Rep C am ls s.heap s.toks) (F : Fm C env am s.heap ρ) (st : St 0 am s.heap) (L : Lp C env d target body ok items ρ ls f ρ1 ls1)
    (K : ∀ fl h' tk am', Pre am am' → GrF env fp s.heap h' → Rep C am' ls1 h' tk → Fm C env am' h' ρ1 → RF am' h' f fl → R (.ok fl) { s with heap := h', toks := tk }) :
    codeAny (model C.prog C.w) A (.forLoop target (.ref I) body [] env) R s := by
  refine codeAny_forLoop_any (fun n s' => ∃ i am' ρ' ls' h' tk, s' = { s with heap := h', toks := tk } ∧ n = items.length - i ∧ i ≤ items.length ∧ Pre am am' ∧ Rep C am' ls' h' tk ∧ Fm C env am' h' ρ' ∧ St i am' h' ∧ Lp C env d target body ok (items.drop i) ρ' ls' f ρ1 ls1 ∧ GrF env fp s.heap h') ?_ items.length
    ⟨0, am, ρ, ls, s.heap, s.toks, rfl, rfl, Nat.zero_le _, Pre.refl _, Rp, F, st, L, fun b o e _ _ _ => e⟩
  rintro n s' ⟨i, am', ρ', ls', h', tk, rfl, rfl, hi, pf, R', F', st', L', g'⟩
  have fresh : ∀ b ∈ fp, b ∉ am'.l := fun b hb => R'.not_am fun xs hl => by
    obtain ⟨o, ho, ht⟩ := W.obj st' b hb
    obtain ⟨o', ho', hc, hn, hd⟩ := hl
    rw [ho] at ho'; cases ho'
    exact ht.1 ⟨hc, _, hn, hd⟩
  have tool : ∀ b o, b ∈ fp → h'.get? b = some o → Tool o := fun b o hb e => by
    obtain ⟨o', ho', ht⟩ := W.obj st' b hb
    rw [e] at ho'; cases ho'; exact ht
  have after : ∀ h2, (∀ b o, b ∉ fp → h'.get? b = some o → h2.get? b = some o) → Rep C am' ls' h2 tk ∧ Fm C env am' h2 ρ' := fun h2 k =>
    ⟨R'.change (X := fun b => b ∈ fp) (fun b o hb e => k b o hb e) hfr fresh fun b o hb e => (tool b o hb e).2.1, F'.keepsX (X := fun b => b ∈ fp) (fun b o hb e => k b o hb e) tool⟩
  cases e : items[i]? with
  | none =>
    have hi' : items.length ≤ i := by simpa using e
    have : i = items.length := Nat.le_antisymm hi hi'
    subst this
    rw [List.drop_length] at L'
    cases L' with
    | nil hok =>
      refine W.done hr R' hok st' fun h2 tk2 z2 k => ?_
      exact wpAny_execs_nil (K _ h2 tk2 am' pf (g'.keep k) ((after h2 k).1.up z2) (after h2 k).2 .next)
  | some p =>
    have hlt : i < items.length := (List.getElem?_eq_some_iff.mp e).1
    have hd : items.drop i = p :: items.drop (i + 1) := by
      rw [List.drop_eq_getElem_cons hlt, (List.getElem?_eq_some_iff.mp e).2]
    rw [hd] at L'
    have step : ∀ {ρa : Loc} {fb : PF} {ρb : Loc} {lsb : LS} (Qf : Flow → Shared → Prop) (E : Value → Shared → Prop) (N : Shared → Prop), ok ls' → ATo C env target ρ' p ρa → XTo C env d (execs body env) ρa ls' fb ρb lsb →
        (∀ fl h3 tk3 am3, Pre am' am3 → GrF env fp s.heap h3 → Rep C am3 lsb h3 tk3 → Fm C env am3 h3 ρb → St (i + 1) am3 h3 → RF am3 h3 fb fl → Qf fl { s with heap := h3, toks := tk3 }) →
        wpAny (model C.prog C.w) A (pyNext (.ref I)) (fun r s₁ => match r with
          | none => N s₁
          | some v => wpAny (model C.prog C.w) A (letOwnedTupleGo target (.ref I) v) (fun _ s₁' => wpAny (model C.prog C.w) A (assign target env v) (fun _ s₂ => wpAny (model C.prog C.w) A (execs body env) Qf E s₂) E s₁') E s₁) E { s with heap := h', toks := tk } := by
      intro ρa fb ρb lsb Qf E N hok ha hb KK
      refine wpAny_mono (W.item (Q := fun v s₁' => wpAny (model C.prog C.w) A (assign target env v) (fun _ s₂ => wpAny (model C.prog C.w) A (execs body env) Qf E s₂) E s₁') hr R' hok st' e fun v h2 tk2 z2 k st2 hv => ?_) (fun r s₁ x => ?_) fun _ _ x => x
      · refine ha A d _ am' ls' v _ E hr ((after h2 k).1.up z2) (after h2 k).2 hv fun h3 tk3 g3 R3 F3 => ?_
        have st3 : St (i + 1) am' h3 := W.stay st2 (Pre.refl _) fun b hb o eo => by
          obtain ⟨o', ho', ht⟩ := W.obj st2 b hb
          rw [eo] at ho'; cases ho'
          exact g3 b o eo ht.1 ((after h2 k).2.notTool eo ht)
        refine hb A _ am' Qf E hr R3 F3 fun fl h4 tk4 am4 p4 g4 R4 F4 rf => ?_
        refine KK fl h4 tk4 am4 p4 (((g'.keep k).step g3).step g4) R4 F4 (W.stay st3 p4 fun b hb o eo => ?_) rf
        obtain ⟨o', ho', ht⟩ := W.obj st3 b hb
        rw [eo] at ho'; cases ho'
        exact g4 b o eo ht.1 (F3.notTool eo ht)
      · cases r with
        | none => exact x.elim
        | some v => exact x
    cases L' with
    | next hok ha hb hl =>
      refine step _ _ _ hok ha hb fun fl h3 tk3 am3 p3 g3 R3 F3 st3 rf => ?_
      cases rf
      exact ⟨_, by lia, i + 1, am3, _, _, h3, tk3, rfl, rfl, hlt, pf.trans p3, R3, F3, st3, hl, g3⟩
    | ret hok ha hb =>
      refine step _ _ _ hok ha hb fun fl h3 tk3 am3 p3 g3 R3 F3 st3 rf => ?_
      cases rf with
      | ret hv => exact K _ h3 tk3 am3 (pf.trans p3) g3 R3 F3 (.ret hv)

theorem letOwned_other {target : Expr} {I : Addr} {v : Value} {c : String} {vs : Array Value} {M : Model} {A : Around} {s : Shared} {Q : Unit → Shared → Prop} {E : Value → Shared → Prop} {o : Obj} (ho : s.heap.get? I = some o) (hc : o.cls = .type c) (hd : o.data = .fields vs)
    (hn : (["enumerate", "zip", "dict_itemiterator", "dict_reverseitemiterator", "odict_iterator", "itertools.zip_longest", "itertools.pairwise"].contains c) = false) (z : Q () s) : wpAny M A (letOwnedTupleGo target (.ref I) v) Q E s := by
  unfold letOwnedTupleGo
  split
  · split
    · rename_i r a' hra
      cases hra
      refine wpAny_bind (wpAny_load ho ?_)
      rw [hc, hd]
      show wpAny _ A (if (["enumerate", "zip", "dict_itemiterator", "dict_reverseitemiterator", "odict_iterator", "itertools.zip_longest", "itertools.pairwise"].contains c && _) = true then _ else _) _ E _
      rw [hn, if_neg (by simp)]
      exact wpAny_pure z
    · exact wpAny_pure z
  · split
    · rename_i r a' hra
      cases hra
      refine wpAny_bind (wpAny_load ho ?_)
      rw [hc, hd]
      show wpAny _ A (if (["enumerate", "zip", "dict_itemiterator", "dict_reverseitemiterator", "odict_iterator", "itertools.zip_longest", "itertools.pairwise"].contains c && _) = true then _ else _) _ E _
      rw [hn, if_neg (by simp)]
      exact wpAny_pure z
    · exact wpAny_pure z
  · exact wpAny_pure z
/-- a list's iterator -/
theorem itr_list (n : Nat) (items : List PV) (I : Addr) {target : Expr} : Itr C target (fun ls => ls[n]? = some items) I [I] items (fun i am h => ∃ a, am.l[n]? = some a ∧ h.IsListIter I a i) where
  item := fun {A d s am ls i p} {Q E} hr R hok st e K => by
    obtain ⟨a, ha, hit⟩ := st
    obtain ⟨vs, hp, hv⟩ := R.its ha hok
    obtain ⟨v, hv, rv⟩ := hv.get e
    refine wpAny_pyNext_list_item hit hp.isList (x := v) (by simpa using hv) fun h' hit' hs => ?_
    have k : ∀ b o, b ∉ [I] → s.heap.get? b = some o → h'.get? b = some o := fun b o hb eo => (hs.2 b (by simpa using hb)).trans eo
    have gv : GrV s.heap h' := fun b o eo vo => k b o (fun hb => by
      have hb' : b = I := by simpa using hb
      subst hb'
      obtain ⟨o', ho', hc, hd⟩ := hit
      rw [eo] at ho'; cases ho'
      exact (tool_of hc hd (by decide)).2.1 vo) eo
    have z := K v h' s.toks (Nat.le_refl _) k ⟨a, ha, hit'⟩ (rv.monoV (Pre.refl _) gv)
    show wpAny _ A (letOwnedTupleGo target (.ref I) v) _ E _
    obtain ⟨o, ho, hc, hd⟩ := hit'
    exact letOwned_other ho hc hd (by decide) z
  done := fun {A d s am ls Q E} hr R hok st K => by
    obtain ⟨a, ha, hit⟩ := st
    obtain ⟨vs, hp, hv⟩ := R.its ha hok
    exact wpAny_pyNext_list_end hr.hand hit hp.isList (by simp [hv.length]) fun h' he => K h' s.toks (Nat.le_refl _) fun b o hb eo => he b o (by simpa using hb) eo
  self := fun st h => by obtain ⟨a, ha, hit⟩ := st; exact wpAny_pyIter_listiter hit h
  stay := fun st pf k => by
    obtain ⟨a, ha, o, ho, r⟩ := st
    exact ⟨a, prefix_get pf ha, o, k _ (by simp) o ho, r⟩
  obj := fun st b hb => by
    obtain ⟨a, ha, o, ho, hc, hd⟩ := st
    have : b = I := by simpa using hb
    subst this
    exact ⟨o, ho, tool_of hc hd (by decide)⟩
/-- a range's iterator -/
def rngItems (a b c : Int) : List PV := (List.range (Builtin.Range.rangeSize a b c).toNat).map fun (i : Nat) => .int (a + (i : Int) * c)
theorem itr_range (a b c : Int) (I : Addr) {target : Expr} : Itr C target (fun _ => True) I [I] (rngItems a b c) (fun i am h => IsRangeIter h I (a + i * c) (Builtin.Range.rangeSize a b c - i) c ∧ (i : Int) ≤ Builtin.Range.rangeSize a b c ∨ (IsRangeIter h I a (Builtin.Range.rangeSize a b c) c ∧ i = 0)) where
  item := fun {A d s am ls i p} {Q E} hr R hok st e K => by
    have hlt : i < (Builtin.Range.rangeSize a b c).toNat := by
      have := (List.getElem?_eq_some_iff.mp e).1
      simpa [rngItems] using this
    have hp : p = .int (a + i * c) := by
      have := (List.getElem?_eq_some_iff.mp e).2
      simp [rngItems] at this
      exact this.symm
    subst hp
    have hit : IsRangeIter s.heap I (a + i * c) (Builtin.Range.rangeSize a b c - i) c := by
      rcases st with st | ⟨st, h0⟩
      · exact st.1
      · subst h0; simpa using st
    refine wpAny_pyNext_range_item hit (by lia) fun h' hit' hs => ?_
    have k : ∀ b o, b ∉ [I] → s.heap.get? b = some o → h'.get? b = some o := fun b o hb eo => (hs.2 b (by simpa using hb)).trans eo
    have st' : IsRangeIter h' I (a + ((i + 1 : Nat) : Int) * c) (Builtin.Range.rangeSize a b c - ((i + 1 : Nat) : Int)) c := by
      have e1 : a + ((i + 1 : Nat) : Int) * c = a + i * c + c := by rw [Int.natCast_add, Int.add_mul]; lia
      have e2 : Builtin.Range.rangeSize a b c - ((i + 1 : Nat) : Int) = Builtin.Range.rangeSize a b c - i - 1 := by lia
      rw [e1, e2]; exact hit'
    have z := K _ h' (s.toks + 1) (Nat.le_succ _) k (.inl ⟨st', by lia⟩) (.int _ s.toks)
    exact letOwned_other hit' rfl rfl (by decide) z
  done := fun {A d s am ls Q E} hr R hok st K => by
    have hl : (rngItems a b c).length = (Builtin.Range.rangeSize a b c).toNat := by simp [rngItems]
    rw [hl] at st
    rcases st with ⟨st, h1⟩ | ⟨st, h1⟩
    · exact wpAny_pyNext_range_end hr.hand st (by lia) fun h' he => K h' s.toks (Nat.le_refl _) fun b o hb eo => he b o (by simpa using hb) eo
    · exact wpAny_pyNext_range_end hr.hand st (by lia) fun h' he => K h' s.toks (Nat.le_refl _) fun b o hb eo => he b o (by simpa using hb) eo
  self := fun st h => by rcases st with ⟨st, _⟩ | ⟨st, _⟩ <;> exact wpAny_pyIter_rangeiter st h
  stay := fun st pf k => by
    rcases st with ⟨st, h1⟩ | ⟨st, h1⟩
    · exact .inl ⟨k _ (by simp) _ st, h1⟩
    · exact .inr ⟨k _ (by simp) _ st, h1⟩
  obj := fun st b hb => by
    have : b = I := by simpa using hb
    subst this
    rcases st with ⟨st, _⟩ | ⟨st, _⟩
    · exact ⟨_, st, tool_of (c := "range_iterator") rfl rfl (by decide)⟩
    · exact ⟨_, st, tool_of (c := "range_iterator") rfl rfl (by decide)⟩

/-! for, over a list, over a range -/
theorem GrF.s {fp : List Addr} {h h0 h' : Heap} (k : ∀ b o, h.get? b = some o → h0.get? b = some o) (hfp : ∀ b ∈ fp, h.get? b = none) (g : GrF env fp h0 h') : GrS env h h' := fun b o e n l => g b o (k b o e) n l fun hb => by rw [hfp b hb] at e; cases e
/-! while -/
inductive Wl (C : Cx) (env : Env) (d : Nat) (test : Expr) (body : List Stmt) : Nat → Loc → LS → PF → Loc → LS → Prop where
  | stop {n : Nat} {ρ : Loc} {ls ls1 : LS} : BTo C env d (isTrue test env (eval test env)) ρ ls false ls1 → Wl C env d test body n ρ ls .next ρ ls1
  | next {n : Nat} {ρ ρ1 ρ2 : Loc} {ls ls1 ls2 ls3 : LS} {f : PF} : BTo C env d (isTrue test env (eval test env)) ρ ls true ls1 → XTo C env d (execs body env) ρ ls1 .next ρ1 ls2 → Wl C env d test body n ρ1 ls2 f ρ2 ls3 → Wl C env d test body (n + 1) ρ ls f ρ2 ls3
theorem x_while {test : Expr} {body : List Stmt} {pos : Pos} {n : Nat} (L : Wl C env d test body n ρ ls f ρ1 ls1) : XTo C env d (exec (.While test body [] pos) env) ρ ls f ρ1 ls1 := fun A s am Q E hr R F K => by
  refine wpAny_While ?_
  refine codeAny_whileLoop (fun n s' => ∃ am' ρ' ls' h' tk, s' = { s with heap := h', toks := tk } ∧ Pre am am' ∧ Rep C am' ls' h' tk ∧ Fm C env am' h' ρ' ∧ Wl C env d test body n ρ' ls' f ρ1 ls1 ∧ GrS env s.heap h') ?_ n
    ⟨am, ρ, ls, s.heap, s.toks, rfl, Pre.refl _, R, F, L, GrS.refl _ _⟩
  rintro n s' ⟨am', ρ', ls', h', tk, rfl, pf, R', F', L', g'⟩
  cases L' with
  | stop ht =>
    refine ht A _ am' _ _ hr R' F' fun h2 tk2 am2 p2 g2 R2 => ?_
    rw [if_neg (by decide)]
    exact wpAny_execs_nil (K _ h2 tk2 am2 (pf.trans p2) (g'.trans g2.s) R2 (F'.mono p2 g2) .next)
  | next ht hb hl =>
    refine ht A _ am' _ _ hr R' F' fun h2 tk2 am2 p2 g2 R2 => ?_
    rw [if_pos rfl]
    refine hb A _ am2 _ _ hr R2 (F'.mono p2 g2) fun fl h3 tk3 am3 p3 g3 R3 F3 rf => ?_
    cases rf
    exact ⟨_, Nat.lt_succ_self _, am3, _, _, h3, tk3, rfl, pf.trans (p2.trans p3), R3, F3, hl, g'.trans (g2.s.trans g3)⟩
end
end Mine
end
section
open PySem PySem.W PySem.Calls PyProof.Rows
set_option maxRecDepth 100000
set_option linter.unusedVariables false
namespace Mine
inductive Ts (C : Cx) (env : Env) (d : Nat) : List Expr → Loc → LS → Bool → LS → Prop where
  | nil {ρ : Loc} {ls : LS} : Ts C env d [] ρ ls true ls
  | one {c : Expr} {ρ : Loc} {ls ls1 : LS} {b : Bool} : BTo C env d (isTrue c env (eval c env)) ρ ls b ls1 → Ts C env d [c] ρ ls b ls1
inductive Cp (C : Cx) (env : Env) (d : Nat) (target elt : Expr) (ifs : List Expr) (ok : LS → Prop) (k : Nat) : List PV → Loc → LS → Loc → LS → Prop where
  | nil {ρ : Loc} {ls : LS} : ok ls → Cp C env d target elt ifs ok k [] ρ ls ρ ls
  | skip {p : PV} {ps : List PV} {ρ ρ1 ρ2 : Loc} {ls ls1 ls2 : LS} : ok ls → ATo C env target ρ p ρ1 → Ts C env d ifs ρ1 ls false ls1 → Cp C env d target elt ifs ok k ps ρ1 ls1 ρ2 ls2 → Cp C env d target elt ifs ok k (p :: ps) ρ ls ρ2 ls2
  | emit {p q : PV} {ps acc : List PV} {ρ ρ1 ρ2 : Loc} {ls ls1 ls2 ls3 : LS} : ok ls → ATo C env target ρ p ρ1 → Ts C env d ifs ρ1 ls true ls1 → ETo C env d (eval elt env) ρ1 ls1 q ls2 → ls2[k]? = some acc → acc.length ≤ sizeLine →
      Cp C env d target elt ifs ok k ps ρ1 (ls2.set k (acc ++ [q])) ρ2 ls3 → Cp C env d target elt ifs ok k (p :: ps) ρ ls ρ2 ls3
section
variable {C : Cx} {env : Env} {d : Nat} {ρ ρ1 ρ2 ρ3 : Loc} {ls ls1 ls2 ls3 : LS} {p q r : PV} {f : PF} {ps qs : List PV}
theorem Ts.run {ifs : List Expr} {b : Bool} (h : Ts C env d ifs ρ ls b ls1) {A : Around} {s : Shared} {am : Gh} {Q : Bool → Shared → Prop} {E : Value → Shared → Prop} (hr : Room A d) (R : Rep C am ls s.heap s.toks) (F : Fm C env am s.heap ρ)
    (K : ∀ h' tk am', Pre am am' → Gr s.heap h' → Rep C am' ls1 h' tk → Q b { s with heap := h', toks := tk }) :
    wpAny (model C.prog C.w) A (forIn ifs true fun c r => if r = true then do let ok ← isTrue c env (eval c env); pure (ForInStep.yield ok) else pure (ForInStep.yield r)) Q E s := by
  cases h with
  | nil => rw [List.forIn_nil]; exact wpAny_pure (K s.heap s.toks am (Pre.refl _) (Gr.refl _) R)
  | one hb =>
    rw [List.forIn_cons, if_pos rfl]
    refine wpAny_bind (wpAny_bind (hb A s am _ E hr R F fun h' tk am' p1 g1 R1 => wpAny_pure ?_))
    show wpAny _ A (forIn [] b _) Q E _
    rw [List.forIn_nil]
    exact wpAny_pure (K h' tk am' p1 g1 R1)
theorem comp_any {prog : Program} {w : World} {A : Around} {R : Result → Shared → Prop} {s : Shared} {elt target iter : Expr} {ifs : List Expr} {scope : Scope} {pos : Pos} {it acc : Value} {env : Env} (I : Nat → Shared → Prop)
    (turn : ∀ n s, I n s → wpAny (model prog w) A (pyNext it) (fun r s₁ => match r with
      | none => R (.ok .next) s₁
      | some v => wpAny (model prog w) A (letOwnedTupleGo target it v) (fun _ s₁' => wpAny (model prog w) A (assign target env v) (fun _ s₂ =>
          wpAny (model prog w) A (forIn ifs true fun c r => if r = true then do let ok ← isTrue c env (eval c env); pure (ForInStep.yield ok) else pure (ForInStep.yield r)) (fun ok s₃ =>
            if ok = true then wpAny (model prog w) A (eval elt env) (fun x s₄ =>
              wpAny (model prog w) A (call (.builtin "list.append") [acc, x]) (fun _ s₅ => ∃ m, m < n ∧ I m s₅) (notedBy (model prog w) A env fun e s' => R (.error e) s') s₄) (notedBy (model prog w) A env fun e s' => R (.error e) s') s₃
            else ∃ m, m < n ∧ I m s₃) (notedBy (model prog w) A env fun e s' => R (.error e) s') s₂) (notedBy (model prog w) A env fun e s' => R (.error e) s') s₁') (notedBy (model prog w) A env fun e s' => R (.error e) s') s₁) (notedBy (model prog w) A env fun e s' => R (.error e) s') s)
    (n : Nat) (h : I n s) : codeAny (model prog w) A (.compLoop (.ListComp elt [⟨target, iter, ifs, 0⟩] scope pos) 0 it acc env) R s := by
  refine codeAny_loop rfl I (fun n s hI => ?_) n h
  show wpAny _ A ((compTurn (.ListComp elt [⟨target, iter, ifs, 0⟩] scope pos) 0 it acc env).onRaise (fun x => do noteFrame x env; theTreesLotGoes x)) _ _ s
  refine wpAny_noted ?_
  rw [compTurn_list]
  refine wpAny_bind (wpAny_standAt (wpAny_bind (wpAny_mono (turn n s hI) (fun r s₁ h₁ => ?_) fun _ _ h' => h')))
  cases r with
  | none => exact wpAny_pure h₁
  | some v =>
    refine wpAny_bind (wpAny_mono h₁ (fun _ s₁' h₁' => ?_) fun _ _ h' => h')
    refine wpAny_bind (wpAny_mono h₁' (fun _ s₂ h₂ => wpAny_bind (wpAny_mono h₂ (fun ok s₃ h₃ => ?_) fun _ _ h' => h')) fun _ _ h' => h')
    cases ok with
    | false => exact wpAny_pure ⟨rfl, h₃⟩
    | true => exact wpAny_bind (wpAny_bind (wpAny_mono h₃ (fun x s₄ h₄ => wpAny_bind (wpAny_mono h₄ (fun _ s₅ h₅ => wpAny_pure (wpAny_pure ⟨rfl, h₅⟩)) fun _ _ h' => h')) fun _ _ h' => h'))
theorem comp_loop {ok : LS → Prop} {I D : Addr} {k : Nat} {fp : List Addr} {items : List PV} {St : Nat → Gh → Heap → Prop} {target elt iter : Expr} (W : Itr C target ok I fp items St) {ifs : List Expr} {scope : Scope} {pos : Pos} {A : Around} {s : Shared} {am : Gh} {R : Result → Shared → Prop}
    (hr : Room A d) (hfr : ∀ b ∈ fp, C.hb.get? b = none) (Rp : Rep C am ls s.heap s.toks) (F : Fm C env am s.heap ρ) (st : St 0 am s.heap) (hk : am.l[k]? = some D) (L : Cp C env d target elt ifs ok k items ρ ls ρ1 ls1)
    (K : ∀ h' tk am', Pre am am' → GrF env fp s.heap h' → Rep C am' ls1 h' tk → Fm C env am' h' ρ1 → R (.ok .next) { s with heap := h', toks := tk }) :
    codeAny (model C.prog C.w) A (.compLoop (.ListComp elt [⟨target, iter, ifs, 0⟩] scope pos) 0 (.ref I) (.ref D) env) R s := by
  refine comp_any (fun n s' => ∃ i am' ρ' ls' h' tk, s' = { s with heap := h', toks := tk } ∧ n = items.length - i ∧ i ≤ items.length ∧ Pre am am' ∧ Rep C am' ls' h' tk ∧ Fm C env am' h' ρ' ∧ St i am' h' ∧ Cp C env d target elt ifs ok k (items.drop i) ρ' ls' ρ1 ls1 ∧ GrF env fp s.heap h') ?_ items.length
    ⟨0, am, ρ, ls, s.heap, s.toks, rfl, rfl, Nat.zero_le _, Pre.refl _, Rp, F, st, L, fun b o e _ _ _ => e⟩
  rintro n s' ⟨i, am', ρ', ls', h', tk, rfl, rfl, hi, pf, R', F', st', L', g'⟩
  have fresh : ∀ b ∈ fp, b ∉ am'.l := fun b hb => R'.not_am fun xs hl => by
    obtain ⟨o, ho, ht⟩ := W.obj st' b hb
    obtain ⟨o', ho', hc, hn, hd⟩ := hl
    rw [ho] at ho'; cases ho'
    exact ht.1 ⟨hc, _, hn, hd⟩
  have tool : ∀ b o, b ∈ fp → h'.get? b = some o → Tool o := fun b o hb e => by
    obtain ⟨o', ho', ht⟩ := W.obj st' b hb
    rw [e] at ho'; cases ho'; exact ht
  have after : ∀ h2, (∀ b o, b ∉ fp → h'.get? b = some o → h2.get? b = some o) → Rep C am' ls' h2 tk ∧ Fm C env am' h2 ρ' := fun h2 k =>
    ⟨R'.change (X := fun b => b ∈ fp) (fun b o hb e => k b o hb e) hfr fresh fun b o hb e => (tool b o hb e).2.1, F'.keepsX (X := fun b => b ∈ fp) (fun b o hb e => k b o hb e) tool⟩
  cases e : items[i]? with
  | none =>
    have hi' : items.length ≤ i := by simpa using e
    have : i = items.length := Nat.le_antisymm hi hi'
    subst this
    rw [List.drop_length] at L'
    cases L' with
    | nil hok =>
      refine W.done hr R' hok st' fun h2 tk2 z2 k => ?_
      exact K h2 tk2 am' pf (g'.keep k) ((after h2 k).1.up z2) (after h2 k).2
  | some p =>
    have hlt : i < items.length := (List.getElem?_eq_some_iff.mp e).1
    have hd : items.drop i = p :: items.drop (i + 1) := by
      rw [List.drop_eq_getElem_cons hlt, (List.getElem?_eq_some_iff.mp e).2]
    rw [hd] at L'
    have head : ∀ {ρa : Loc} (Qa : Shared → Prop) (E : Value → Shared → Prop) (N : Shared → Prop), ok ls' → ATo C env target ρ' p ρa →
        (∀ h3 tk3, GrF env fp s.heap h3 → Rep C am' ls' h3 tk3 → Fm C env am' h3 ρa → St (i + 1) am' h3 → Qa { s with heap := h3, toks := tk3 }) →
        wpAny (model C.prog C.w) A (pyNext (.ref I)) (fun r s₁ => match r with
          | none => N s₁
          | some v => wpAny (model C.prog C.w) A (letOwnedTupleGo target (.ref I) v) (fun _ s₁' => wpAny (model C.prog C.w) A (assign target env v) (fun _ s₂ => Qa s₂) E s₁') E s₁) E { s with heap := h', toks := tk } := by
      intro ρa Qa E N hok ha KK
      refine wpAny_mono (W.item (Q := fun v s₁' => wpAny (model C.prog C.w) A (assign target env v) (fun _ s₂ => Qa s₂) E s₁') hr R' hok st' e fun v h2 tk2 z2 k st2 hv => ?_) (fun r s₁ x => ?_) fun _ _ x => x
      · refine ha A d _ am' ls' v _ E hr ((after h2 k).1.up z2) (after h2 k).2 hv fun h3 tk3 g3 R3 F3 => ?_
        refine KK h3 tk3 ((g'.keep k).step g3) R3 F3 (W.stay st2 (Pre.refl _) fun b hb o eo => ?_)
        obtain ⟨o', ho', ht⟩ := W.obj st2 b hb
        rw [eo] at ho'; cases ho'
        exact g3 b o eo ht.1 ((after h2 k).2.notTool eo ht)
      · cases r with
        | none => exact x.elim
        | some v => exact x
    have moved : ∀ {h3 h4 am4}, St (i + 1) am' h3 → Pre am' am4 → Gr h3 h4 → St (i + 1) am4 h4 := fun {h3 h4 am4} st3 p4 g4 => W.stay st3 p4 fun b hb o eo => by
      obtain ⟨o', ho', ht⟩ := W.obj st3 b hb
      rw [eo] at ho'; cases ho'
      exact g4 b o eo ht.1
    cases L' with
    | skip hok ha ht hl =>
      refine head _ _ _ hok ha fun h3 tk3 g3 R3 F3 st3 => ?_
      refine ht.run hr R3 F3 fun h4 tk4 am4 p4 g4 R4 => ?_
      rw [if_neg (by decide)]
      exact ⟨_, by lia, i + 1, am4, _, _, h4, tk4, rfl, rfl, hlt, pf.trans p4, R4, F3.mono p4 g4, moved st3 p4 g4, hl, g3.step g4.s⟩
    | emit hok ha ht he hacc hsz hl =>
      refine head _ _ _ hok ha fun h3 tk3 g3 R3 F3 st3 => ?_
      refine ht.run hr R3 F3 fun h4 tk4 am4 p4 g4 R4 => ?_
      rw [if_pos rfl]
      refine he A _ am4 _ _ hr R4 (F3.mono p4 g4) fun v h5 tk5 am5 p5 g5 R5 hv => ?_
      have hD : am5.l[k]? = some D := prefix_get (pf.trans (p4.trans p5)) hk
      obtain ⟨vs, hp, hvs⟩ := R5.its hD hacc
      refine wpAny_list_append_plain hp (fun h6 hp6 hs6 => ?_) (by rw [List.size_toArray, hvs.length]; exact hsz)
      obtain ⟨R6, g6⟩ := R5.put (l' := _ ++ [_]) (vs' := vs ++ [v]) hD hacc (fun b hb => hs6.2 b hb) (by simpa using hp6) (hvs.append (.cons hv .nil))
      have gg := g4.trans (g5.trans g6)
      exact ⟨_, by lia, i + 1, am5, _, _, h6, tk5, rfl, rfl, hlt, pf.trans (p4.trans p5), R6, F3.mono (p4.trans p5) gg, moved st3 (p4.trans p5) gg, hl, g3.step gg.s⟩
end
end Mine
end
section
open PySem PySem.W PySem.Calls PyProof.Rows
set_option maxRecDepth 100000
set_option linter.unusedVariables false
namespace Mine
/-- the block of a comprehension -/
def cenvOf (scope : Scope) (env : Env) (L : Addr) (cl : List (Str × Addr)) : Env :=
  { scope := relabel scope env, locals := L, globals := env.globals, cells := cellsFrom (L + 1) scope.names cl, qual := env.qual, func := none, code := env.code, frame := env.frame, builtins := env.builtins }
inductive ClOk (env : Env) : List (Str × Addr) → Prop where
  | nil : ClOk env []
  | cons {x : Str} {c : Addr} {cl : List (Str × Addr)} : env.cells.lookup x = some c → ClOk env cl → ClOk env ((x, c) :: cl)
theorem ClOk.look {env : Env} {cl : List (Str × Addr)} (h : ClOk env cl) : ∀ {x : Str} {c : Addr}, cl.lookup x = some c → env.cells.lookup x = some c := by
  induction h with
  | nil => intro x c e; simp at e
  | cons h1 _ ih =>
    intro x c e
    rw [List.lookup_cons] at e
    split at e
    · rename_i hb
      have hb' := beq_iff_eq.mp hb
      rw [hb']; cases e; exact h1
    · exact ih e
inductive Cl (env : Env) (scope : Scope) (cl : List (Str × Addr)) (ρ : Loc) : Loc → Prop where
  | nil : Cl env scope cl ρ []
  | cons {x : Str} {p : PV} {c : Addr} {ρc : Loc} : ρ.lookup x = some p → env.kindOf x ≠ some .local → env.cells.lookup x = some c → (relabel scope env).names.lookup x ≠ some .local → (∀ n, (cellsFrom n scope.names cl).lookup x = some c) → Cl env scope cl ρ ρc → Cl env scope cl ρ ((x, p) :: ρc)
theorem Cl.look {env : Env} {scope : Scope} {cl : List (Str × Addr)} {ρ ρc : Loc} (h : Cl env scope cl ρ ρc) : ∀ {x : Str} {p : PV}, ρc.lookup x = some p → ∃ c, ρ.lookup x = some p ∧ env.kindOf x ≠ some .local ∧ env.cells.lookup x = some c ∧ (relabel scope env).names.lookup x ≠ some .local ∧ ∀ n, (cellsFrom n scope.names cl).lookup x = some c := by
  induction h with
  | nil => intro x p e; simp at e
  | cons h1 h2 h3 h4 h5 _ ih =>
    intro x p e
    rw [List.lookup_cons] at e
    split at e
    · rename_i hb
      have hb' := beq_iff_eq.mp hb
      subst hb'; cases e; exact ⟨_, h1, h2, h3, h4, h5⟩
    · exact ih e
theorem cellsFrom_look : ∀ (names : List (Str × NameKind)) (h : Heap) (cl : List (Str × Addr)) {x : Str} {c : Addr}, (cellsFrom h.objs.size names cl).lookup x = some c → (h.objs.size ≤ c ∧ (pushCells h names).IsCell c none) ∨ cl.lookup x = some c
  | [], h, cl, x, c, e => .inr e
  | (name, kind) :: r, h, cl, x, c, e => by
    unfold cellsFrom at e
    unfold pushCells
    split at e
    · rename_i hk
      rw [if_pos hk]
      have hs : (h.push { cls := .type "cell", data := .cell none }).objs.size = h.objs.size + 1 := Heap.size_push ..
      rw [← hs] at e
      rcases cellsFrom_look r _ _ e with ⟨h1, h2⟩ | h1
      · exact .inl ⟨by rw [hs] at h1; exact Nat.le_of_succ_le h1, h2⟩
      · rw [List.lookup_cons] at h1
        split at h1
        · cases h1
          exact .inl ⟨Nat.le_refl _, ⟨_, pushCells_keeps r _ _ _ (Heap.get?_push_size _ rfl), rfl⟩⟩
        · exact .inr h1
    · rename_i hk
      rw [if_neg hk]
      exact cellsFrom_look r h cl e
theorem cellsFrom_inj : ∀ (names : List (Str × NameKind)) (n : Nat) (cl : List (Str × Addr)), (∀ x y c, cl.lookup x = some c → cl.lookup y = some c → x = y) → (∀ x c, cl.lookup x = some c → c < n) →
    ∀ x y c, (cellsFrom n names cl).lookup x = some c → (cellsFrom n names cl).lookup y = some c → x = y
  | [], n, cl, h1, h2 => h1
  | (name, kind) :: r, n, cl, h1, h2 => by
    unfold cellsFrom
    split
    · refine cellsFrom_inj r (n + 1) ((name, n) :: cl) (fun x y c ex ey => ?_) fun x c ex => ?_
      · rw [List.lookup_cons] at ex ey
        split at ex
        · rename_i _ a
          cases ex
          split at ey
          · rename_i _ b; exact (beq_iff_eq.mp a).trans (beq_iff_eq.mp b).symm
          · exact absurd (h2 _ _ ey) (Nat.lt_irrefl _)
        · split at ey
          · cases ey; exact absurd (h2 _ _ ex) (Nat.lt_irrefl _)
          · exact h1 x y c ex ey
      · rw [List.lookup_cons] at ex
        split at ex
        · cases ex; exact Nat.lt_succ_self _
        · exact Nat.lt_succ_of_lt (h2 _ _ ex)
    · exact cellsFrom_inj r n cl h1 h2
section
variable {C : Cx} {env : Env} {d : Nat} {ρ ρ1 ρ2 ρ3 : Loc} {ls ls1 ls2 ls3 : LS} {p q r : PV} {f : PF} {ps qs : List PV}
theorem wp_compEnv {M : Model} {A : Around} {s : Shared} {Q : Env → Shared → Prop} {E : Value → Shared → Prop} {scope : Scope} {cl : List (Str × Addr)}
    (h : Q { scope, locals := s.heap.objs.size, globals := env.globals, cells := cellsFrom (s.heap.objs.size + 1) scope.names cl, qual := env.qual, func := none, code := env.code, frame := env.frame, builtins := env.builtins } { s with heap := pushCells (s.heap.push { cls := .type "dict", data := .dict #[] }) scope.names }) :
    wpAny M A (newFunctionEnv scope env.globals cl [] env.qual none .none (some env)) Q E s := by
  simp only [newFunctionEnv, Option.isSome_some, if_true]
  refine wpAny_bind (wpAny_alloc ?_)
  refine wpAny_bind (wpAny_layCells _ (fun name kind cells => by cases hkc : kind == NameKind.cell <;> simp [hkc]) _ _ _ _ ?_)
  rw [show ({ s with heap := s.heap.push { cls := .type "dict", data := .dict #[] } } : Shared).heap.objs.size = s.heap.objs.size + 1 from Heap.size_push ..]
  exact wpAny_bind (wpAny_pure (wpAny_pure h))
theorem comp_block {ok : LS → Prop} {I : Addr} {fp : List Addr} {items : List PV} {St : Nat → Gh → Heap → Prop} {target elt iter : Expr} (W : Itr C target ok I fp items St) {ifs : List Expr} {scope : Scope} {pos : Pos} {cl : List (Str × Addr)} {ρc : Loc} {A : Around} {s : Shared} {am : Gh} {RR : Value → Addr → Result → Shared → Prop} {E : Value → Shared → Prop}
    (hr : Room A d) (hfr : ∀ b ∈ fp, C.hb.get? b = none) (Rp : Rep C am ls s.heap s.toks) (F : Fm C env am s.heap ρ) (st : St 0 am s.heap) (hkind : scope.kind = .function) (hcl : ClOk env cl) (hρ : Cl env scope cl ρ ρc)
    (L : ∀ Lc, ∃ ρ1, Cp C (cenvOf scope env Lc cl) d target elt ifs ok ls.length items ρc (ls ++ [[]]) ρ1 ls1)
    (K : ∀ D Lc h' tk am' m, Pre (am.add (D)) (am') → s.heap.get? Lc = none → C.hb.get? Lc = none → Lc ∉ am'.l → h'.Ns Lc m → (∀ b o, s.heap.get? b = some o → ¬ IsLst o → b ∉ fp → h'.get? b = some o) → Rep C am' ls1 h' tk → RR (.ref D) Lc (.ok .next) { s with heap := h', toks := tk }) :
    wpAny (model C.prog C.w) A (newList []) (fun acc s₃ => wpAny (model C.prog C.w) A (newFunctionEnv scope env.globals cl [] env.qual none .none (some env)) (fun cenv s₄ =>
      codeAny (model C.prog C.w) A (.compStart (.ListComp elt [⟨target, iter, ifs, 0⟩] scope pos) 0 (.ref I) acc { cenv with scope := relabel scope env }) (RR acc cenv.locals) s₄) E s₃) E s := by
  refine wpAny_newList ?_ (Nat.zero_le _)
  refine wp_compEnv ?_
  dsimp only
  generalize hh1 : s.heap.push { cls := .type "list", data := .seq ([] : List Value).toArray } = h1
  have hs1 : h1.objs.size = s.heap.objs.size + 1 := by rw [← hh1]; exact Heap.size_push ..
  have k1 : ∀ b o, s.heap.get? b = some o → h1.get? b = some o := fun b o e => by rw [← hh1]; exact Heap.get?_push_of_some _ e
  have R1 : Rep C (am.add (s.heap.objs.size)) (ls ++ [[]]) h1 s.toks := Rp.more get_size k1 ⟨_, by rw [← hh1]; exact Heap.get?_push_size _ rfl⟩ .nil
  generalize hh2 : h1.push { cls := .type "dict", data := .dict #[] } = h2
  have hs2 : h2.objs.size = h1.objs.size + 1 := by rw [← hh2]; exact Heap.size_push ..
  have hn2 : h2.Ns h1.objs.size fun _ => none := by rw [← hh2]; exact Heap.Ns.new ..
  have k2 : ∀ b o, h1.get? b = some o → h2.get? b = some o := fun b o e => by rw [← hh2]; exact Heap.get?_push_of_some _ e
  have k3 := pushCells_keeps scope.names h2
  have kk : ∀ b o, s.heap.get? b = some o → (pushCells h2 scope.names).get? b = some o := fun b o e => k3 b o (k2 b o (k1 b o e))
  have R3 : Rep C (am.add (s.heap.objs.size)) (ls ++ [[]]) (pushCells h2 scope.names) s.toks := R1.keeps fun b o e => k3 b o (k2 b o e)
  have pf : Pre am (am.add (s.heap.objs.size)) := Pre.add _ _
  have oldc : ∀ x c, env.cells.lookup x = some c → c < s.heap.objs.size := fun x c e => by
    obtain ⟨ov, o, ho, _⟩ := F.all x c e
    exact Heap.lt_size ho
  have F3 : Fm C (cenvOf scope env h1.objs.size cl) (am.add (s.heap.objs.size)) (pushCells h2 scope.names) ρc := by
    refine ⟨hkind, F.gl, F.bl, ?_, fun x c e => ?_, ⟨_, hn2.keeps k3, fun x q e hx => ?_⟩, fun x q e hx => ?_, fun x c e => ?_, ?_⟩
    · exact Rp.fresh (by show s.heap.objs.size ≤ h1.objs.size; rw [hs1]; exact Nat.le_succ _)
    · have e' : (cellsFrom h2.objs.size scope.names cl).lookup x = some c := by rw [hs2]; exact e
      rcases cellsFrom_look _ _ _ e' with ⟨h, _⟩ | h
      · exact Rp.fresh (Nat.le_trans (by rw [hs2, hs1]; exact Nat.le_succ_of_le (Nat.le_succ _)) h)
      · exact F.frc x c (hcl.look h)
    · obtain ⟨c, _, _, _, h4, _⟩ := hρ.look e
      exact absurd hx h4
    · obtain ⟨c, e1, e2, e3, e4, e5⟩ := hρ.look e
      obtain ⟨c', v, hc', hv, rv⟩ := F.cel x q e1 e2
      rw [e3] at hc'; cases hc'
      exact ⟨c, v, e5 _, hv.keeps kk, rv.mono pf (Gr.of_keeps kk)⟩
    · have e' : (cellsFrom h2.objs.size scope.names cl).lookup x = some c := by rw [hs2]; exact e
      rcases cellsFrom_look _ _ _ e' with ⟨_, h⟩ | h
      · exact ⟨_, h⟩
      · obtain ⟨ov, ho⟩ := F.all x c (hcl.look h)
        exact ⟨ov, ho.keeps kk⟩
    · exact cellsFrom_inj _ _ _ (fun x y c ex ey => F.apart x y c (hcl.look ex) (hcl.look ey)) fun x c ex => by
        have := oldc x c (hcl.look ex)
        rw [hs1]; exact Nat.lt_succ_of_lt (Nat.lt_succ_of_lt this)
  have st3 : St 0 (am.add (s.heap.objs.size)) (pushCells h2 scope.names) := W.stay st pf fun b _ o e => kk b o e
  obtain ⟨ρ1, L1⟩ := L h1.objs.size
  have fin : codeAny (model C.prog C.w) A (.compLoop (.ListComp elt [⟨target, iter, ifs, 0⟩] scope pos) 0 (.ref I) (.ref s.heap.objs.size) (cenvOf scope env h1.objs.size cl)) (RR (.ref s.heap.objs.size) h1.objs.size) { s with heap := pushCells h2 scope.names } := by
    refine comp_loop W hr hfr R3 F3 st3 (D := s.heap.objs.size) (Rp.last _) L1 fun h' tk am' p' g' R' F' => ?_
    obtain ⟨m, hn, _⟩ := F'.ns
    refine K s.heap.objs.size h1.objs.size h' tk am' m p' ?_ ?_ (R'.not_am fun xs => ns_not_list hn) hn (fun b o e n hb => ?_) R'
    · cases e : s.heap.get? h1.objs.size with
      | none => rfl
      | some o => have := Heap.lt_size e; rw [hs1] at this; exact absurd this (Nat.not_lt.mpr (Nat.le_succ _))
    · exact Rp.fresh (by rw [hs1]; exact Nat.le_succ _)
    · refine g' b o (kk b o e) n (fun z => ?_) hb
      have hlt := Heap.lt_size e
      rcases z with z | ⟨z, _⟩
      · have z' : b = h1.objs.size := z
        rw [z', hs1] at hlt; exact absurd hlt (Nat.not_lt.mpr (Nat.le_succ _))
      · have z' : h1.objs.size < b := z
        rw [hs1] at z'
        exact absurd (Nat.lt_trans (Nat.lt_succ_self _) z') (Nat.lt_asymm hlt)
  exact codeAny_compStart_list fin (W.self st3 fin)

/-- what may be gone through -/
def Src (C : Cx) (target : Expr) (p : PV) (ls : LS) (ok : LS → Prop) (items : List PV) : Prop :=
  ∀ (A : Around) (d : Nat) (s : Shared) (am : Gh) (v : Value) (Q : Value → Shared → Prop) (E : Value → Shared → Prop), Room A d → Rep C am ls s.heap s.toks → RV am s.heap p v →
    (∀ I fp St h' tk, s.toks ≤ tk → Itr C target ok I fp items St → (∀ b o, s.heap.get? b = some o → h'.get? b = some o) → (∀ b ∈ fp, s.heap.get? b = none) → St 0 am h' → Q (.ref I) { s with heap := h', toks := tk }) → wpAny (model C.prog C.w) A (pyIter v) Q E s
theorem src_list {target : Expr} {n : Nat} {items : List PV} (hn : ls[n]? = some items) : Src C target (.lst n) ls (fun ls => ls[n]? = some items) items := fun A d s am v Q E hr R hv K => by
  cases hv with
  | lst hm =>
    obtain ⟨vs, hp, _⟩ := R.its hm hn
    refine wpAny_pyIter_list hp.isList ?_
    refine K s.heap.objs.size [s.heap.objs.size] _ _ s.toks (Nat.le_refl _) (itr_list n items _) (fun b o e => Heap.get?_push_of_some _ e) (fun b hb => ?_) ⟨_, hm, ⟨_, Heap.get?_push_size _ rfl, rfl, rfl⟩⟩
    have : b = s.heap.objs.size := by simpa using hb
    rw [this]; exact get_size
theorem src_range {target : Expr} {a b c : Int} (hsm : Builtin.Range.small a b c = true) : Src C target (.rng a b c) ls (fun _ => True) (rngItems a b c) := fun A d s am v Q E hr R hv K => by
  cases hv with
  | rng hrg =>
    refine wpAny_pyIter_range hrg hsm ?_
    refine K s.heap.objs.size [s.heap.objs.size] _ _ s.toks (Nat.le_refl _) (itr_range a b c _) (fun b o e => Heap.get?_push_of_some _ e) (fun b hb => ?_) (.inr ⟨Heap.get?_push_size _ rfl, rfl⟩)
    have : b = s.heap.objs.size := by simpa using hb
    rw [this]; exact get_size
theorem x_for {target iter : Expr} {body : List Stmt} {pos : Pos} {ok : LS → Prop} {items : List PV} (h : ETo C env d (eval iter env) ρ ls p ls1) (S : Src C target p ls1 ok items) (L : Lp C env d target body ok items ρ ls1 f ρ1 ls2)
    (hs : ∀ x, foldedSetIterable iter env x = pure x) : XTo C env d (exec (.For target iter body [] pos) env) ρ ls f ρ1 ls2 := fun A s am Q E hr R F K =>
  wpAny_For (h A s am _ E hr R F fun v h' tk am' p1 g1 R1 hv => by
    refine S A d _ am' v _ E hr R1 hv fun I fp St h2 tk2 z2 W kp hfp st => ?_
    refine for_loop W hr (fun b hb => ?_) ((R1.keeps kp).up z2) ((F.mono p1 g1).mono (Pre.refl _) (Gr.of_keeps kp)) st L fun fl h3 tk3 am3 p3 g3 R3 F3 rf => ?_
    · cases e : C.hb.get? b with
      | none => rfl
      | some o => have := R1.old b o e; rw [show h'.get? b = none from hfp b hb] at this; cases this
    · exact K fl h3 tk3 am3 (p1.trans p3) (g1.s.trans (g3.s kp hfp)) R3 F3 rf) hs
theorem e_comp {target elt iter : Expr} {ifs : List Expr} {scope : Scope} {pos : Pos} {cl : List (Str × Addr)} {ρc : Loc} {ok : LS → Prop} {items : List PV} (h : ETo C env d (eval iter env) ρ ls p ls1) (S : Src C target p ls1 ok items)
    (hclos : closureFor scope env = pure cl) (hcl : ClOk env cl) (hρ : Cl env scope cl ρ ρc) (L : ∀ Lc, ∃ ρ1, Cp C (cenvOf scope env Lc cl) d target elt ifs ok ls1.length items ρc (ls1 ++ [[]]) ρ1 ls2)
    (hkind : scope.kind = .function) (hnames : ∀ x ∈ scope.names, x.2 = .local → scope.names.lookup x.1 = some .local) (hs : ∀ x, foldedSetIterable iter env x = pure x) :
    ETo C env d (eval (.ListComp elt [⟨target, iter, ifs, 0⟩] scope pos) env) ρ ls (.lst ls1.length) ls2 := fun A s am Q E hr R F K => by
  rw [eval_ListComp]
  refine wpAny_comprehension_free (use := none) rfl hs hclos hkind hnames (h A s am _ E hr R F fun v h' tk am' p1 g1 R1 hv => ?_)
  refine S A d _ am' v _ E hr R1 hv fun I fp St h2 tk2 z2 W kp hfp st => ?_
  have hfr : ∀ b ∈ fp, C.hb.get? b = none := fun b hb => by
    cases e : C.hb.get? b with
    | none => rfl
    | some o => have := R1.old b o e; rw [show h'.get? b = none from hfp b hb] at this; cases this
  refine comp_block (RR := fun acc Lc => compPost (model C.prog C.w) A E none Q acc Lc) W hr hfr ((R1.keeps kp).up z2) ((F.mono p1 g1).mono (Pre.refl _) (Gr.of_keeps kp)) st hkind hcl hρ L ?_
  intro D Lc h3 tk3 am3 m p3 hL1 hL2 hL3 hn3 k3 R3
  refine ⟨m, hn3, fun h4 hs4 => ?_⟩
  have R4 : Rep C am3 ls2 h4 tk3 := R3.change (X := fun b => b = Lc) (fun b o hb e => (hs4.2 b hb).trans e) (fun b q => by rw [q]; exact hL2) (fun b q => by rw [q]; exact hL3) fun b o q e => by rw [q] at e; exact ns_not_val hn3 e
  refine K (.ref D) h4 tk3 am3 (p1.trans ((Pre.add _ _).trans p3)) (fun b o e n => ?_) R4 (.lst (prefix_get p3 (R1.last _)))
  have e1 := g1 b o e n
  have e2 := kp b o e1
  have hbL : b ≠ Lc := fun q => by rw [q] at e2; rw [show h2.get? Lc = none from hL1] at e2; cases e2
  rw [hs4.2 b hbL]
  exact k3 b o e2 n fun hb => by rw [show h'.get? b = none from hfp b hb] at e1; cases e1
/-- y = [..], the store ahead of the block's end -/
theorem x_acomp {target elt iter : Expr} {ifs : List Expr} {scope : Scope} {pos spos py : Pos} {y : Str} {cl : List (Str × Addr)} {ρc : Loc} {ok : LS → Prop} {items : List PV} (h : ETo C env d (eval iter env) ρ ls p ls1) (S : Src C target p ls1 ok items)
    (hclos : closureFor scope env = pure cl) (hcl : ClOk env cl) (hρ : Cl env scope cl ρ ρc) (L : ∀ Lc, ∃ ρ1, Cp C (cenvOf scope env Lc cl) d target elt ifs ok ls1.length items ρc (ls1 ++ [[]]) ρ1 ls2)
    (hy : env.kindOf y = some .local) (hsw : swapsWith (.ListComp elt [⟨target, iter, ifs, 0⟩] scope pos) (some (.Name y py)) spos.line env = pure true)
    (hkind : scope.kind = .function) (hnames : ∀ x ∈ scope.names, x.2 = .local → scope.names.lookup x.1 = some .local) (hs : ∀ x, foldedSetIterable iter env x = pure x) :
    XTo C env d (exec (.Assign [.Name y py] (.ListComp elt [⟨target, iter, ifs, 0⟩] scope pos) spos) env) ρ ls .next (pset ρ y (.lst ls1.length)) ls2 := fun A s am Q E hr R F K => by
  rw [exec_Assign_Name_used _ _ _ _ hsw]
  refine wpAny_bind (wpAny_standAt (wpAny_bind ?_))
  show wpAny _ A (do let _ ← comprehension (.ListComp elt [⟨target, iter, ifs, 0⟩] scope pos) scope env _ (newList []) false (eval iter env) (some (assign (.Name y py) env))) _ _ s
  refine wpAny_bind (wpAny_mono (wpAny_comprehension_free (use := some (assign (.Name y py) env)) (Q := fun _ s' => Q .next s') rfl hs hclos hkind hnames
    (h A s am _ E hr R F fun v h' tk am' p1 g1 R1 hv => ?_)) (fun _ s' hq => wpAny_pure (wpAny_pure hq)) fun _ _ e => e)
  refine S A d _ am' v _ E hr R1 hv fun I fp St h2 tk2 z2 W kp hfp st => ?_
  have hfr : ∀ b ∈ fp, C.hb.get? b = none := fun b hb => by
    cases e : C.hb.get? b with
    | none => rfl
    | some o => have := R1.old b o e; rw [show h'.get? b = none from hfp b hb] at this; cases this
  have F2 := (F.mono p1 g1).mono (Pre.refl _) (Gr.of_keeps kp)
  refine comp_block (RR := fun acc Lc => compPost (model C.prog C.w) A E (some (assign (.Name y py) env)) (fun _ s' => Q .next s') acc Lc) W hr hfr ((R1.keeps kp).up z2) F2 st hkind hcl hρ L ?_
  intro D Lc h3 tk3 am3 m p3 hL1 hL2 hL3 hn3 k3 R3
  have pam : Pre am' am3 := (Pre.add _ _).trans p3
  have tool : ∀ b o, b ∈ fp → h2.get? b = some o → Tool o := fun b o hb e => by
    obtain ⟨o', ho', ht⟩ := W.obj st b hb
    rw [e] at ho'; cases ho'; exact ht
  have g3 : GrV h2 h3 := fun b o e v => k3 b o e (fun l => by rcases v with ⟨c, _⟩ | ⟨c, _⟩ <;> (have := l.1; rw [c] at this; exact absurd this (by decide))) fun hb => (tool b o hb e).2.1 v
  have kc : ∀ {c ov}, h2.IsCell c ov → h3.IsCell c ov := fun {c ov} x => by
    obtain ⟨o, ho, hd⟩ := x
    exact ⟨o, k3 c o ho (fun l => by obtain ⟨xs, n, e⟩ := l.2; rw [hd] at e; cases e) (fun hb => (tool c o hb ho).2.2.2 _ hd), hd⟩
  have F3 : Fm C env am3 h3 ρ := by
    refine ⟨F2.kind, F2.gl, F2.bl, F2.fr, F2.frc, ?_, fun x q e hx => ?_, fun x c e => ?_, F2.apart⟩
    · obtain ⟨m, hn, hm⟩ := F2.ns
      refine ⟨m, ?_, fun x q e hx => ?_⟩
      · obtain ⟨o, es, ep, ho, hd, r⟩ := hn
        exact ⟨o, es, ep, k3 _ o ho (fun l => by obtain ⟨xs, n, e⟩ := l.2; rw [hd] at e; cases e) (fun hb => (tool _ o hb ho).2.2.1 _ _ hd), hd, r⟩
      · obtain ⟨v, hv, r⟩ := hm x q e hx
        exact ⟨v, hv, r.monoV pam g3⟩
    · obtain ⟨c, v, hc, hv, r⟩ := F2.cel x q e hx
      exact ⟨c, v, hc, kc hv, r.monoV pam g3⟩
    · obtain ⟨ov, h⟩ := F2.all x c e
      exact ⟨ov, kc h⟩
  show wpAny _ A (assign (.Name y py) env (.ref D)) _ _ _
  have hD : RV am3 h3 (.lst ls1.length) (.ref D) := .lst (prefix_get p3 (R1.last _))
  refine wpAny_assign_Name (st_local R3 F3 hD hy fun h4 tk4 g4 R4 F4 => ?_)
  have hLne : Lc ≠ env.locals := fun q => by
    obtain ⟨m2, ⟨o, _, _, ho, _⟩, _⟩ := F2.ns
    rw [← q, show h2.get? Lc = none from hL1] at ho; cases ho
  have hLc : ¬ ownOf env Lc := fun z => by
    rcases z with z | ⟨_, x, hx⟩
    · exact hLne z
    · obtain ⟨ov, o, ho, _⟩ := F2.all x Lc hx
      rw [show h2.get? Lc = none from hL1] at ho; cases ho
  have hn4 : h4.Ns Lc m := by
    obtain ⟨o, es, ep, ho, hd, r⟩ := hn3
    exact ⟨o, es, ep, g4 Lc o ho (fun l => by obtain ⟨xs, n, e⟩ := l.2; rw [hd] at e; cases e) hLc, hd, r⟩
  refine ⟨m, hn4, fun h5 hs5 => ?_⟩
  have R5 : Rep C am3 ls2 h5 tk4 := R4.change (X := fun b => b = Lc) (fun b o hb e => (hs5.2 b hb).trans e) (fun b q => by rw [q]; exact hL2) (fun b q => by rw [q]; exact hL3) fun b o q e => by rw [q] at e; exact ns_not_val hn4 e
  have v5 : GrV h4 h5 := fun b o e v => by
    by_cases q : b = Lc
    · subst q; exact absurd v (ns_not_val hn4 e)
    · rw [hs5.2 b q]; exact e
  have F5 : Fm C env am3 h5 (pset ρ y (.lst ls1.length)) := by
    refine ⟨F4.kind, F4.gl, F4.bl, F4.fr, F4.frc, ?_, fun x q e hx => ?_, fun x c e => ?_, F4.apart⟩
    · obtain ⟨m, hn, hm⟩ := F4.ns
      refine ⟨m, hn.sameBut hs5 (Ne.symm hLne), fun x q e hx => ?_⟩
      obtain ⟨v, hv, r⟩ := hm x q e hx
      exact ⟨v, hv, r.monoV (Pre.refl _) v5⟩
    · obtain ⟨c, v, hc, hv, r⟩ := F4.cel x q e hx
      exact ⟨c, v, hc, hv.sameBut hs5 (cell_ne_ns hv hn4), r.monoV (Pre.refl _) v5⟩
    · obtain ⟨ov, h⟩ := F4.all x c e
      exact ⟨ov, h.sameBut hs5 (cell_ne_ns h hn4)⟩
  refine K .next h5 tk4 am3 (p1.trans pam) (fun b o e n hb => ?_) R5 F5 .next
  have e1 := g1 b o e n
  have e2 := kp b o e1
  have hbL : b ≠ Lc := fun q => by rw [q] at e2; rw [show h2.get? Lc = none from hL1] at e2; cases e2
  rw [hs5.2 b hbL]
  exact g4 b o (k3 b o e2 n fun hb => by rw [show h'.get? b = none from hfp b hb] at e1; cases e1) n hb
end
end Mine
end
section
open PySem PySem.W PySem.Calls PyProof.Rows
set_option maxRecDepth 100000
set_option linter.unusedVariables false
namespace Mine
theorem lookup_rev : ∀ (l : List (Str × Value)) (acc : List (Str × Value)) (x : Str) (v : Value), (l.map (·.1)).Nodup → l.lookup x = some v → (l.reverse ++ acc).lookup x = some v
  | [], _, _, _, _, h => by simp at h
  | (n, u) :: r, acc, x, v, hn, h => by
    simp only [List.map_cons, List.nodup_cons] at hn
    rw [List.lookup_cons] at h
    rw [List.reverse_cons, List.append_assoc]
    cases hb : x == n with
    | true =>
      rw [hb] at h; cases h
      have e : x = n := by simpa using hb
      subst e
      have : r.reverse.lookup x = none := by
        cases hz : r.reverse.lookup x with
        | none => rfl
        | some w =>
          have := mem_of_lookup hz
          exact absurd (List.mem_map_of_mem (f := (·.1)) (List.mem_reverse.mp this)) hn.1
      rw [List.lookup_append, this]
      simp
    | false => rw [hb] at h; exact lookup_rev r _ x v hn.2 h

section
variable {C : Cx} {env : Env} {d : Nat} {ρ ρ1 ρ2 : Loc} {ls ls1 ls2 ls3 : LS} {p q r : PV} {f : PF} {ps qs : List PV} {ks : List (Str × PV)}
/-- a def called in any way (defaults, keywords), without cells -/
theorem c_defK {fa : Addr} {o : Obj} {fd : FuncData} {body : List Stmt} {ρ0 : Loc} (ok : C.Ok)
    (ho : C.hb.get? fa = some o) (hdat : o.data = .func fd) (hcd : C.hb.CodeRec fd.code fd.qualname) (hbody : fd.body = .stmts body)
    (hbind : ∀ (s : Shared) am vs kv, (∀ b o, C.hb.get? b = some o → s.heap.get? b = some o) → RVs am s.heap ps vs → RKs am s.heap ks kv → ∃ binds, BindsTo s fd ⟨vs, kv⟩ binds ∧ RKs am s.heap ρ0 binds)
    (hcell : ∀ x ∈ fd.scope.names, x.2 ≠ .cell) (hloc : ∀ x ∈ ρ0.map (·.1), fd.scope.names.lookup x = some .local)
    (hnd : (ρ0.map (·.1)).Nodup) (hclo : fd.closure = []) (hgl : fd.globals = mainGlobals) (hbl : fd.builtins = builtinsNs)
    (h : ∀ L, RTo C (callEnv fd L fa) d (execs body (callEnv fd L fa)) ρ0 ls p ls1)
    (hco : fd.scope.isCoroutine = false := by rfl) (hgen : fd.scope.isGenerator = false := by rfl) (hk : fd.scope.kind = .function := by rfl) :
    CTo C (d + 1) (.ref fa) ps ks ls p ls1 := by
  intro A s am vs kv Q E hr R hvs hkv K
  refine wpAny_call ?_
  have keep := R.old
  obtain ⟨binds, hb, rk⟩ := hbind s am vs kv keep hvs hkv
  have hnm := rk.names
  refine codeAny_call_def (by have := hr.depth; lia) (keep _ _ ho) hdat (ok.lim.keeps keep) (hcd.keeps keep) hbody hb hcell ?_ ?_ hco hgen hk
  · intro x hx
    exact hloc _ (by rw [← hnm]; exact List.mem_map_of_mem (f := (·.1)) hx)
  · intro h' hns hkeep
    have R1 : Rep C am ls h' (s.toks + binds.length) := (R.keeps hkeep).up (Nat.le_add_right _ _)
    have rk1 := RKs.mono (Pre.refl _) (Gr.of_keeps hkeep) rk
    have hcl : (callEnv fd s.heap.objs.size fa).cells = [] := by show fd.closure = []; exact hclo
    have F1 : Fm C (callEnv fd s.heap.objs.size fa) am h' ρ0 := by
      refine ⟨hk, hgl, hbl, R.fresh (Nat.le_refl _), fun x c e => ?_, ⟨_, hns, fun x q e hx => ?_⟩, fun x q e hx => ?_, fun x c e => ?_, fun x y c e e' => ?_⟩
      · rw [hcl] at e; simp at e
      · obtain ⟨v, hv, rv⟩ := rk1.look e
        refine ⟨v, ?_, rv⟩
        have := lookup_rev binds [] x v (by rw [hnm]; exact hnd) hv
        simpa using this
      · obtain ⟨v, hv, rv⟩ := rk1.look e
        exact absurd (hloc x (by rw [← hnm]; exact List.mem_map_of_mem (f := (·.1)) (mem_of_lookup hv))) hx
      · rw [hcl] at e; simp at e
      · rw [hcl] at e; simp at e
    refine h s.heap.objs.size _ { s with heap := h', toks := s.toks + binds.length } am _ _ (hr.deeper _) R1 F1 fun fl h2 tk2 am2 p2 g2 R2 rv => ?_
    have z := K _ h2 tk2 am2 p2 (fun b o e n => ?_) R2 rv
    · cases fl <;> exact z
    · have hb := hkeep b o e
      have hlt : b < s.heap.objs.size := Heap.lt_size e
      refine g2 b o hb n fun z => ?_
      rcases z with z | ⟨_, x, hx⟩
      · have z' : b = s.heap.objs.size := z
        exact Nat.lt_irrefl _ (by rw [z'] at hlt; exact hlt)
      · rw [hcl] at hx; simp at hx
end
end Mine
end
section
open PySem PySem.W PySem.Calls PyProof.Rows
set_option maxRecDepth 100000
set_option linter.unusedVariables false
namespace Mine
theorem cmp_gt_flt {prog : Program} {w : World} {A : Around} {P : Nat → Value → Prop} (val : Nat → UInt64) (hval : ∀ i v, P i v → ∃ t, v = .float (val i) t) :
    CmpOf prog w A .Gt P (fun i j => Float64.cmp (val i) (val j) == some Ordering.gt) := fun i j vi vj s Q E hi hj h => by
  obtain ⟨t, rfl⟩ := hval i vi hi
  obtain ⟨u, rfl⟩ := hval j vj hj
  exact richCompare_gives (op := .Gt) (AutoFloatOps.typeIs_float s _ t) (AutoFloatOps.typeIs_float s _ u) F.slot_float_gt F.entry_float_gt (F.args_float_gt_2 _ _) (AutoFloatG4.float___gt___float_float_0 _ t _ u) (fun x => nomatch x) h
theorem cmp_lt_flt {prog : Program} {w : World} {A : Around} {P : Nat → Value → Prop} (val : Nat → UInt64) (hval : ∀ i v, P i v → ∃ t, v = .float (val i) t) :
    CmpOf prog w A .Lt P (fun i j => Float64.cmp (val i) (val j) == some Ordering.lt) := fun i j vi vj s Q E hi hj h => by
  obtain ⟨t, rfl⟩ := hval i vi hi
  obtain ⟨u, rfl⟩ := hval j vj hj
  exact richCompare_gives (op := .Lt) (AutoFloatOps.typeIs_float s _ t) (AutoFloatOps.typeIs_float s _ u) F.slot_float_lt F.entry_float_lt (F.args_float_lt_2 _ _) (AutoFloatG5.float___lt___float_float_0 _ t _ u) (fun x => nomatch x) h
def fmax (a b c : UInt64) : UInt64 := if (Float64.cmp b a == some Ordering.gt) = true then (if (Float64.cmp c b == some Ordering.gt) = true then c else b) else (if (Float64.cmp c a == some Ordering.gt) = true then c else a)
def fmin (a b c : UInt64) : UInt64 := if (Float64.cmp b a == some Ordering.lt) = true then (if (Float64.cmp c b == some Ordering.lt) = true then c else b) else (if (Float64.cmp c a == some Ordering.lt) = true then c else a)
def fat (a b c : UInt64) : Nat → UInt64
  | 0 => a
  | 1 => b
  | _ => c
theorem fat_at {a b c : UInt64} {t u x : Tok} {P : Tok → UInt64 → Prop} (ht : P t a) (hu : P u b) (hx : P x c) : ∀ (i : Nat) (v : Value), (#[Value.float a t, .float b u, .float c x])[i]? = some v → ∃ t, P t (fat a b c i) ∧ v = .float (fat a b c i) t
  | 0, v, h => by simp at h; exact ⟨t, ht, h.symm⟩
  | 1, v, h => by simp at h; exact ⟨u, hu, h.symm⟩
  | 2, v, h => by simp at h; exact ⟨x, hx, h.symm⟩
  | n + 3, v, h => by simp at h
section
variable {C : Cx} {env : Env} {d : Nat} {ρ ρ1 ρ2 : Loc} {ls ls1 ls2 ls3 : LS} {p q r : PV} {f : PF} {ps qs : List PV} {ks : List (Str × PV)}
theorem c_max3 {a b c : UInt64} : CTo C d (.builtin "max") [.flt a, .flt b, .flt c] [] ls (.flt (fmax a b c)) ls := .of fun A s am vs kv Q E hr R hvs hkv K => by
  cases hkv
  cases hvs with
  | cons h1 h2 => cases h2 with
    | cons h2 h3 => cases h3 with
      | cons h3 h4 =>
        cases h4; cases h1; cases h2; cases h3
        rename_i t ht u hu x hx
        have hT : (s.heap.push { cls := .type "tuple", data := .seq #[.float a t, .float b u, .float c x] }).IsTuple s.heap.objs.size #[.float a t, .float b u, .float c x] := ⟨_, Heap.get?_push_size _ rfl, rfl, 0, rfl⟩
        refine call_max_three (wpAny_pyIter_tuple hT ?_)
        have hsz : (s.heap.push { cls := .type "tuple", data := .seq #[.float a t, .float b u, .float c x] }).objs.size = s.heap.objs.size + 1 := Heap.size_push ..
        refine ⟨_, [_, s.heap.objs.size], [_], _, _, _, _, rfl, Walks.tuple (A := A.in1) hr.hand _ s.heap.objs.size (by rw [hsz]; exact Nat.ne_of_lt (Nat.lt_succ_self _)) #[.float a t, .float b u, .float c x],
          ⟨⟨_, Heap.get?_push_size _ rfl, rfl, rfl⟩, hT.push _⟩, fun d hd => ?_, by simp, cmp_gt_flt (fat a b c) (fun i v h => let ⟨t, _, e⟩ := fat_at (P := fun t x => am.τ t = some x) ht hu hx i v h; ⟨t, e⟩), fun v h' tk hP hk => ?_⟩
        · show d < ((s.heap.push _).push _).objs.size
          rw [Heap.size_push, hsz]
          rcases List.mem_cons.mp hd with rfl | hd
          · rw [hsz]; exact Nat.lt_succ_self _
          · rcases List.mem_cons.mp hd with rfl | hd
            · exact Nat.lt_succ_of_lt (Nat.lt_succ_self _)
            · cases hd
        · have hold : ∀ d o, s.heap.get? d = some o → h'.get? d = some o := fun d o e => by
            refine hk d o (fun hm => ?_) (Heap.get?_push_of_some _ (Heap.get?_push_of_some _ e))
            rcases List.mem_cons.mp hm with e1 | hm
            · have := Heap.lt_size e; rw [e1, hsz] at this; exact Nat.lt_irrefl _ (Nat.lt_of_succ_lt this)
            · cases hm
          obtain ⟨t', ht', rfl⟩ := fat_at (P := fun t x => am.τ t = some x) ht hu hx _ _ hP
          have e : fat a b c (argBest (fun i j => Float64.cmp (fat a b c i) (fat a b c j) == some Ordering.gt) (#[Value.float a t, .float b u, .float c x].size - 1)) = fmax a b c := by
            show fat a b c (argBest _ 2) = _
            unfold fmax
            simp only [argBest]
            by_cases h1 : (Float64.cmp b a == some Ordering.gt) = true
            · by_cases h2 : (Float64.cmp c b == some Ordering.gt) = true <;> simp [fat, h1, h2]
            · by_cases h2 : (Float64.cmp c a == some Ordering.gt) = true <;> simp [fat, h1, h2]
          rw [e] at ht' ⊢
          exact K (.float _ t') h' tk am (Pre.refl _) (Gr.of_keeps hold) (R.keeps hold) (.flt _ _ ht')
theorem c_min3 {a b c : UInt64} : CTo C d (.builtin "min") [.flt a, .flt b, .flt c] [] ls (.flt (fmin a b c)) ls := .of fun A s am vs kv Q E hr R hvs hkv K => by
  cases hkv
  cases hvs with
  | cons h1 h2 => cases h2 with
    | cons h2 h3 => cases h3 with
      | cons h3 h4 =>
        cases h4; cases h1; cases h2; cases h3
        rename_i t ht u hu x hx
        have hT : (s.heap.push { cls := .type "tuple", data := .seq #[.float a t, .float b u, .float c x] }).IsTuple s.heap.objs.size #[.float a t, .float b u, .float c x] := ⟨_, Heap.get?_push_size _ rfl, rfl, 0, rfl⟩
        refine call_min_three (wpAny_pyIter_tuple hT ?_)
        have hsz : (s.heap.push { cls := .type "tuple", data := .seq #[.float a t, .float b u, .float c x] }).objs.size = s.heap.objs.size + 1 := Heap.size_push ..
        refine ⟨_, [_, s.heap.objs.size], [_], _, _, _, _, rfl, Walks.tuple (A := A.in1) hr.hand _ s.heap.objs.size (by rw [hsz]; exact Nat.ne_of_lt (Nat.lt_succ_self _)) #[.float a t, .float b u, .float c x],
          ⟨⟨_, Heap.get?_push_size _ rfl, rfl, rfl⟩, hT.push _⟩, fun d hd => ?_, by simp, cmp_lt_flt (fat a b c) (fun i v h => let ⟨t, _, e⟩ := fat_at (P := fun t x => am.τ t = some x) ht hu hx i v h; ⟨t, e⟩), fun v h' tk hP hk => ?_⟩
        · show d < ((s.heap.push _).push _).objs.size
          rw [Heap.size_push, hsz]
          rcases List.mem_cons.mp hd with rfl | hd
          · rw [hsz]; exact Nat.lt_succ_self _
          · rcases List.mem_cons.mp hd with rfl | hd
            · exact Nat.lt_succ_of_lt (Nat.lt_succ_self _)
            · cases hd
        · have hold : ∀ d o, s.heap.get? d = some o → h'.get? d = some o := fun d o e => by
            refine hk d o (fun hm => ?_) (Heap.get?_push_of_some _ (Heap.get?_push_of_some _ e))
            rcases List.mem_cons.mp hm with e1 | hm
            · have := Heap.lt_size e; rw [e1, hsz] at this; exact Nat.lt_irrefl _ (Nat.lt_of_succ_lt this)
            · cases hm
          obtain ⟨t', ht', rfl⟩ := fat_at (P := fun t x => am.τ t = some x) ht hu hx _ _ hP
          have e : fat a b c (argBest (fun i j => Float64.cmp (fat a b c i) (fat a b c j) == some Ordering.lt) (#[Value.float a t, .float b u, .float c x].size - 1)) = fmin a b c := by
            show fat a b c (argBest _ 2) = _
            unfold fmin
            simp only [argBest]
            by_cases h1 : (Float64.cmp b a == some Ordering.lt) = true
            · by_cases h2 : (Float64.cmp c b == some Ordering.lt) = true <;> simp [fat, h1, h2]
            · by_cases h2 : (Float64.cmp c a == some Ordering.lt) = true <;> simp [fat, h1, h2]
          rw [e] at ht' ⊢
          exact K (.float _ t') h' tk am (Pre.refl _) (Gr.of_keeps hold) (R.keeps hold) (.flt _ _ ht')

/-- a call of one value -/
theorem c_one {f : Value} (h : V1To C d p (fun v => call f [v]) ls r ls1) : CTo C d f [p] [] ls r ls1 := fun A s am vs kv Q E hr R hvs hkv K => by
  cases hkv
  cases hvs with
  | cons h1 h2 => cases h2; exact h A s am _ Q E hr R h1 K
theorem c_two {f : Value} (h : V2To C d p q (fun v w => call f [v, w]) ls r ls1) : CTo C d f [p, q] [] ls r ls1 := fun A s am vs kv Q E hr R hvs hkv K => by
  cases hkv
  cases hvs with
  | cons h1 h2 => cases h2 with
    | cons h2 h3 => cases h3; exact h A s am _ _ Q E hr R h1 h2 K
theorem c_len_lst {n : Nat} {l : List PV} (hn : ls[n]? = some l) (hl : (l.length : Int) < 2 ^ 63) : CTo C d (.builtin "len") [.lst n] [] ls (.int l.length) ls := c_one <| .of fun A s am a Q E hr R ha K => by
  cases ha with
  | lst hm =>
    obtain ⟨vs, hp, hv⟩ := R.its hm hn
    have hlen := hv.length
    refine PyProof.Rows.len_list hp.isList (by rw [List.size_toArray, hlen]; exact hl) ?_
    rw [List.size_toArray, hlen]
    exact K _ s.heap _ am (Pre.refl _) (Gr.refl _) R (.int _ _)
theorem c_len_str {x : Str} (hl : ¬ (x.length : Int) ≥ 2 ^ 63) : CTo C d (.builtin "len") [.str x] [] ls (.int x.length) ls := c_one <| .of fun A s am a Q E hr R ha K => by
  cases ha
  exact PyProof.Rows.len_str hl (K _ s.heap _ am (Pre.refl _) (Gr.refl _) R (.int _ _))
theorem c_int_flt {x : UInt64} {sg : Bool} {m : Nat} {e : Int} (hd : Float64.decode x = .fin sg m e) : CTo C d (.type "int") [.flt x] [] ls (.int (Float64.truncOf sg m e)) ls := c_one <| .of fun A s am a Q E hr R ha K => by
  cases ha
  exact call_int_float hd (K _ s.heap _ am (Pre.refl _) (Gr.refl _) R (.int _ _))
theorem RVs.ints {am : Gh} {h : Heap} : ∀ {ns : List Int} {vs : List Value}, RVs am h (ns.map .int) vs → IntsAre vs ns
  | [], _, .nil => .nil
  | _ :: _, _, .cons a b => by cases a; exact .cons _ _ (RVs.ints b)
theorem RVs.ofInts {am : Gh} {h : Heap} : ∀ {ns : List Int} {vs : List Value}, IntsAre vs ns → RVs am h (ns.map .int) vs
  | _, _, .nil => .nil
  | _, _, .cons _ _ b => .cons (.int _ _) (RVs.ofInts b)
theorem ints_items : ∀ {vs : List Value} {ns : List Int}, IntsAre vs ns → ∃ xs : Array (Int × Tok), vs.toArray = intItems xs ∧ xs.toList.map (·.1) = ns
  | _, _, .nil => ⟨#[], by simp [intItems], rfl⟩
  | _, _, .cons n t b => by
    obtain ⟨xs, h1, h2⟩ := ints_items b
    refine ⟨((n, t) :: xs.toList).toArray, ?_, by simp [h2]⟩
    apply Array.toList_inj.mp
    have := congrArg Array.toList h1
    simp [intItems] at this ⊢
    exact this
theorem preSum_list {xs : Array (Int × Tok)} {ns : List Int} (h : xs.toList.map (·.1) = ns) : ∀ n, n ≤ ns.length → preSum (numAt xs) n = (ns.take n).sum
  | 0, _ => rfl
  | n + 1, hn => by
    have hl : xs.size = ns.length := by rw [← h]; simp
    have hx : n < xs.size := by lia
    rw [preSum, preSum_list h n (by lia)]
    have e : ns.take (n + 1) = ns.take n ++ [numAt xs n] := by
      rw [List.take_add_one]
      congr 1
      subst h
      simp [numAt, hx]
    rw [e]; simp
theorem c_sum {n : Nat} {ns : List Int} (hn : ls[n]? = some (ns.map .int)) (hf : ∀ j, j < ns.length → InLong (ns.getD j 0) ∧ InLong (ns.take (j + 1)).sum) : CTo C d (.builtin "sum") [.lst n] [] ls (.int ns.sum) ls := c_one <| .of fun A s am a Q E hr R ha K => by
  cases ha with
  | lst hm =>
    obtain ⟨vs, hp, hv⟩ := R.its hm hn
    obtain ⟨xs, h1, h2⟩ := ints_items hv.ints
    have hl : xs.size = ns.length := by rw [← h2]; simp
    rw [h1] at hp
    refine sum_intList hr.hand hp.isList (fun j hj => ?_) fun h' tk t' hk => ?_
    · have := hf j (by lia)
      rw [preSum_list h2 _ (by lia)]
      refine ⟨?_, this.2⟩
      have e : numAt xs j = ns.getD j 0 := by subst h2; simp [numAt, hj]
      rw [e]; exact this.1
    · rw [preSum_list h2 _ (by lia), hl, List.take_length]
      exact K _ h' tk am (Pre.refl _) (Gr.of_keeps hk) (R.keeps hk) (.int _ _)
/-! methods -/
theorem c_append {n : Nat} {l : List PV} (hn : ls[n]? = some l) (hz : l.length ≤ sizeLine) : CTo C d (.builtin "list.append") [.lst n, p] [] ls .none (ls.set n (l ++ [p])) := c_two <| .of fun A s am a b Q E hr R ha hb K => by
  cases ha with
  | lst hm =>
    obtain ⟨vs, hp, hv⟩ := R.its hm hn
    refine wpAny_list_append_plain hp (fun h' hp' hsb => ?_) (by rw [List.size_toArray, hv.length]; exact hz)
    have e : vs.toArray.push b = (vs ++ [b]).toArray := by simp
    rw [e] at hp'
    obtain ⟨R', g⟩ := R.put hm hn (fun x hx => hsb.2 x hx) hp' (hv.append (.cons hb .nil))
    exact K .none h' s.toks am (Pre.refl _) g R' .none
def ins (l : List PV) (k : Int) (p : PV) : List PV := l.take k.toNat ++ p :: l.drop k.toNat
theorem insert_raw {prog : Program} {w : World} {A : Around} {E : Value → Shared → Prop} {s : Shared} {D : Addr} {vs : List Value} {k : Int} {u : Tok} {b : Value} {Q : Value → Shared → Prop} (hp : s.heap.PlainList D vs.toArray) (h0 : 0 ≤ k) (h1 : k.toNat ≤ vs.length)
    (hf : Builtin.List.listFitsIndex k = true) (hz : vs.length ≤ sizeLine) (hQ : ∀ h', h'.PlainList D (vs.take k.toNat ++ b :: vs.drop k.toNat).toArray → (∀ x, x ≠ D → h'.get? x = s.heap.get? x) → Q .none { s with heap := h' }) :
    wpAny (model prog w) A (call (.builtin "list.insert") [.ref D, .int k u, b]) Q E s := by
  obtain ⟨c, ho⟩ := hp
  refine call_meets PySem.F.slot_list_insert ⟨_, ho, rfl⟩ PySem.F.entry_list_insert (PySem.F.args_list_insert_3 _ _ _) (PySem.AutoSeq1.list_insert_list_int_val_1 D _ c k u b (by simp [hf]) (by rw [List.size_toArray]; exact hz)) ⟨ho, hQ _ ?_ fun x hx => (Heap.SameBut.update s.heap D _).2 x hx⟩
  have q := PySem.IsL.update ho (fun xs => have k := if k < 0 then (k + (xs.size : Int)).toNat else min k.toNat xs.size; (xs.extract 0 k).push b ++ xs.extract k)
  have e : (fun xs : Array Value => have k := if k < 0 then (k + (xs.size : Int)).toNat else min k.toNat xs.size; (xs.extract 0 k).push b ++ xs.extract k) vs.toArray = (vs.take k.toNat ++ b :: vs.drop k.toNat).toArray := by
    show (vs.toArray.extract 0 (if k < 0 then (k + (vs.toArray.size : Int)).toNat else min k.toNat vs.toArray.size)).push b ++ vs.toArray.extract (if k < 0 then (k + (vs.toArray.size : Int)).toNat else min k.toNat vs.toArray.size) = _
    rw [if_neg (by lia), List.size_toArray, Nat.min_eq_left (by lia)]
    apply Array.toList_inj.mp
    simp
    exact List.take_of_length_le (by simp)
  have e' : ∀ n, ({ cls := .type "list", dict := none, data := .seq ((fun xs : Array Value => have k := if k < 0 then (k + (xs.size : Int)).toNat else min k.toNat xs.size; (xs.extract 0 k).push b ++ xs.extract k) vs.toArray) n, slots := #[] } : Obj) = { cls := .type "list", dict := none, data := .seq (vs.take k.toNat ++ b :: vs.drop k.toNat).toArray n, slots := #[] } := fun n => by rw [e]
  exact ⟨_, q.trans (congrArg some (e' _))⟩
theorem c_insert {n : Nat} {l : List PV} {k : Int} (hn : ls[n]? = some l) (h0 : 0 ≤ k) (h1 : k.toNat ≤ l.length) (hf : Builtin.List.listFitsIndex k = true) (hz : l.length ≤ sizeLine) : CTo C d (.builtin "list.insert") [.lst n, .int k, p] [] ls .none (ls.set n (ins l k p)) := .of fun A s am ws kv Q E hr R hvs hkv K => by
  cases hkv
  cases hvs with
  | cons ha h2 => cases h2 with
    | cons hi h3 => cases h3 with
      | cons hb h4 =>
        cases h4; cases hi
        cases ha with
        | lst hm =>
          obtain ⟨vs, hp, hv⟩ := R.its hm hn
          have hlen := hv.length
          refine insert_raw hp h0 (by lia) hf (by lia) fun h' hp' hsb => ?_
          obtain ⟨R', g⟩ := R.put hm hn hsb hp' ((hv.take _).append (.cons hb (hv.drop _)))
          exact K .none h' s.toks am (Pre.refl _) g R' .none
theorem e_meth {o e : Expr} {name : Str} {apos pos : Pos} {args : List Expr} {T id : String} (h1 : ETo C env d (eval o env) ρ ls p ls1) (hT : ∀ am h tk v (s : Shared), s.heap = h → Rep C am ls1 h tk → RV am h p v → s.TypeIs v T ∧ (∀ a, v = .ref a → ∃ ob, h.get? a = some ob ∧ ob.dict = none))
    (pa : PlainAttrs T) (slot : Slot T name id) (hty : typeOf (.builtin id) = pure (.type "method_descriptor")) 
    (ha : LTo C env d (spliced (backTo pos (starEach (e :: args) env))) ρ ls1 ps ls2) (hc : CTo C d (.builtin id) (p :: ps) [] ls2 r ls3)
    (hbase : attributeBase o name env (eval o env) = eval o env)
    (hfew : ((backTo pos (starEach (e :: args) env)).all (fun x => !x.1) && (backToKw pos (keywordEach [] env)).all (fun x => x.1.isSome) && decide ((e :: args).length + ([] : List Keyword).length + (if ([] : List Keyword).isEmpty then 0 else 1) < 30)) = true)
    (hline : (apos.endLine == pos.line) = true)
    (he : starEach (e :: args) env = (false, eval e env) :: starEach args env) (hp : (backTo pos (starEach args env)).any (·.1) = false) :
    ETo C env d (eval (.Call (.Attribute o name apos) (e :: args) [] pos) env) ρ ls r ls3 := fun A s am Q E hr R F K =>
  wpAny_Call_method hbase hfew hline pa slot hty (h1 A s am _ E hr R F fun v h' tk am' p1 g1 R1 hv => by
    obtain ⟨t1, t2⟩ := hT am' h' tk v { s with heap := h', toks := tk } rfl R1 hv
    refine ⟨t1, t2, callWith_method1 (ha A _ am' _ E hr R1 (F.mono p1 g1) fun vs h2 tk2 am2 p2 g2 R2 hvs => hc A _ am2 (v :: vs) [] Q E hr R2 (.cons (hv.mono p2 g2) hvs) .nil fun v h3 tk3 am3 p3 g3 R3 hv => ?_) he hp⟩
    exact K v h3 tk3 am3 (p1.trans (p2.trans p3)) (g1.trans (g2.trans g3)) R3 hv)
theorem ty_lst {n : Nat} {l : List PV} (hn : ls[n]? = some l) : ∀ am h tk v (s : Shared), s.heap = h → Rep C am ls h tk → RV am h (.lst n) v → s.TypeIs v "list" ∧ (∀ a, v = .ref a → ∃ ob, h.get? a = some ob ∧ ob.dict = none) := fun am h tk v s e R hv => by
  cases hv with
  | lst hm =>
    obtain ⟨vs, ⟨c, ho⟩, _⟩ := R.its hm hn
    subst e
    exact ⟨⟨_, ho, rfl⟩, fun a ea => by cases ea; exact ⟨_, ho, rfl⟩⟩
theorem ty_str {x : Str} : ∀ am h tk v (s : Shared), s.heap = h → Rep C am ls h tk → RV am h (.str x) v → s.TypeIs v "str" ∧ (∀ a, v = .ref a → ∃ ob, h.get? a = some ob ∧ ob.dict = none) := fun am h tk v s e R hv => by
  cases hv
  exact ⟨typeIs_str _ _ _, fun _ e => nomatch e⟩
end
end Mine
end
section
open PySem PySem.W PySem.Calls PyProof.Rows PySem.SeqAt
set_option maxRecDepth 100000
set_option linter.unusedVariables false
namespace Mine
section
variable {C : Cx} {env : Env} {d : Nat} {ρ ρ1 ρ2 : Loc} {ls ls1 ls2 ls3 : LS} {p q r : PV} {f : PF} {ps qs : List PV} {ks : List (Str × PV)}
/-! tests -/
theorem b_and {es : List Expr} {pos : Pos} {whole : Sem Value} {b : Bool} (h : BTo C env d (allTrue .And es env) ρ ls b ls1) : BTo C env d (isTrue (.BoolOp .And es pos) env whole) ρ ls b ls1 := fun A s am Q E hr R F K => wpAny_isTrue_BoolOp (h A s am _ E hr R F K)
theorem b_or {es : List Expr} {pos : Pos} {whole : Sem Value} {b : Bool} (h : BTo C env d (allTrue .Or es env) ρ ls b ls1) : BTo C env d (isTrue (.BoolOp .Or es pos) env whole) ρ ls b ls1 := fun A s am Q E hr R F K => wpAny_isTrue_BoolOp (h A s am _ E hr R F K)
theorem b_and_nil : BTo C env d (allTrue .And [] env) ρ ls true ls := fun A s am Q E hr R F K => wpAny_allTrue_And_nil (K s.heap s.toks am (Pre.refl _) (Gr.refl _) R)
theorem b_or_nil : BTo C env d (allTrue .Or [] env) ρ ls false ls := fun A s am Q E hr R F K => wpAny_allTrue_Or_nil (K s.heap s.toks am (Pre.refl _) (Gr.refl _) R)
theorem b_and_cons {x : Expr} {rest : List Expr} {b c : Bool} (h1 : BTo C env d (isTrue x env (eval x env)) ρ ls b ls) (h2 : b = true → BTo C env d (allTrue .And rest env) ρ ls c ls) : BTo C env d (allTrue .And (x :: rest) env) ρ ls (b && c) ls := fun A s am Q E hr R F K =>
  wpAny_allTrue_And_cons (h1 A s am _ E hr R F fun h' tk am' p1 g1 R1 => by
    cases b with
    | false => exact K h' tk am' p1 g1 R1
    | true => exact h2 rfl A _ am' _ E hr R1 (F.mono p1 g1) fun h2 tk2 am2 p2 g2 R2 => K h2 tk2 am2 (p1.trans p2) (g1.trans g2) R2)
theorem b_or_cons {x : Expr} {rest : List Expr} {b c : Bool} (h1 : BTo C env d (isTrue x env (eval x env)) ρ ls b ls) (h2 : b = false → BTo C env d (allTrue .Or rest env) ρ ls c ls) : BTo C env d (allTrue .Or (x :: rest) env) ρ ls (b || c) ls := fun A s am Q E hr R F K =>
  wpAny_allTrue_Or_cons (h1 A s am _ E hr R F fun h' tk am' p1 g1 R1 => by
    cases b with
    | true => exact K h' tk am' p1 g1 R1
    | false => exact h2 rfl A _ am' _ E hr R1 (F.mono p1 g1) fun h2 tk2 am2 p2 g2 R2 => K h2 tk2 am2 (p1.trans p2) (g1.trans g2) R2)
theorem BTo.to {t : Sem Bool} {b c : Bool} (h : BTo C env d t ρ ls b ls1) (e : b = c) : BTo C env d t ρ ls c ls1 := e ▸ h
theorem V2To.to {t : Value → Value → Sem Value} {p' : PV} (h : V2To C d p q t ls r ls1) (e : r = p') : V2To C d p q t ls p' ls1 := e ▸ h
/-- an expression for its deed alone -/
theorem x_expr {e : Expr} {pos : Pos} (h : ETo C env d (eval e env) ρ ls .none ls1) (hi : interactive env = false) (hs : swapsWith e none pos.line env = pure false) : XTo C env d (exec (.Expr e pos) env) ρ ls .next ρ ls1 := fun A s am Q E hr R F K =>
  wpAny_Expr (h A s am _ E hr R F fun v h' tk am' p1 g1 R1 hv => by cases hv; exact K .next h' tk am' p1 g1.s R1 (F.mono p1 g1) .next) hi hs
end
/-! equal -/
theorem Cx.Ok.bkAt {C : Cx} {am : Gh} {ls : LS} {h : Heap} {tk : Nat} (ok : C.Ok) (R : Rep C am ls h tk) : NoneBooked h := let ⟨mc, h1, h2⟩ := ok.bk; ⟨mc, h1.keeps R.old, h2⟩
theorem same_flt {M : Model} {A : Around} {E : Value → Shared → Prop} {s : Shared} {x y : UInt64} {u v : Tok} {Q : Bool → Shared → Prop}
    (h0 : (u == 0 || v == 0) = false) (hb : NoneBooked s.heap) (hq : ∀ b, (b = true → (u == v) = true ∨ x = y) → Q b s) : wpAny M A (isSame (.float x u) (.float y v)) Q E s := by
  show wpAny M A (isSame.created (x == y && !Float64.isNaN x) u v) Q E s
  unfold isSame.created
  refine wpAny_ite ?_
  split
  · rename_i h; rw [h0] at h; exact absurd h Bool.false_ne_true
  refine wpAny_ite ?_
  split
  · rename_i h; exact wpAny_pure (hq _ fun _ => .inl h)
  refine wpAny_ite ?_
  split
  · exact wpAny_pure (hq _ fun e => nomatch e)
  rename_i hne
  have hxy : x = y := by
    have := hne
    simp at this
    exact this.1
  refine wpAny_bind (wpAny_sharingNotTold_none hb ?_)
  first | rw [if_neg Bool.false_ne_true] | simp only [Bool.false_eq_true, if_false]
  refine wpAny_bind (wpAny_sharingNotTold_none hb ?_)
  first | rw [if_neg Bool.false_ne_true] | simp only [Bool.false_eq_true, if_false]
  exact wpAny_bind (wpAny_rule (wpAny_bind (wpAny_askSetting (wpAny_pure (hq _ fun _ => .inr hxy)))))
theorem eqat_flt {A : Around} {s : Shared} {x y : UInt64} {t u : Tok} (hb : NoneBooked s.heap) (ht : t ≠ 0) (hu : u ≠ 0) (hne : t = u → x = y) (hx : Float64.cmp x x = some .eq) : EqAt A s (.float x t) (.float y u) (Float64.cmp x y == some Ordering.eq) := fun prog w E Q h => by
  unfold eqBool
  refine wpAny_holding ?_
  refine wpAny_ite_split (fun hab => ?_) (fun _ => ?_)
  · have e : x = y := by have := eq_of_beq hab; injection this
    subst e
    rw [hx] at h
    exact wpAny_bind (wpAny_rule (wpAny_pure h))
  · have hrc : RcAt A s (.float x t) (.float y u) (Float64.cmp x y == some Ordering.eq) := fun prog w E Q h => richCompare_gives (op := .Eq) (AutoFloatOps.typeIs_float s _ t) (AutoFloatOps.typeIs_float s _ u) F.slot_float_eq F.entry_float_eq (F.args_float_eq_2 _ _) (AutoFloatG5.float___eq___float_float_0 _ t _ u) (fun x => nomatch x) h
    refine wpAny_bind (same_flt (by simp [ht, hu]) hb fun b hbb => ?_)
    cases b with
    | true =>
      have e : x = y := by
        rcases hbb rfl with h | h
        · exact hne (by simpa using h)
        · exact h
      subst e
      rw [hx] at h
      exact wpAny_pure h
    | false => exact wpAny_bind (hrc prog w E _ (wpAny_truthy_bool h))
def Nums (l : List UInt64) : Prop := ∀ x ∈ l, Float64.cmp x x = some .eq
abbrev ft (l : List UInt64) : PV := .tup (l.map .flt)
theorem RVs.flts {am : Gh} {h : Heap} : ∀ {fs : List UInt64} {vs : List Value}, RVs am h (fs.map .flt) vs → ∀ (j : Nat) (hj : j < vs.length), ∃ t, am.τ t = some (fs.getD j 0) ∧ vs[j] = .float (fs.getD j 0) t
  | [], _, .nil, j, hj => by simp at hj
  | f :: _, _, .cons a b, 0, hj => by cases a with | flt _ t z => exact ⟨t, z, rfl⟩
  | f :: fs, v :: vs, .cons a b, j + 1, hj => by
    obtain ⟨t, z, e⟩ := RVs.flts b j (by simpa using hj)
    exact ⟨t, by simpa using z, by simpa using e⟩
theorem Room.u {A : Around} {d : Nat} (h : Room A d) : A.in1.units < cLine ∧ A.units < cLine := by
  have := h.units
  constructor
  · show A.units + 1 < cLine; lia
  · lia
section
variable {C : Cx} {env : Env} {d : Nat} {ρ ρ1 ρ2 : Loc} {ls ls1 ls2 ls3 : LS} {p q r : PV} {f : PF} {ps qs : List PV} {ks : List (Str × PV)}
open Classical in
open Classical in
/-! joins of lists -/
theorem o_add_lst {n m : Nat} {l k : List PV} (hn : ls[n]? = some l) (hm' : ls[m]? = some k) (hz : l.length + k.length ≤ sizeLine) : V2To C d (.lst n) (.lst m) (binaryOp .Add) ls (.lst ls.length) (ls ++ [l ++ k]) := .of fun A s am a b Q E hr R ha hb K => by
  cases ha with
  | lst h1 => cases hb with
    | lst h2 =>
      obtain ⟨vs, ⟨c1, hp⟩, hv⟩ := R.its h1 hn
      obtain ⟨ws, ⟨c2, hq⟩, hw⟩ := R.its h2 hm'
      refine P.add_list hp hq ?_ (by rw [List.size_toArray, List.size_toArray, hv.length, hw.length]; exact hz)
      have g := Gr.push s.heap { cls := .type "list", data := .seq (vs.toArray ++ ws.toArray) }
      refine K _ _ s.toks (am.add (s.heap.objs.size)) (Pre.add _ _) g (R.more get_size (fun b o e => Heap.get?_push_of_some _ e) (vs := vs ++ ws) ⟨0, ?_⟩ (hv.append hw)) (.lst (R.last _))
      rw [Heap.get?_push_size _ rfl]
      simp
end
end Mine
end
section
open PySem PySem.W PySem.Calls PyProof.Rows PySem.SeqAt
set_option maxRecDepth 100000
set_option linter.unusedVariables false
namespace Mine
/-- a slice's bound -/
inductive PTo (C : Cx) (env : Env) (d : Nat) (ρ : Loc) : Option Expr → LS → Option Int → LS → Prop where
  | none {ls : LS} : PTo C env d ρ none ls none ls
  | some {e : Expr} {ls ls' : LS} {k : Int} : ETo C env d (eval e env) ρ ls (.int k) ls' → PTo C env d ρ (some e) ls (some k) ls'
section
variable {C : Cx} {env : Env} {d : Nat} {ρ ρ1 ρ2 : Loc} {ls ls1 ls2 ls3 : LS} {p q r : PV} {f : PF} {ps qs : List PV} {ks : List (Str × PV)}
theorem PTo.run {e : Option Expr} {k : Option Int} (h : PTo C env d ρ e ls k ls1) {A : Around} {s : Shared} {am : Gh} {Q : Value → Shared → Prop} {E : Value → Shared → Prop} (hr : Room A d) (R : Rep C am ls s.heap s.toks) (F : Fm C env am s.heap ρ)
    (K : ∀ v h' tk am', Pre am am' → Gr s.heap h' → Rep C am' ls1 h' tk → IsPart v k → Q v { s with heap := h', toks := tk }) : wpAny (model C.prog C.w) A (evalPart e env) Q E s := by
  cases h with
  | none => exact wpAny_of_eq (evalPart_none env) (K _ s.heap s.toks am (Pre.refl _) (Gr.refl _) R .none)
  | some h =>
    rw [evalPart_some]
    exact h A s am _ E hr R F fun v h' tk am' p1 g1 R1 hv => by cases hv; exact K _ h' tk am' p1 g1 R1 (.int _ _)
def pick (l : List PV) (lo hi : Option Int) : List PV := (l.drop (kms_lo lo l.length)).take (kms_hi hi l.length - kms_lo lo l.length)
theorem e_slice {value : Expr} {lower upper : Option Expr} {pp pos : Pos} {n : Nat} {l : List PV} {lo hi : Option Int} (h1 : ETo C env d (eval value env) ρ ls (.lst n) ls1) (hlo : PTo C env d ρ lower ls1 lo ls2) (hhi : PTo C env d ρ upper ls2 hi ls3) (hn : ls3[n]? = some l) (hz : l.length ≤ sizeLine) :
    ETo C env d (eval (.Subscript value (.Slice lower upper none pp) pos) env) ρ ls (.lst ls3.length) (ls3 ++ [pick l lo hi]) := fun A s am Q E hr R F K => by
  refine Subscript_ (h1 A s am _ E hr R F fun a h1 t1 am1 p1 g1 R1 v1 => ?_)
  refine wpAny_Slice (hlo.run hr R1 (F.mono p1 g1) fun vl h2 t2 am2 p2 g2 R2 pl => ?_)
  refine hhi.run hr R2 (F.mono (p1.trans p2) (g1.trans g2)) fun vu h3 t3 am3 p3 g3 R3 pu => ?_
  refine wpAny_of_eq (evalPart_none env) ?_
  have v3 := (v1.mono p2 g2).mono p3 g3
  cases v3 with
  | lst hm =>
    rename_i la
    obtain ⟨vs, hp, hv⟩ := R3.its hm hn
    have hlen := hv.length
    have kp : ∀ b o, h3.get? b = some o → (h3.push { cls := .type "slice", data := .fields #[vl, vu, .none] }).get? b = some o := fun b o e => Heap.get?_push_of_some _ e
    have R4 := R3.keeps kp
    have hp4 : (h3.push { cls := .type "slice", data := .fields #[vl, vu, .none] }).PlainList la vs.toArray := hp.at fun o e => kp _ _ e
    refine tail_any (T := "list") hp4.isList.typeIs slot_list_getitem.lookup (wpAny_getItem_list_slice hp4.isList (Heap.IsSliceOf.new ..) pl pu .none (by simp) ?_ (by rw [List.size_toArray, hlen]; exact hz)) rfl
    have e : slicePick vs.toArray lo hi none = (kms_pick vs lo hi).toArray := by rw [kms_pick_eq]
    have hv4 : RVs am3 (h3.push { cls := .type "slice", data := .fields #[vl, vu, .none] }) (pick l lo hi) (kms_pick vs lo hi) := by
      unfold pick kms_pick
      rw [hlen]
      exact ((hv.mono (Pre.refl _) (Gr.of_keeps kp)).drop _).take _
    rw [e]
    have g := (Gr.of_keeps kp).trans (Gr.push (h3.push { cls := .type "slice", data := .fields #[vl, vu, .none] }) { cls := .type "list", data := .seq (kms_pick vs lo hi).toArray })
    exact K _ _ t3 (am3.add _) ((p1.trans (p2.trans p3)).trans (Pre.add _ _)) ((g1.trans (g2.trans g3)).trans g) (R4.more get_size (fun b o e => Heap.get?_push_of_some _ e) ⟨_, Heap.get?_push_size _ rfl⟩ hv4) (.lst (R3.last _))
/-! split, join -/
theorem RVs.strs_from {am : Gh} {h : Heap} : ∀ (tk : Nat) (xs : List Str), RVs am h (xs.map .str) (strsFrom tk xs)
  | _, [] => .nil
  | tk, x :: r => .cons (.str _ _) (RVs.strs_from (tk + 1) r)
theorem c_split {x y : Str} (hy : (y.length == 0) = false) (hx : x.length ≤ sizeLine) (hn : (Builtin.Str.partsBetween x (Builtin.Str.occurrences x y 0 x.length (x.length + 1)) y.length).length ≤ sizeLine) : CTo C d (.builtin "str.split") [.str x, .str y] [] ls (.lst ls.length) (ls ++ [(Txt.split x y).map .str]) := c_two <| .of fun A s am a b Q E hr R ha hb K => by
  cases ha; cases hb
  rename_i t u
  have itself : ∀ h : Txt.split x y = [x], Q (.ref s.heap.objs.size) { s with heap := s.heap.push { cls := .type "list", data := .seq [Value.str x t].toArray } } := fun h => by
    rw [h] at K
    exact K _ _ s.toks (am.add _) (Pre.add _ _) (Gr.push _ _) (R.more get_size (fun b o e => Heap.get?_push_of_some _ e) ⟨_, Heap.get?_push_size _ rfl⟩ (.cons (.str _ _) .nil)) (.lst (R.last _))
  cases h1 : (decide (x.length < y.length) || decide (Builtin.Str.strKind x < Builtin.Str.strKind y)) with
  | true => exact call_meets F.slot_str_split (typeIs_str _ _ _) F.entry_str_split (F.args_str_split_2 _ _) (meets_str_split_cannot_occur x y t u h1) (itself (by unfold Txt.split; rw [if_pos h1]))
  | false =>
    cases hf : (Builtin.Str.occurrences x y 0 x.length (x.length + 1)).isEmpty with
    | true => exact call_meets F.slot_str_split (typeIs_str _ _ _) F.entry_str_split (F.args_str_split_2 _ _) (meets_str_split_not_found x y t u h1 hy hf) (itself (by unfold Txt.split; rw [if_neg (by rw [h1]; decide), if_pos hf]))
    | false =>
      refine call_meets F.slot_str_split (typeIs_str _ _ _) F.entry_str_split (F.args_str_split_2 _ _) (meets_str_split_sep x y t u h1 hy hf hx hn) ?_
      have e : Txt.split x y = Builtin.Str.partsBetween x (Builtin.Str.occurrences x y 0 x.length (x.length + 1)) y.length := by unfold Txt.split; rw [if_neg (by rw [h1]; decide), if_neg (by rw [hf]; decide)]
      rw [e] at K
      exact K _ _ _ (am.add _) (Pre.add _ _) (Gr.push _ _) (R.more get_size (fun b o e => Heap.get?_push_of_some _ e) ⟨_, Heap.get?_push_size _ rfl⟩ (RVs.strs_from _ _)) (.lst (R.last _))
theorem RVs.strs_at {am : Gh} {h : Heap} : ∀ {xs : List Str} {vs : List Value}, RVs am h (xs.map .str) vs → ∃ l : List (Str × Tok), vs = strValues l ∧ l.map (·.1) = xs
  | [], _, .nil => ⟨[], rfl, rfl⟩
  | x :: xs, _, .cons a b => by
    cases a with
    | str _ t =>
      obtain ⟨l, h1, h2⟩ := RVs.strs_at b
      exact ⟨(x, t) :: l, by rw [h1]; rfl, by rw [← h2]; rfl⟩
theorem c_join {sep : Str} {n : Nat} {xs : List Str} (hn : ls[n]? = some (xs.map .str)) (hl : Builtin.Str.tooLong (xs.toArray.foldl (fun a p => a + p.length + sep.length) 0) = false) (hz : (Builtin.Str.glued sep xs).length ≤ sizeLine) : CTo C d (.builtin "str.join") [.str sep, .lst n] [] ls (.str (Builtin.Str.glued sep xs)) ls := c_two <| .of fun A s am a b Q E hr R ha hb K => by
  cases ha
  cases hb with
  | lst hm =>
    rename_i t la
    obtain ⟨vs, hp, hv⟩ := R.its hm hn
    obtain ⟨l, h1, h2⟩ := hv.strs_at
    subst h1
    refine call_meets F.slot_str_join (typeIs_str _ _ _) F.entry_str_join (F.args_str_join_2 _ _) (meets_str_join_list sep t la l (by rw [h2]; exact hl)) ⟨hp.isList, ?_⟩
    have fin : ∀ t' tk, Q (.str (Builtin.Str.glued sep xs) t') { s with toks := tk } := fun t' tk => K _ s.heap tk am (Pre.refl _) (Gr.refl _) R (.str _ _)
    match l, h2 with
    | [], h2 => exact ⟨by rw [h2]; exact hz, by rw [h2]; exact fin _ _⟩
    | [p], h2 =>
      have e : Builtin.Str.glued sep xs = p.1 := by rw [← h2]; rfl
      have := fin p.2 s.toks
      rw [e] at this; exact this
    | p :: q :: r, h2 => exact ⟨by rw [h2]; exact hz, by rw [h2]; exact fin _ _⟩
end
end Mine
end
section
open PySem PySem.W PySem.Calls PyProof.Rows
set_option maxRecDepth 100000
set_option linter.unusedVariables false
namespace Mine
/-- no list within -/
inductive Flat : PV → Prop where
  | none : Flat .none
  | bool (b : Bool) : Flat (.bool b)
  | int (i : Int) : Flat (.int i)
  | flt (x : UInt64) : Flat (.flt x)
  | str (s : Str) : Flat (.str s)
  | ref (a : Addr) : Flat (.ref a)
  | bi (a : String) : Flat (.bi a)
  | ty (a : String) : Flat (.ty a)
  | rng (a b c : Int) : Flat (.rng a b c)
  | tup {l : List PV} : (∀ x ∈ l, Flat x) → Flat (.tup l)
theorem Flat.nil : ∀ x ∈ ([] : List PV), Flat x := fun _ h => nomatch h
theorem Flat.cons {p : PV} {l : List PV} (h : Flat p) (t : ∀ x ∈ l, Flat x) : ∀ x ∈ p :: l, Flat x := fun x hx => by
  rcases List.mem_cons.mp hx with rfl | hx
  · exact h
  · exact t x hx
theorem Flat.in {l : List PV} (f : Flat (.tup l)) : ∀ x ∈ l, Flat x := by cases f with | tup f => exact f
theorem RV.flat {am am' : Gh} {h : Heap} (e : am.τ = am'.τ) {p : PV} {v : Value} (r : RV am h p v) (f : Flat p) : RV am' h p v := r.gen (fun _ _ z => e ▸ z) (fun _ _ z _ => z) Flat (fun _ _ f _ => nomatch f) (fun _ f => f.in) f
theorem RVs.flat {am am' : Gh} {h : Heap} (e : am.τ = am'.τ) {ps : List PV} {vs : List Value} (r : RVs am h ps vs) (f : ∀ x ∈ ps, Flat x) : RVs am' h ps vs := r.gen (fun _ _ z => e ▸ z) (fun _ _ z _ => z) Flat (fun _ _ f _ => nomatch f) (fun _ f => f.in) f
def FlatLS (ls : LS) : Prop := ∀ l ∈ ls, ∀ x ∈ l, Flat x
section
variable {C : Cx} {env : Env} {d : Nat} {ρ ρ1 ρ2 : Loc} {ls ls1 ls2 ls3 X : LS} {p q r : PV} {f : PF} {ps qs : List PV} {ks : List (Str × PV)}
/-- the lists that a call has made for itself are let go -/
theorem Rep.let_go {am : Gh} {h : Heap} {tk : Nat} {n : Nat} (R : Rep C am (ls1 ++ X) h tk) (hf : FlatLS ls1) : Rep C ⟨am.l.take ls1.length, am.τ⟩ ls1 h tk := by
  refine ⟨R.pos, R.tks, R.old, ?_, ?_, ?_, ?_⟩
  · show (am.l.take ls1.length).length = _
    rw [List.length_take, R.len, List.length_append]; lia
  · exact R.nd.sublist (List.take_sublist _ _)
  · exact fun a ha => R.new a (List.mem_of_mem_take ha)
  · intro i a l ha hl
    have hi : i < ls1.length := (List.getElem?_eq_some_iff.mp hl).1
    have ha' : am.l[i]? = some a := by
      have : (am.l.take ls1.length)[i]? = some a := ha
      rwa [List.getElem?_take_of_lt hi] at this
    obtain ⟨vs, hp, hv⟩ := R.its ha' (by rw [List.getElem?_append_left hi]; exact hl)
    exact ⟨vs, hp, RVs.flat (by rfl) hv (hf l (List.mem_of_getElem? hl))⟩
theorem take_pre {am am' : Gh} {h : Heap} {h0 : Heap} {tk : Nat} (p : Pre am am') (R : Rep C am ls h0 tk) (e : ls.length = ls1.length) : Pre am ⟨am'.l.take ls1.length, am'.τ⟩ := by
  refine ⟨?_, p.τ⟩
  show am.l <+: am'.l.take ls1.length
  have : am'.l.take ls1.length = am.l := by
    obtain ⟨t, ht⟩ := p.l
    rw [← ht, ← e, ← R.len, List.take_left]
  rw [this]
  exact List.prefix_refl _
theorem CTo.drop {f : Value} (h : CTo C d f ps ks ls p (ls1 ++ X)) (hf : FlatLS ls1) (he : ls.length = ls1.length) (hp : Flat p) : CTo C d f ps ks ls p ls1 := fun A s am vs kv Q E hr R hvs hkv K =>
  h A s am vs kv Q E hr R hvs hkv fun v h' tk am' p1 g1 R1 hv => K v h' tk _ (take_pre (h := h') p1 R he) g1 (R1.let_go (n := 0) hf) (hv.flat (by rfl) hp)
/-- one list is handed back, the others are let go -/
theorem CTo.keep {f : Value} {n : Nat} {l : List PV} (h : CTo C d f ps ks ls (.lst n) (ls1 ++ X)) (hf : FlatLS ls1) (he : ls.length = ls1.length) (hn : ls1.length ≤ n) (hx : (ls1 ++ X)[n]? = some l) (hl : ∀ x ∈ l, Flat x) : CTo C d f ps ks ls (.lst ls1.length) (ls1 ++ [l]) := fun A s am vs kv Q E hr R hvs hkv K =>
  h A s am vs kv Q E hr R hvs hkv fun v h' tk am' p1 g1 R1 hv => by
    cases hv with
    | @lst _ a hm =>
      obtain ⟨ws, hpl, hws⟩ := R1.its hm hx
      have R2 := R1.let_go (n := 0) hf
      have hlen : (am'.l.take ls1.length).length = ls1.length := R2.len
      have hna : a ∉ am'.l.take ls1.length := fun hin => by
        obtain ⟨i, hi, e⟩ := List.getElem_of_mem hin
        rw [List.getElem_take] at e
        obtain ⟨h2, e2⟩ := List.getElem?_eq_some_iff.mp hm
        have := (List.getElem_inj R1.nd).mp (e.trans e2.symm)
        rw [hlen] at hi; lia
      have pr := take_pre (ls1 := ls1) (h := h') p1 R he
      refine K (.ref a) h' tk (Gh.add ⟨am'.l.take ls1.length, am'.τ⟩ a) (pr.trans (Pre.add _ _)) g1 ⟨R1.pos, R1.tks, R1.old, ?_, ?_, ?_, ?_⟩ (.lst (R2.last a))
      · show (am'.l.take ls1.length ++ [a]).length = _
        rw [List.length_append, hlen]; simp
      · refine List.nodup_append.mpr ⟨R2.nd, by simp, fun x hx y hy e => ?_⟩
        have : y = a := by simpa using hy
        rw [e, this] at hx; exact hna hx
      · intro x hx
        have hx : x ∈ am'.l.take ls1.length ++ [a] := hx
        rcases List.mem_append.mp hx with q | q
        · exact R1.new x (List.mem_of_mem_take q)
        · have : x = a := by simpa using q
          rw [this]; exact R1.new a (List.mem_of_getElem? hm)
      · intro i x m hi hmm
        have hi : (am'.l.take ls1.length ++ [a])[i]? = some x := hi
        by_cases q : i < ls1.length
        · rw [List.getElem?_append_left (by rw [hlen]; exact q)] at hi
          rw [List.getElem?_append_left q] at hmm
          obtain ⟨us, h1, h2⟩ := R2.its (i := i) (a := x) (l := m) hi hmm
          exact ⟨us, h1, RVs.flat (am := ⟨am'.l.take ls1.length, am'.τ⟩) (by rfl) h2 (hf m (List.mem_of_getElem? hmm))⟩
        · have hi2 : i < (am'.l.take ls1.length ++ [a]).length := (List.getElem?_eq_some_iff.mp hi).1
          have e1 : i = ls1.length := by rw [List.length_append, hlen] at hi2; simp at hi2; lia
          subst e1
          rw [List.getElem?_append_right (by rw [hlen]; exact Nat.le_refl _), hlen] at hi
          rw [List.getElem?_append_right (Nat.le_refl _)] at hmm
          simp at hi hmm
          subst hi hmm
          exact ⟨ws, hpl, RVs.flat (am := am') (by rfl) hws hl⟩
end
end Mine
end
section
open PySem PySem.W PySem.Calls PyProof.Rows
set_option maxRecDepth 100000
set_option linter.unusedVariables false
namespace Mine
theorem of_inj {a b : String} (h : Str.ofString a = Str.ofString b) : a = b := by
  have h1 : (Str.ofString a).cps.toList = (Str.ofString b).cps.toList := by rw [h]
  have e : ∀ s : String, (Str.ofString s).cps.toList = s.toList.map (·.toNat) := fun s => by rw [Str.ofString_eq_toList]
  rw [e, e] at h1
  have inj : ∀ (l m : List Char), l.map (·.toNat) = m.map (·.toNat) → l = m := by
    intro l
    induction l with
    | nil => intro m h; cases m with | nil => rfl | cons => simp at h
    | cons c l ih =>
      intro m h
      cases m with
      | nil => simp at h
      | cons d m =>
        simp only [List.map_cons, List.cons.injEq] at h
        have : c = d := Char.toNat_inj.mp h.1
        rw [this, ih m h.2]
  exact String.toList_inj.mp (inj _ _ h1)
theorem lk_hit (ρ : Loc) (a : Str) (p : PV) : (pset ρ a p).lookup a = some p := by rw [lookup_pset, if_pos rfl]
theorem lk_miss {ρ : Loc} {a b : String} {p : PV} {q : Option PV} (h : a ≠ b) (e : ρ.lookup (Str.ofString a) = q) : (pset ρ (Str.ofString b) p).lookup (Str.ofString a) = q := by rw [lookup_pset, if_neg fun e => h (of_inj e)]; exact e
theorem lc_hit (ρ : Loc) (a : Str) (p : PV) : List.lookup a ((a, p) :: ρ) = some p := by rw [List.lookup_cons]; simp
theorem lc_miss {ρ : Loc} {a b : String} {p : PV} {q : Option PV} (h : a ≠ b) (e : ρ.lookup (Str.ofString a) = q) : List.lookup (Str.ofString a) ((Str.ofString b, p) :: ρ) = q := by
  have : (Str.ofString a == Str.ofString b) = false := by
    cases e : (Str.ofString a == Str.ofString b) with
    | false => rfl
    | true => exact absurd (of_inj (by simpa using e)) h
  rw [List.lookup_cons, this]; exact e
theorem lz_hit (xs : List Str) (ps : List PV) (a : Str) (p : PV) : List.lookup a ((a :: xs).zip (p :: ps)) = some p := lc_hit _ _ _
theorem lz_miss {xs : List Str} {ps : List PV} {a b : String} {p : PV} {q : Option PV} (h : a ≠ b) (e : (xs.zip ps).lookup (Str.ofString a) = q) : List.lookup (Str.ofString a) ((Str.ofString b :: xs).zip (p :: ps)) = q := lc_miss h e
end Mine
end
section
open PySem PySem.W PySem.Calls PyProof.Rows
set_option maxRecDepth 100000
set_option linter.unusedVariables false
namespace Mine
/-- texts by their signs -/
def T (l : List Nat) : Str := ⟨l.toArray⟩
theorem T_len (l : List Nat) : (T l).length = l.length := by simp [T, Str.length]
theorem T_app (a b : List Nat) : T a ++ T b = T (a ++ b) := by
  show (⟨a.toArray ++ b.toArray⟩ : Str) = ⟨(a ++ b).toArray⟩
  simp
theorem T_list (x : Str) : T x.cps.toList = x := by unfold T; rw [Array.toArray_toList]
theorem T_inj {a b : List Nat} (h : T a = T b) : a = b := by
  unfold T at h
  injection h with h
  exact List.toArray_inj h
theorem intBits_small {a : Int} (h : a.natAbs < 2 ^ 62) : Builtin.Int.intBits a ≤ 64 := by
  unfold Builtin.Int.intBits
  by_cases h0 : a = 0
  · rw [if_pos (by simpa using h0)]; lia
  · rw [if_neg (by simpa using h0)]
    have := (Nat.log2_lt (n := a.natAbs) (k := 62) (by lia)).mpr h
    lia
section
variable {C : Cx} {env : Env} {d : Nat} {ρ ρ1 ρ2 : Loc} {ls ls1 ls2 ls3 : LS} {p q r : PV} {ps qs : List PV}
theorem o_cat {a b : List Nat} (h : a.length + b.length ≤ 10000) : V2To C d (.str (T a)) (.str (T b)) (binaryOp .Add) ls (.str (T (a ++ b))) ls := by
  have hs : (10000 : Nat) ≤ sizeLine := by decide
  exact (o_add_str (by rw [T_len, T_len]; lia)).to (by rw [T_app])
theorem o_muls {a b : Int} (ha : a.natAbs < 2 ^ 62) : V2To C d (.int a) (.int b) (binaryOp .Mult) ls (.int (a * b)) ls := o_mul_int (.of_left (intBits_small ha))
theorem e_lit {x : Str} {l : List Nat} {k : Nat} {pos : Pos} (h : x = T l) : ETo C env d (eval (.Constant (.str x) k pos) env) ρ ls (.str (T l)) ls := h ▸ e_str
end
end Mine
end
section
open PySem PySem.W PySem.Calls PyProof.Rows
set_option maxRecDepth 100000
set_option linter.unusedVariables false
namespace Mine
/-- a name holds a value -/
abbrev LK (ρ : Loc) (x : Str) (p : PV) : Prop := ρ.lookup x = some p
section
variable {C : Cx} {env : Env} {d : Nat} {ρ ρ1 ρ2 ρ3 : Loc} {ls ls1 ls2 ls3 : LS} {p q r : PV} {f : PF} {ps qs : List PV}
theorem t_lstN {value slice : Expr} {n : Nat} {l : List PV} {j : Nat} (hn : NoSlice slice) (hl : ls[n]? = some l) (hhi : j < 2 ^ 60) (hx : l[j]? = some r) : V2To C d (.lst n) (.int (j : Nat)) (subscriptTail value slice) ls r ls :=
  t_lst hn hl (by lia) (by lia) (by simpa using hx)
/-! ends that are told by a word alone -/
/-- a statement's end, by a word on its names and lists -/
def XE (C : Cx) (env : Env) (d : Nat) (t : Sem Flow) (ρ : Loc) (ls : LS) (f : PF) (P : Loc → LS → Prop) : Prop := ∃ ρ1 ls1, XTo C env d t ρ ls f ρ1 ls1 ∧ P ρ1 ls1
variable {P P' : Loc → LS → Prop}
theorem XE.of {t : Sem Flow} (h : XTo C env d t ρ ls f ρ1 ls1) (hp : P ρ1 ls1) : XE C env d t ρ ls f P := ⟨_, _, h, hp⟩
theorem XE.mono {t : Sem Flow} (h : XE C env d t ρ ls f P) (hp : ∀ ρ ls, P ρ ls → P' ρ ls) : XE C env d t ρ ls f P' := let ⟨_, _, a, b⟩ := h; ⟨_, _, a, hp _ _ b⟩
theorem r_consE {st : Stmt} {rest : List Stmt} (h1 : XE C env d (exec st env) ρ ls .next P) (h2 : ∀ ρ1 ls1, P ρ1 ls1 → RTo C env d (execs rest env) ρ1 ls1 p ls2) : RTo C env d (execs (st :: rest) env) ρ ls p ls2 :=
  let ⟨_, _, a, b⟩ := h1; r_cons a (h2 _ _ b)
theorem xe_nil (h : P ρ ls) : XE C env d (execs [] env) ρ ls .next P := ⟨_, _, x_nil, h⟩
theorem xe_cons {st : Stmt} {rest : List Stmt} (h1 : XTo C env d (exec st env) ρ ls .next ρ1 ls1) (h2 : XE C env d (execs rest env) ρ1 ls1 f P) : XE C env d (execs (st :: rest) env) ρ ls f P :=
  let ⟨_, _, a, b⟩ := h2; ⟨_, _, x_cons h1 a, b⟩
theorem xe_one {st : Stmt} (h1 : XE C env d (exec st env) ρ ls .next P) : XE C env d (execs [st] env) ρ ls .next P :=
  let ⟨_, _, a, b⟩ := h1; ⟨_, _, x_cons a x_nil, b⟩
theorem xe_ifT {t : Expr} {body orelse : List Stmt} {pos : Pos} {b : Bool} (ht : BTo C env d (isTrue t env (eval t env)) ρ ls b ls1) (hb : b = true) (h : XE C env d (execs body env) ρ ls1 f P) : XE C env d (exec (.If t body orelse pos) env) ρ ls f P :=
  let ⟨_, _, a, c⟩ := h; ⟨_, _, x_if ht (fun _ => a) (fun e => by rw [hb] at e; cases e), c⟩
theorem xe_ifF {t : Expr} {body orelse : List Stmt} {pos : Pos} {b : Bool} (ht : BTo C env d (isTrue t env (eval t env)) ρ ls b ls1) (hb : b = false) (h : XE C env d (execs orelse env) ρ ls1 f P) : XE C env d (exec (.If t body orelse pos) env) ρ ls f P :=
  let ⟨_, _, a, c⟩ := h; ⟨_, _, x_if ht (fun e => by rw [hb] at e; cases e) (fun _ => a), c⟩
/-- a while by its word and a measure -/
theorem xe_while {test : Expr} {body : List Stmt} {pos : Pos} {m : Nat} (Inv : Nat → Loc → LS → Prop)
    (step : ∀ m ρ ls, Inv m ρ ls → (BTo C env d (isTrue test env (eval test env)) ρ ls false ls ∧ P ρ ls) ∨
      (BTo C env d (isTrue test env (eval test env)) ρ ls true ls ∧ XE C env d (execs body env) ρ ls .next fun ρ1 ls1 => ∃ m', m' < m ∧ Inv m' ρ1 ls1))
    (h0 : Inv m ρ ls) : XE C env d (exec (.While test body [] pos) env) ρ ls .next P := by
  have : ∀ m ρ ls, Inv m ρ ls → ∃ n ρ1 ls1, Wl C env d test body n ρ ls .next ρ1 ls1 ∧ P ρ1 ls1 := by
    intro m
    induction m using Nat.strongRecOn with
    | _ m ih =>
      intro ρ ls h
      rcases step m ρ ls h with ⟨a, b⟩ | ⟨a, ρ1, ls1, b, m', hm, c⟩
      · exact ⟨0, _, _, .stop a, b⟩
      · obtain ⟨n, ρ2, ls2, w, pp⟩ := ih m' hm ρ1 ls1 c
        exact ⟨n + 1, _, _, .next a b w, pp⟩
  obtain ⟨n, ρ1, ls1, w, pp⟩ := this m ρ ls h0
  exact ⟨_, _, x_while w, pp⟩
/-- a for by its word -/
theorem lp_inv {target : Expr} {body : List Stmt} {ok : LS → Prop} {items : List PV} (Inv : Nat → Loc → LS → Prop) (hok : ∀ i ρ ls, i ≤ items.length → Inv i ρ ls → ok ls)
    (step : ∀ i q ρ ls, items[i]? = some q → Inv i ρ ls → ∃ ρ1, ATo C env target ρ q ρ1 ∧ XE C env d (execs body env) ρ1 ls .next fun ρ2 ls2 => Inv (i + 1) ρ2 ls2)
    (h0 : Inv 0 ρ ls) : ∃ ρ1 ls1, Lp C env d target body ok items ρ ls .next ρ1 ls1 ∧ Inv items.length ρ1 ls1 := by
  have : ∀ (r i : Nat) ρ ls, i + r = items.length → Inv i ρ ls → ∃ ρ1 ls1, Lp C env d target body ok (items.drop i) ρ ls .next ρ1 ls1 ∧ Inv items.length ρ1 ls1 := by
    intro r
    induction r with
    | zero =>
      intro i ρ ls hi h
      have : i = items.length := by lia
      subst this
      rw [List.drop_length]
      exact ⟨_, _, .nil (hok _ _ _ (Nat.le_refl _) h), h⟩
    | succ r ih =>
      intro i ρ ls hi h
      have hlt : i < items.length := by lia
      obtain ⟨ρ1, ha, ρ2, ls2, hx, h2⟩ := step i items[i] ρ ls (by simp [hlt]) h
      obtain ⟨ρ3, ls3, hl, h3⟩ := ih (i + 1) ρ2 ls2 (by lia) h2
      rw [List.drop_eq_getElem_cons hlt]
      exact ⟨_, _, .next (hok _ _ _ (by lia) h) ha hx hl, h3⟩
  simpa using this items.length 0 ρ ls (by lia) h0
theorem xe_for {target iter : Expr} {body : List Stmt} {pos : Pos} {ok : LS → Prop} {items : List PV} (Inv : Nat → Loc → LS → Prop) (h : ETo C env d (eval iter env) ρ ls p ls1) (S : Src C target p ls1 ok items)
    (h0 : Inv 0 ρ ls1) (hok : ∀ i ρ ls, i ≤ items.length → Inv i ρ ls → ok ls)
    (step : ∀ i q ρ ls, items[i]? = some q → Inv i ρ ls → ∃ ρ1, ATo C env target ρ q ρ1 ∧ XE C env d (execs body env) ρ1 ls .next fun ρ2 ls2 => Inv (i + 1) ρ2 ls2)
    (hs : ∀ x, foldedSetIterable iter env x = pure x) : XE C env d (exec (.For target iter body [] pos) env) ρ ls .next (Inv items.length) := by
  obtain ⟨ρ1, ls2, L, hi⟩ := lp_inv Inv hok step h0
  exact ⟨_, _, x_for h S L hs, hi⟩
end
/-! lists that are let go, where others hold lists -/
/-- no list within but the first n -/
inductive Low (n : Nat) : PV → Prop where
  | none : Low n .none
  | bool (b : Bool) : Low n (.bool b)
  | int (i : Int) : Low n (.int i)
  | flt (x : UInt64) : Low n (.flt x)
  | str (s : Str) : Low n (.str s)
  | ref (a : Addr) : Low n (.ref a)
  | bi (a : String) : Low n (.bi a)
  | ty (a : String) : Low n (.ty a)
  | rng (a b c : Int) : Low n (.rng a b c)
  | lst {m : Nat} : m < n → Low n (.lst m)
  | tup {l : List PV} : (∀ x ∈ l, Low n x) → Low n (.tup l)
theorem Flat.low {n : Nat} {p : PV} (h : Flat p) : Low n p := by
  induction h with
  | none => exact .none
  | bool => exact .bool _
  | int => exact .int _
  | flt => exact .flt _
  | str => exact .str _
  | ref => exact .ref _
  | bi => exact .bi _
  | ty => exact .ty _
  | rng => exact .rng _ _ _
  | tup _ ih => exact .tup ih
theorem Low.in {n : Nat} {l : List PV} (f : Low n (.tup l)) : ∀ x ∈ l, Low n x := by cases f with | tup f => exact f
theorem Low.lt {n m : Nat} (f : Low n (.lst m)) : m < n := by cases f with | lst f => exact f
theorem RV.low {am : Gh} {h : Heap} {n : Nat} {p : PV} {v : Value} (r : RV am h p v) (f : Low n p) : RV ⟨am.l.take n, am.τ⟩ h p v := r.gen (am := am) (am' := ⟨am.l.take n, am.τ⟩) (fun _ _ z => z) (fun _ _ z _ => z) (Low n) (fun m a f e => by show (am.l.take n)[m]? = _; rw [List.getElem?_take_of_lt f.lt]; exact e) (fun _ f => f.in) f
theorem RVs.low {am : Gh} {h : Heap} {n : Nat} {ps : List PV} {vs : List Value} (r : RVs am h ps vs) (f : ∀ x ∈ ps, Low n x) : RVs ⟨am.l.take n, am.τ⟩ h ps vs := r.gen (am := am) (am' := ⟨am.l.take n, am.τ⟩) (fun _ _ z => z) (fun _ _ z _ => z) (Low n) (fun m a f e => by show (am.l.take n)[m]? = _; rw [List.getElem?_take_of_lt f.lt]; exact e) (fun _ f => f.in) f
def LowLS (ls : LS) : Prop := ∀ l ∈ ls, ∀ x ∈ l, Low ls.length x
theorem FlatLS.low {ls : LS} (h : FlatLS ls) : LowLS ls := fun l hl x hx => (h l hl x hx).low
section
variable {C : Cx} {env : Env} {d : Nat} {ρ ρ1 ρ2 ρ3 : Loc} {ls ls1 ls2 ls3 X : LS} {p q r : PV} {f : PF} {ps qs : List PV} {ks : List (Str × PV)}
theorem Rep.let_low {am : Gh} {h : Heap} {tk : Nat} (R : Rep C am (ls1 ++ X) h tk) (hf : LowLS ls1) : Rep C ⟨am.l.take ls1.length, am.τ⟩ ls1 h tk := by
  refine ⟨R.pos, R.tks, R.old, ?_, ?_, ?_, ?_⟩
  · show (am.l.take ls1.length).length = _
    rw [List.length_take, R.len, List.length_append]; lia
  · exact R.nd.sublist (List.take_sublist _ _)
  · exact fun a ha => R.new a (List.mem_of_mem_take ha)
  · intro i a l ha hl
    have hi : i < ls1.length := (List.getElem?_eq_some_iff.mp hl).1
    have ha' : am.l[i]? = some a := by
      have : (am.l.take ls1.length)[i]? = some a := ha
      rwa [List.getElem?_take_of_lt hi] at this
    obtain ⟨vs, hp, hv⟩ := R.its ha' (by rw [List.getElem?_append_left hi]; exact hl)
    exact ⟨vs, hp, RVs.low hv (hf l (List.mem_of_getElem? hl))⟩
theorem ETo.drop {t : Sem Value} (h : ETo C env d t ρ ls p (ls1 ++ X)) (hf : LowLS ls1) (he : ls.length = ls1.length) (hp : Low ls1.length p) : ETo C env d t ρ ls p ls1 := fun A s am Q E hr R F K =>
  h A s am Q E hr R F fun v h' tk am' p1 g1 R1 hv => K v h' tk _ (take_pre (h := h') p1 R he) g1 (R1.let_low hf) (hv.low hp)
theorem BTo.drop {t : Sem Bool} {b : Bool} (h : BTo C env d t ρ ls b (ls1 ++ X)) (hf : LowLS ls1) (he : ls.length = ls1.length) : BTo C env d t ρ ls b ls1 := fun A s am Q E hr R F K =>
  h A s am Q E hr R F fun h' tk am' p1 g1 R1 => K h' tk _ (take_pre (h := h') p1 R he) g1 (R1.let_low hf)
end
end Mine
end
section
open PySem PySem.W PySem.Calls PyProof.Rows PySem.Float64
set_option maxRecDepth 100000
set_option linter.unusedVariables false
namespace Mine
/-! floats that are exact -/
/-- the float of k / 2 ^ c -/
def fl (k : Int) (c : Nat) : UInt64 := ofFrac (decide (k < 0)) k.natAbs (2 ^ c)
structure Fit (k : Int) (c : Nat) : Prop where
  k : k.natAbs < 2 ^ 53
  c : c ≤ 1000
theorem rep_exists {n c : Nat} (hn : n < 2 ^ 53) (hc : c ≤ 1000) : ∃ t, t < infMag ∧ V t = n * 2 ^ (1074 - c) := by
  have hi : infMag = 2047 * 2 ^ 52 := rfl
  by_cases h0 : n = 0
  · subst h0; exact ⟨0, by rw [hi]; decide, by rw [V_zero, Nat.zero_mul]⟩
  · have hlog : n.log2 < 53 := (Nat.log2_lt h0).mpr hn
    have hlo : 2 ^ n.log2 ≤ n := Nat.log2_self_le h0
    have hhi : n < 2 ^ (n.log2 + 1) := Nat.lt_log2_self
    generalize n.log2 = g at hlog hlo hhi
    have e52 : (2 : Nat) ^ 52 = 2 ^ g * 2 ^ (52 - g) := by rw [← Nat.pow_add]; congr 1; lia
    have e53 : (2 : Nat) ^ 53 = 2 ^ (g + 1) * 2 ^ (52 - g) := by rw [← Nat.pow_add]; congr 1; lia
    have q1 : 2 ^ 52 ≤ n * 2 ^ (52 - g) := by rw [e52]; exact Nat.mul_le_mul_right _ hlo
    have q2 : n * 2 ^ (52 - g) < 2 ^ 53 := by rw [e53]; exact Nat.mul_lt_mul_of_pos_right hhi (Nat.two_pow_pos _)
    refine ⟨(1074 - c - (52 - g)) * 2 ^ 52 + n * 2 ^ (52 - g), ?_, ?_⟩
    · rw [hi]
      have : 1074 - c - (52 - g) ≤ 1074 := by lia
      have : (1074 - c - (52 - g)) * 2 ^ 52 ≤ 1074 * 2 ^ 52 := Nat.mul_le_mul_right _ this
      lia
    · rw [V_at (Nat.le_of_lt q2) (.inl q1), Nat.mul_assoc, ← Nat.pow_add]
      congr 2; lia
theorem V_inj {a b : Nat} (h : V a = V b) : a = b := by
  rcases Nat.lt_trichotomy a b with q | q | q
  · exact absurd h (Nat.ne_of_lt (V_lt q))
  · exact q
  · exact absurd h.symm (Nat.ne_of_lt (V_lt q))
theorem small_W {n c : Nat} (hn : n < 2 ^ 53) : n * 2 ^ (1074 - c) < 2 ^ 1127 := by
  have h1 : n * 2 ^ (1074 - c) < 2 ^ 53 * 2 ^ (1074 - c) := Nat.mul_lt_mul_of_pos_right hn (Nat.two_pow_pos _)
  have h2 : 2 ^ 53 * 2 ^ (1074 - c) ≤ 2 ^ 53 * 2 ^ 1074 := Nat.mul_le_mul_left _ (Nat.pow_le_pow_right (by decide) (by omega))
  exact Nat.lt_of_lt_of_le h1 (Nat.le_trans h2 (by rw [← Nat.pow_add]; exact Nat.le_refl _))
theorem right_exact {r : UInt64} {neg : Bool} {W D t : Nat} (h : Right r neg (D * W) D) (hD : 0 < D) (ht : t < infMag) (hV : V t = W) (hW : W < 2 ^ 1127) : r = pack neg t := by
  obtain ⟨t1, hr, hle, hinf, hnear⟩ := h
  have hlt : t1 < infMag := by
    refine Nat.lt_of_le_of_ne hle fun e => ?_
    have := hinf.mp e
    have h2 : 2 * (D * W) = D * (2 * W) := by ac_rfl
    rw [h2] at this
    have h3 := Nat.le_of_mul_le_mul_left this hD
    have h4 : (2 ^ 1128 : Nat) ≤ (2 ^ 54 - 1) * 2 ^ 2045 := by
      have : (2 : Nat) ^ 1128 ≤ 2 ^ 2045 := Nat.pow_le_pow_right (by decide) (by decide)
      exact Nat.le_trans this (Nat.le_mul_of_pos_left _ (by decide))
    have h5 : (2 : Nat) ^ 1128 = 2 * 2 ^ 1127 := by rw [show (1128 : Nat) = 1127 + 1 from rfl, Nat.pow_succ, Nat.mul_comm]
    lia
  have hd := (hnear hlt t).1
  rw [hV] at hd
  have z : dist (D * W) (D * W) = 0 := by unfold dist; lia
  rw [z] at hd
  have : D * W = D * V t1 := by unfold dist at hd; lia
  have e : V t1 = V t := by rw [hV]; exact (Nat.eq_of_mul_eq_mul_left hD this).symm
  rw [hr, V_inj e]
theorem fl_right (k : Int) {c : Nat} (hc : c ≤ 1000) : Right (fl k c) (decide (k < 0)) (1 * (k.natAbs * 2 ^ (1074 - c))) 1 := by
  refine ofFrac_right (Nat.two_pow_pos _) ?_ (by decide)
  rw [Nat.mul_one, Nat.one_mul, Nat.mul_assoc, ← Nat.pow_add]
  congr 2; lia
theorem fl_pack {k : Int} {c : Nat} (f : Fit k c) : ∃ t, t < infMag ∧ V t = k.natAbs * 2 ^ (1074 - c) ∧ fl k c = pack (decide (k < 0)) t := by
  obtain ⟨t, h1, h2⟩ := rep_exists f.k f.c
  exact ⟨t, h1, h2, right_exact (fl_right k f.c) (by decide) h1 h2 (small_W f.k)⟩
/-- what is rightly rounded and fits is that float -/
theorem fl_of {r : UInt64} {k : Int} {c D W : Nat} (f : Fit k c) (h : Right r (decide (k < 0)) W D) (hD : 0 < D) (hW : W = D * (k.natAbs * 2 ^ (1074 - c))) : r = fl k c := by
  obtain ⟨t, h1, h2, h3⟩ := fl_pack f
  rw [h3]
  subst hW
  exact right_exact h hD h1 h2 (small_W f.k)
theorem fl_dec {k : Int} {c : Nat} (f : Fit k c) : ∃ m e, decode (fl k c) = .fin (decide (k < 0)) m e ∧ m * 2 ^ (e + 1074).toNat = k.natAbs * 2 ^ (1074 - c) ∧ val (fl k c) = k * ((2 ^ (1074 - c) : Nat) : Int) := by
  obtain ⟨t, h1, h2, h3⟩ := fl_pack f
  obtain ⟨m, e, hd, hm⟩ := decode_pack (decide (k < 0)) h1
  refine ⟨m, e, by rw [h3]; exact hd, by rw [hm, h2], ?_⟩
  rw [h3, val_pack _ h1, h2, sgn_mul]
  congr 1
  unfold sgn
  by_cases h : k < 0
  · simp [h]; lia
  · simp [h]; lia
theorem pw_pos (n : Nat) : (0 : Int) < ((2 ^ n : Nat) : Int) := Int.ofNat_lt.mpr (Nat.two_pow_pos _)
theorem fl_zero (c : Nat) : fl 0 c = zero false := by unfold fl ofFrac roundMag; rfl
theorem sgn_mulpos {a : Int} {n : Nat} : decide (a * ((2 ^ n : Nat) : Int) < 0) = decide (a < 0) := by
  have := pw_pos n
  refine decide_eq_decide.mpr ⟨fun h => ?_, fun h => ?_⟩
  · by_cases q : a < 0
    · exact q
    · have := Int.mul_nonneg (Int.not_lt.mp q) (Int.le_of_lt this)
      omega
  · exact Int.mul_neg_of_neg_of_pos h this
theorem fl_add {a b : Int} {c : Nat} (fa : Fit a c) (fb : Fit b c) (fs : Fit (a + b) c) : add (fl a c) (fl b c) = fl (a + b) c := by
  obtain ⟨m, e, d1, _, v1⟩ := fl_dec fa
  obtain ⟨k, f, d2, _, v2⟩ := fl_dec fb
  have z := add_right d1 d2
  rw [v1, v2, ← Int.add_mul] at z
  by_cases h : a + b = 0
  · rw [h, Int.zero_mul] at z
    rw [z.1 rfl, h, fl_zero]
    congr 1
    have : ¬ (a < 0 ∧ b < 0) := by lia
    simpa using this
  · have hne : (a + b) * ((2 ^ (1074 - c) : Nat) : Int) ≠ 0 := Int.mul_ne_zero h (Int.ne_of_gt (pw_pos _))
    have r := z.2 hne
    rw [sgn_mulpos] at r
    exact fl_of fs r (by decide) (by rw [Int.natAbs_mul, Int.natAbs_natCast, Nat.one_mul])
theorem fl_sub {a b : Int} {c : Nat} (fa : Fit a c) (fb : Fit b c) (fs : Fit (a - b) c) (hz : a = b → 0 ≤ a) : sub (fl a c) (fl b c) = fl (a - b) c := by
  obtain ⟨m, e, d1, _, v1⟩ := fl_dec fa
  obtain ⟨k, f, d2, _, v2⟩ := fl_dec fb
  have z := sub_right d1 d2
  rw [v1, v2, ← Int.sub_mul] at z
  by_cases h : a - b = 0
  · rw [h, Int.zero_mul] at z
    rw [z.1 rfl, h, fl_zero]
    congr 1
    have := hz (by lia)
    simp; lia
  · have hne : (a - b) * ((2 ^ (1074 - c) : Nat) : Int) ≠ 0 := Int.mul_ne_zero h (Int.ne_of_gt (pw_pos _))
    have r := z.2 hne
    rw [sgn_mulpos] at r
    exact fl_of fs r (by decide) (by rw [Int.natAbs_mul, Int.natAbs_natCast, Nat.one_mul])
theorem neg_xor {a b : Int} (h : a * b = 0 → 0 ≤ a ∧ 0 ≤ b) : (decide (a < 0) != decide (b < 0)) = decide (a * b < 0) := by
  by_cases h0 : a * b = 0
  · obtain ⟨h1, h2⟩ := h h0
    rw [h0, decide_eq_false (by lia : ¬ a < 0), decide_eq_false (by lia : ¬ b < 0)]; rfl
  · have ha : a ≠ 0 := fun e => h0 (by rw [e, Int.zero_mul])
    have hb : b ≠ 0 := fun e => h0 (by rw [e, Int.mul_zero])
    by_cases h1 : a < 0 <;> by_cases h2 : b < 0
    · have := Int.mul_pos_of_neg_of_neg h1 h2
      rw [decide_eq_true h1, decide_eq_true h2, decide_eq_false (by lia : ¬ a * b < 0)]; rfl
    · have := Int.mul_neg_of_neg_of_pos h1 (by lia : 0 < b)
      rw [decide_eq_true h1, decide_eq_false h2, decide_eq_true this]; rfl
    · have := Int.mul_neg_of_pos_of_neg (by lia : 0 < a) h2
      rw [decide_eq_false h1, decide_eq_true h2, decide_eq_true this]; rfl
    · have := Int.mul_pos (by lia : 0 < a) (by lia : 0 < b)
      rw [decide_eq_false h1, decide_eq_false h2, decide_eq_false (by lia : ¬ a * b < 0)]; rfl
theorem fl_mul {a b : Int} {c d : Nat} (fa : Fit a c) (fb : Fit b d) (fs : Fit (a * b) (c + d)) (hz : a * b = 0 → 0 ≤ a ∧ 0 ≤ b) : mul (fl a c) (fl b d) = fl (a * b) (c + d) := by
  obtain ⟨m, e, d1, _, v1⟩ := fl_dec fa
  obtain ⟨k, f, d2, _, v2⟩ := fl_dec fb
  have z := mul_right d1 d2
  rw [neg_xor hz, v1, v2] at z
  refine fl_of fs z (Nat.two_pow_pos _) ?_
  have hc := fs.c
  rw [Int.natAbs_mul, Int.natAbs_mul, Int.natAbs_mul, Int.natAbs_natCast, Int.natAbs_natCast]
  have e1 : (2 : Nat) ^ (1074 - c) * 2 ^ (1074 - d) = 2 ^ 1074 * 2 ^ (1074 - (c + d)) := by rw [← Nat.pow_add, ← Nat.pow_add]; congr 1; lia
  calc a.natAbs * 2 ^ (1074 - c) * (b.natAbs * 2 ^ (1074 - d)) = a.natAbs * b.natAbs * (2 ^ (1074 - c) * 2 ^ (1074 - d)) := by ac_rfl
    _ = a.natAbs * b.natAbs * (2 ^ 1074 * 2 ^ (1074 - (c + d))) := by rw [e1]
    _ = _ := by ac_rfl
/-- an exact quotient -/
theorem fl_div {a b q : Int} {c d e : Nat} (fa : Fit a c) (fb : Fit b d) (fq : Fit q e) (hb : 0 < b) (h : a * ((2 ^ (d + e) : Nat) : Int) = q * b * ((2 ^ c : Nat) : Int)) : div (fl a c) (fl b d) = fl q e := by
  obtain ⟨m, g, d1, _, v1⟩ := fl_dec fa
  obtain ⟨k, f, d2, hk, v2⟩ := fl_dec fb
  have hk0 : k ≠ 0 := fun e0 => by
    rw [e0, Nat.zero_mul] at hk
    rcases Nat.mul_eq_zero.mp hk.symm with h1 | h1
    · omega
    · exact absurd h1 (Nat.ne_of_gt (Nat.two_pow_pos _))
  have z := div_right d1 d2 hk0
  have hs : (decide (a < 0) != decide (b < 0)) = decide (q < 0) := by
    rw [decide_eq_false (by omega : ¬ b < 0)]
    have e1 : decide (a < 0) = decide (q < 0) := by
      have p1 := sgn_mulpos (a := a) (n := d + e)
      have p2 := sgn_mulpos (a := q * b) (n := c)
      have p3 : decide (q * b < 0) = decide (q < 0) := by
        refine decide_eq_decide.mpr ⟨fun h => ?_, fun h => Int.mul_neg_of_neg_of_pos h hb⟩
        by_cases w : q < 0
        · exact w
        · have := Int.mul_nonneg (Int.not_lt.mp w) (Int.le_of_lt hb); omega
      rw [← p1, h, p2, p3]
    rw [e1]; cases decide (q < 0) <;> rfl
  rw [hs, v1, v2] at z
  have hD : 0 < (b * ((2 ^ (1074 - d) : Nat) : Int)).natAbs := by
    rw [Int.natAbs_mul, Int.natAbs_natCast]
    exact Nat.mul_pos (by omega) (Nat.two_pow_pos _)
  refine fl_of fq z hD ?_
  have hn : a.natAbs * 2 ^ (d + e) = q.natAbs * b.natAbs * 2 ^ c := by
    have := congrArg Int.natAbs h
    rw [Int.natAbs_mul, Int.natAbs_mul, Int.natAbs_mul, Int.natAbs_natCast, Int.natAbs_natCast] at this
    exact this
  rw [Int.natAbs_mul, Int.natAbs_mul, Int.natAbs_natCast, Int.natAbs_natCast]
  have hc := fa.c
  have hd' := fb.c
  have he := fq.c
  refine Nat.eq_of_mul_eq_mul_right (Nat.two_pow_pos (c + (d + e))) ?_
  have p1 : (2 : Nat) ^ (1074 - c) * 2 ^ c = 2 ^ 1074 := by rw [← Nat.pow_add]; congr 1; omega
  have p2 : (2 : Nat) ^ (1074 - d) * 2 ^ d = 2 ^ 1074 := by rw [← Nat.pow_add]; congr 1; omega
  have p3 : (2 : Nat) ^ (1074 - e) * 2 ^ e = 2 ^ 1074 := by rw [← Nat.pow_add]; congr 1; omega
  calc a.natAbs * 2 ^ (1074 - c) * 2 ^ 1074 * 2 ^ (c + (d + e)) = (a.natAbs * 2 ^ (d + e)) * (2 ^ (1074 - c) * 2 ^ c) * 2 ^ 1074 := by rw [Nat.pow_add 2 c]; ac_rfl
    _ = q.natAbs * b.natAbs * 2 ^ c * 2 ^ 1074 * 2 ^ 1074 := by rw [hn, p1]
    _ = q.natAbs * b.natAbs * 2 ^ c * (2 ^ (1074 - d) * 2 ^ d) * (2 ^ (1074 - e) * 2 ^ e) := by rw [p2, p3]
    _ = _ := by rw [Nat.pow_add 2 c, Nat.pow_add 2 d]; ac_rfl
theorem fl_scale {a : Int} {c j : Nat} (f : Fit a c) (g : Fit (a * ((2 ^ j : Nat) : Int)) (c + j)) : fl (a * ((2 ^ j : Nat) : Int)) (c + j) = fl a c := by
  have z := fl_right (a * ((2 ^ j : Nat) : Int)) g.c
  rw [sgn_mulpos] at z
  refine fl_of f z (by decide) ?_
  rw [Int.natAbs_mul, Int.natAbs_natCast, Nat.mul_assoc, ← Nat.pow_add]
  have := g.c
  congr 3; lia
theorem cmp_scale (p q : Int) (n : Nat) : compare (p * ((2 ^ n : Nat) : Int)) (q * ((2 ^ n : Nat) : Int)) = compare p q := by
  have hK := pw_pos n
  rcases Int.lt_trichotomy p q with h | h | h
  · rw [Int.compare_eq_lt.mpr h, Int.compare_eq_lt.mpr (Int.mul_lt_mul_of_pos_right h hK)]
  · subst h; simp
  · rw [Int.compare_eq_gt.mpr h, Int.compare_eq_gt.mpr (Int.mul_lt_mul_of_pos_right h hK)]
theorem fl_cmp {a b : Int} {c : Nat} (fa : Fit a c) (fb : Fit b c) : cmp (fl a c) (fl b c) = some (compare a b) := by
  obtain ⟨m, e, d1, _, v1⟩ := fl_dec fa
  obtain ⟨k, f, d2, _, v2⟩ := fl_dec fb
  rw [cmp_right d1 d2, v1, v2, cmp_scale]
theorem fl_nonzero {a : Int} {c : Nat} (fa : Fit a c) (h : a ≠ 0) : isZero (fl a c) = false := by
  obtain ⟨m, e, d1, hm, v1⟩ := fl_dec fa
  have hm0 : m ≠ 0 := fun e0 => by
    rw [e0, Nat.zero_mul] at hm
    rcases Nat.mul_eq_zero.mp hm.symm with h1 | h1
    · lia
    · exact absurd h1 (Nat.ne_of_gt (Nat.two_pow_pos _))
  unfold isZero
  rw [d1]
  cases m with
  | zero => exact absurd rfl hm0
  | succ m => rfl
end Mine
end
section
open PySem PySem.W PySem.Calls PyProof.Rows PySem.Float64
set_option maxRecDepth 100000
set_option linter.unusedVariables false
namespace Mine
/-! the whole part, the rest by one -/
theorem trunc_fl {k : Int} {c : Nat} (f : Fit k c) (h0 : 0 ≤ k) : ∃ m e, decode (fl k c) = .fin false m e ∧ truncOf false m e = k / ((2 ^ c : Nat) : Int) := by
  obtain ⟨m, e, d1, hm, _⟩ := fl_dec f
  rw [decide_eq_false (by lia : ¬ k < 0)] at d1
  refine ⟨m, e, d1, ?_⟩
  have he := decode_ge d1
  have hc := f.c
  obtain ⟨n, rfl⟩ := Int.eq_ofNat_of_zero_le h0
  rw [Int.natAbs_natCast] at hm
  have e1 : (2 : Nat) ^ 1074 = 2 ^ (1074 - c) * 2 ^ c := by rw [← Nat.pow_add]; congr 1; lia
  unfold truncOf floorOf
  rw [if_neg (by decide)]
  rw [← Int.natCast_ediv]
  by_cases h : e ≥ 0
  · rw [if_pos h]
    have e2 : (e + 1074).toNat = e.toNat + 1074 := by lia
    rw [e2, Nat.pow_add, e1] at hm
    have h3 : m * 2 ^ e.toNat * 2 ^ c = n := by
      refine Nat.eq_of_mul_eq_mul_right (Nat.two_pow_pos (1074 - c)) ?_
      rw [← hm]; ac_rfl
    rw [← h3, Nat.mul_div_cancel _ (Nat.two_pow_pos _)]
    show (m : Int) * 2 ^ e.toNat = _
    simp
  · rw [if_neg h]
    have e2 : (2 : Nat) ^ (e + 1074).toNat * 2 ^ (-e).toNat = 2 ^ 1074 := by rw [← Nat.pow_add]; congr 1; lia
    have h3 : m * 2 ^ c = n * 2 ^ (-e).toNat := by
      refine Nat.eq_of_mul_eq_mul_right (Nat.two_pow_pos (1074 - c)) ?_
      calc m * 2 ^ c * 2 ^ (1074 - c) = m * 2 ^ 1074 := by rw [e1]; ac_rfl
        _ = m * 2 ^ (e + 1074).toNat * 2 ^ (-e).toNat := by rw [← e2]; ac_rfl
        _ = _ := by rw [hm]; ac_rfl
    have h4 : n / 2 ^ c = m / 2 ^ (-e).toNat := by
      rw [← Nat.mul_div_mul_right n (2 ^ c) (Nat.two_pow_pos (-e).toNat), ← h3, Nat.mul_comm (2 ^ c), Nat.mul_div_mul_right _ _ (Nat.two_pow_pos c)]
    rw [h4]
    show Int.fdiv (m : Int) _ = _
    have e3 : (2 : Int) ^ (-e).toNat = ((2 ^ (-e).toNat : Nat) : Int) := by simp
    rw [e3, Int.fdiv_eq_ediv_of_nonneg _ (Int.natCast_nonneg _), Int.natCast_ediv]
theorem ofBin_right (sg : Bool) (n : Nat) {g : Int} (hg : -1074 ≤ g) : Right (ofBin sg n g) sg (n * 2 ^ (g + 1074).toNat) 1 := by
  unfold ofBin
  refine ofFrac_right (shift_pos _ _ _ (by decide)) ?_ (by decide)
  have := shift_one n g 1074 (by lia)
  rw [Nat.mul_one]
  exact this
theorem one_fl : (0x3ff0000000000000 : UInt64) = fl 1 0 := by decide +kernel
theorem tn_add {e m : Int} (h1 : m ≤ e) (h2 : -1074 ≤ m) : (e - m).toNat + (m + 1074).toNat = (e + 1074).toNat := by
  have h3 : 0 ≤ m + 1074 := by lia
  rw [← Int.toNat_add (Int.sub_nonneg.mpr h1) h3, show e - m + (m + 1074) = e + 1074 by lia]
theorem fmod_fl {k : Int} {c : Nat} (f : Fit k c) (h : k.natAbs < 2 ^ c) : fmod (fl k c) (fl 1 0) = fl k c := by
  obtain ⟨m, e, d1, hm, _⟩ := fl_dec f
  obtain ⟨q, g, d2, hq, _⟩ := fl_dec (k := 1) (c := 0) ⟨by decide, by decide⟩
  have he := decode_ge d1
  have hg := decode_ge d2
  have hc := f.c
  rw [decide_eq_false (by decide : ¬ (1 : Int) < 0)] at d2
  have hq0 : q ≠ 0 := fun e0 => by
    rw [e0, Nat.zero_mul] at hq
    rcases Nat.mul_eq_zero.mp hq.symm with h1 | h1
    · cases h1
    · exact absurd h1 (Nat.ne_of_gt (Nat.two_pow_pos _))
  have hlt : m * 2 ^ (e - min e g).toNat < q * 2 ^ (g - min e g).toNat := by
    refine Nat.lt_of_mul_lt_mul_right (a := 2 ^ (min e g + 1074).toNat) ?_
    rw [Nat.mul_assoc, Nat.mul_assoc, ← Nat.pow_add, ← Nat.pow_add, tn_add (e := e) (m := min e g) (Int.min_le_left e g) (Int.le_min.mpr ⟨he, hg⟩), tn_add (e := g) (m := min e g) (Int.min_le_right e g) (Int.le_min.mpr ⟨he, hg⟩), hm, hq]
    have e1 : (1 : Int).natAbs * 2 ^ (1074 - 0) = 2 ^ c * 2 ^ (1074 - c) := by
      rw [← Nat.pow_add, show c + (1074 - c) = 1074 by lia]
      show 1 * 2 ^ 1074 = _
      rw [Nat.one_mul]
    rw [e1]
    exact Nat.mul_lt_mul_of_pos_right h (Nat.two_pow_pos _)
  have hf : fmod (fl k c) (fl 1 0) = ofBin (decide (k < 0)) (m * 2 ^ (e - min e g).toNat) (min e g) := by
    unfold fmod
    rw [d1, d2]
    simp only
    rw [if_neg (by simpa using hq0)]
    unfold align
    show ofBin _ ((sgn false _).toNat % (sgn false _).toNat) _ = _
    have e1 : ∀ n, (sgn false n).toNat = n := fun n => by unfold sgn; simp
    rw [e1, e1, Nat.mod_eq_of_lt hlt]
  rw [hf]
  refine fl_of f (ofBin_right _ _ (by lia)) (by decide) ?_
  rw [Nat.one_mul, Nat.mul_assoc, ← Nat.pow_add, tn_add (e := e) (m := min e g) (Int.min_le_left e g) (Int.le_min.mpr ⟨he, hg⟩), hm]
theorem fl_isZero {k : Int} {c : Nat} (f : Fit k c) : isZero (fl k c) = decide (k = 0) := by
  by_cases h : k = 0
  · subst h; rw [fl_zero]; decide +kernel
  · rw [fl_nonzero f h, decide_eq_false h]
theorem fl_up (i : Int) {c j : Nat} (f : Fit i c) (g : Fit (i * ((2 ^ j : Nat) : Int)) (c + j)) : fl i c = fl (i * ((2 ^ j : Nat) : Int)) (c + j) := (fl_scale f g).symm
theorem cmp_lt {a b : Int} : (some (compare a b) == some Ordering.lt) = decide (a < b) := by
  rcases Int.lt_trichotomy a b with h | h | h
  · rw [Int.compare_eq_lt.mpr h, decide_eq_true h]; rfl
  · rw [Int.compare_eq_eq.mpr h, decide_eq_false (by lia)]; rfl
  · rw [Int.compare_eq_gt.mpr h, decide_eq_false (by lia)]; rfl
theorem cmp_gt {a b : Int} : (some (compare a b) == some Ordering.gt) = decide (b < a) := by
  rcases Int.lt_trichotomy a b with h | h | h
  · rw [Int.compare_eq_lt.mpr h, decide_eq_false (by lia)]; rfl
  · rw [Int.compare_eq_eq.mpr h, decide_eq_false (by lia)]; rfl
  · rw [Int.compare_eq_gt.mpr h, decide_eq_true h]; rfl
theorem cmp_eq {a b : Int} : (some (compare a b) == some Ordering.eq) = decide (a = b) := by
  rcases Int.lt_trichotomy a b with h | h | h
  · rw [Int.compare_eq_lt.mpr h, decide_eq_false (by lia)]; rfl
  · rw [Int.compare_eq_eq.mpr h, decide_eq_true h]; rfl
  · rw [Int.compare_eq_gt.mpr h, decide_eq_false (by lia)]; rfl
/-- the rest by one: of a number ahead of one -/
theorem rest_pos {k : Int} {c : Nat} (f : Fit k c) (h0 : 0 ≤ k) (h : k < ((2 ^ c : Nat) : Int)) : (divmod (fl k c) 0x3ff0000000000000).2 = fl k c := by
  have hm := fmod_fl f (by lia)
  rw [one_fl]
  unfold divmod
  rw [hm]
  simp only
  have hz := fl_isZero f
  have l1 : lt (fl 1 0) (zero false) = false := by decide +kernel
  have l2 : lt (fl k c) (zero false) = false := by
    unfold lt
    rw [← fl_zero c, fl_cmp f ⟨by decide, f.c⟩, cmp_lt, decide_eq_false (by lia)]
  by_cases hk : k = 0
  · subst hk
    rw [hz, if_pos (by decide), fl_zero]
    decide +kernel
  · rw [hz, if_neg (by simpa using hk), l1, l2]
    rfl
theorem rest_neg {k : Int} {c : Nat} (f : Fit k c) (h0 : k < 0) (h : -((2 ^ c : Nat) : Int) < k) (g : Fit ((2 ^ c : Nat) : Int) c) : (divmod (fl k c) 0x3ff0000000000000).2 = fl (k + ((2 ^ c : Nat) : Int)) c := by
  have hm := fmod_fl f (by lia)
  rw [one_fl]
  unfold divmod
  rw [hm]
  simp only
  have hz := fl_isZero f
  have l1 : lt (fl 1 0) (zero false) = false := by decide +kernel
  have l2 : lt (fl k c) (zero false) = true := by
    unfold lt
    rw [← fl_zero c, fl_cmp f ⟨by decide, f.c⟩, cmp_lt, decide_eq_true h0]
  rw [hz, if_neg (by simp; lia), l1, l2]
  show add (fl k c) (fl 1 0) = _
  have e : fl 1 0 = fl ((2 ^ c : Nat) : Int) c := by
    have := fl_up 1 (c := 0) (j := c) ⟨by decide, by decide⟩ (by rw [Int.one_mul, Nat.zero_add]; exact g)
    rw [Int.one_mul, Nat.zero_add] at this
    exact this
  rw [e]
  have hk := g.k
  exact fl_add f g ⟨by lia, f.c⟩
/-! greatest, least -/
theorem fmax_fl {x y z m : Int} {e : Nat} (fx : Fit x e) (fy : Fit y e) (fz : Fit z e) (h1 : x ≤ m) (h2 : y ≤ m) (h3 : z ≤ m) (h : m = x ∨ m = y ∨ m = z) : fmax (fl x e) (fl y e) (fl z e) = fl m e := by
  unfold fmax
  rw [fl_cmp fy fx, fl_cmp fz fy, fl_cmp fz fx, cmp_gt, cmp_gt, cmp_gt]
  by_cases a : x < y
  · rw [if_pos (decide_eq_true a)]
    by_cases b : y < z
    · rw [if_pos (decide_eq_true b)]; congr 1; lia
    · rw [if_neg (by simpa using b)]; congr 1; lia
  · rw [if_neg (by simpa using a)]
    by_cases b : x < z
    · rw [if_pos (decide_eq_true b)]; congr 1; lia
    · rw [if_neg (by simpa using b)]; congr 1; lia
theorem fmin_fl {x y z m : Int} {e : Nat} (fx : Fit x e) (fy : Fit y e) (fz : Fit z e) (h1 : m ≤ x) (h2 : m ≤ y) (h3 : m ≤ z) (h : m = x ∨ m = y ∨ m = z) : fmin (fl x e) (fl y e) (fl z e) = fl m e := by
  unfold fmin
  rw [fl_cmp fy fx, fl_cmp fz fy, fl_cmp fz fx, cmp_lt, cmp_lt, cmp_lt]
  by_cases a : y < x
  · rw [if_pos (decide_eq_true a)]
    by_cases b : z < y
    · rw [if_pos (decide_eq_true b)]; congr 1; lia
    · rw [if_neg (by simpa using b)]; congr 1; lia
  · rw [if_neg (by simpa using a)]
    by_cases b : z < x
    · rw [if_pos (decide_eq_true b)]; congr 1; lia
    · rw [if_neg (by simpa using b)]; congr 1; lia
end Mine
end
section
open PySem PySem.W PySem.Calls PyProof.Rows PySem.Float64
set_option maxRecDepth 100000
set_option linter.unusedVariables false
namespace Mine
/-! colorsys in plain: floats -/
abbrev rgbR (r g b : UInt64) : UInt64 := Float64.sub (fmax r g b) (fmin r g b)
abbrev rgbC (r g b x : UInt64) : UInt64 := Float64.div (Float64.sub (fmax r g b) x) (rgbR r g b)
def rgbH (r g b : UInt64) : UInt64 :=
  if (Float64.cmp r (fmax r g b) == some Ordering.eq) = true then Float64.sub (rgbC r g b b) (rgbC r g b g)
  else if (Float64.cmp g (fmax r g b) == some Ordering.eq) = true then Float64.sub (Float64.add 0x4000000000000000 (rgbC r g b r)) (rgbC r g b b)
  else Float64.sub (Float64.add 0x4010000000000000 (rgbC r g b g)) (rgbC r g b r)
abbrev t3 (a b c : UInt64) : PV := .tup [.flt a, .flt b, .flt c]
def rgbHue (r g b : UInt64) : UInt64 := (Float64.divmod (Float64.div (rgbH r g b) 0x4018000000000000) 0x3ff0000000000000).2
def rgbSat (r g b : UInt64) : UInt64 := Float64.div (rgbR r g b) (fmax r g b)
/-- a colour that isn't grey -/
structure Hued (r g b : UInt64) : Prop where
  ne : (Float64.cmp (fmin r g b) (fmax r g b) == some Ordering.eq) = false
  z1 : Float64.isZero (fmax r g b) = false
  z2 : Float64.isZero (rgbR r g b) = false
abbrev hsvP (s v : UInt64) : UInt64 := Float64.mul v (Float64.sub 0x3ff0000000000000 s)
abbrev hsvQ (f s v : UInt64) : UInt64 := Float64.mul v (Float64.sub 0x3ff0000000000000 (Float64.mul s f))
abbrev hsvT (f s v : UInt64) : UInt64 := Float64.mul v (Float64.sub 0x3ff0000000000000 (Float64.mul s (Float64.sub 0x3ff0000000000000 f)))
def hsvPick (i : Int) (f s v : UInt64) : List UInt64 :=
  if i = 0 then [v, hsvT f s v, hsvP s v] else if i = 1 then [hsvQ f s v, v, hsvP s v] else if i = 2 then [hsvP s v, v, hsvT f s v]
  else if i = 3 then [hsvP s v, hsvQ f s v, v] else if i = 4 then [hsvT f s v, hsvP s v, v] else [v, hsvP s v, hsvQ f s v]
theorem two_fl : (0x4000000000000000 : UInt64) = fl 2 0 := by decide +kernel
theorem four_fl : (0x4010000000000000 : UInt64) = fl 4 0 := by decide +kernel
theorem six_fl : (0x4018000000000000 : UInt64) = fl 6 0 := by decide +kernel
theorem fitS {k : Int} {c : Nat} (h : k.natAbs < 2 ^ 50) (hc : c ≤ 100) : Fit k c := ⟨by lia, by lia⟩
theorem fl_up0 (i : Int) {c : Nat} (h1 : i.natAbs < 2 ^ 50) (h : (i * ((2 ^ c : Nat) : Int)).natAbs < 2 ^ 50) (hc : c ≤ 100) : fl i 0 = fl (i * ((2 ^ c : Nat) : Int)) c := by
  have := fl_up i (c := 0) (j := c) (fitS h1 (by decide)) (by rw [Nat.zero_add]; exact fitS h hc)
  rw [Nat.zero_add] at this
  exact this
section
variable {c e : Nat} {M : Int} {x y z mx mn R : Int}
/-- what rgb_to_hsv reckons on exact components: the greatest and the least, and each one's share of the range -/
structure Rgb (c e : Nat) (M x y z mx mn R qx qy qz : Int) : Prop where
  k_c : c ≤ 40
  k_e : e ≤ 50
  k_M : M = ((2 ^ c : Nat) : Int)
  k_M40 : M ≤ 2 ^ 40
  k_x : x ≤ mx ∧ mn ≤ x
  k_y : y ≤ mx ∧ mn ≤ y
  k_z : z ≤ mx ∧ mn ≤ z
  k_hmx : mx = x ∨ mx = y ∨ mx = z
  k_hmn : mn = x ∨ mn = y ∨ mn = z
  k_mn0 : 0 ≤ mn
  k_big : mx < 2 ^ 48
  k_R : R = mx - mn
  k_R0 : 0 < R
  k_qx : (mx - x) * M = qx * R
  k_qy : (mx - y) * M = qy * R
  k_qz : (mx - z) * M = qz * R
  k_bx : 0 ≤ qx ∧ qx ≤ M
  k_b_y : 0 ≤ qy ∧ qy ≤ M
  k_bz : 0 ≤ qz ∧ qz ≤ M
variable {qx qy qz : Int}
theorem Rgb.max (h : Rgb c e M x y z mx mn R qx qy qz) : fmax (fl x e) (fl y e) (fl z e) = fl mx e := by
  obtain ⟨h1, h2, h3, h4, h5, h6, h7, h8, h9, h10, h11, h12, h13, _⟩ := h
  exact fmax_fl (fitS (by lia) (by lia)) (fitS (by lia) (by lia)) (fitS (by lia) (by lia)) h5.1 h6.1 h7.1 h8
theorem Rgb.min (h : Rgb c e M x y z mx mn R qx qy qz) : fmin (fl x e) (fl y e) (fl z e) = fl mn e := by
  obtain ⟨h1, h2, h3, h4, h5, h6, h7, h8, h9, h10, h11, h12, h13, _⟩ := h
  exact fmin_fl (fitS (by lia) (by lia)) (fitS (by lia) (by lia)) (fitS (by lia) (by lia)) h5.2 h6.2 h7.2 h9
theorem Rgb.rng (h : Rgb c e M x y z mx mn R qx qy qz) : rgbR (fl x e) (fl y e) (fl z e) = fl R e := by
  unfold rgbR
  rw [h.max, h.min]
  obtain ⟨h1, h2, h3, h4, h5, h6, h7, h8, h9, h10, h11, h12, h13, _⟩ := h
  rw [h12]
  exact fl_sub (fitS (by lia) (by lia)) (fitS (by lia) (by lia)) (fitS (by lia) (by lia)) (by lia)
theorem Rgb.share (h : Rgb c e M x y z mx mn R qx qy qz) {w qw : Int} (hw : w ≤ mx ∧ mn ≤ w) (hq : (mx - w) * M = qw * R) (hb : 0 ≤ qw ∧ qw ≤ M) : rgbC (fl x e) (fl y e) (fl z e) (fl w e) = fl qw c := by
  unfold rgbC
  rw [h.rng, h.max]
  obtain ⟨h1, h2, h3, h4, h5, h6, h7, h8, h9, h10, h11, h12, h13, _⟩ := h
  rw [fl_sub (a := mx) (b := w) (fitS (by lia) (by lia)) (fitS (by lia) (by lia)) (fitS (by lia) (by lia)) (by lia)]
  refine fl_div (fitS (by lia) (by lia)) (fitS (by lia) (by lia)) (fitS (by lia) (by lia)) h13 ?_
  rw [← hq, h3, Nat.pow_add, Int.natCast_mul]
  ac_rfl
theorem Rgb.hued (h : Rgb c e M x y z mx mn R qx qy qz) : Hued (fl x e) (fl y e) (fl z e) := by
  refine ⟨?_, ?_, ?_⟩
  · rw [h.max, h.min]
    obtain ⟨h1, h2, h3, h4, h5, h6, h7, h8, h9, h10, h11, h12, h13, _⟩ := h
    rw [fl_cmp (fitS (by lia) (by lia)) (fitS (by lia) (by lia)), cmp_eq]
    exact decide_eq_false (by lia)
  · rw [h.max]
    obtain ⟨h1, h2, h3, h4, h5, h6, h7, h8, h9, h10, h11, h12, h13, _⟩ := h
    exact fl_nonzero (fitS (by lia) (by lia)) (by lia)
  · rw [h.rng]
    obtain ⟨h1, h2, h3, h4, h5, h6, h7, h8, h9, h10, h11, h12, h13, _⟩ := h
    exact fl_nonzero (fitS (by lia) (by lia)) (by lia)
theorem Rgb.h6 (h : Rgb c e M x y z mx mn R qx qy qz) : rgbH (fl x e) (fl y e) (fl z e) = fl (if x = mx then qz - qy else if y = mx then 2 * M + qx - qz else 4 * M + qy - qx) c := by
  unfold rgbH
  rw [h.share h.k_x h.k_qx h.k_bx, h.share h.k_y h.k_qy h.k_b_y, h.share h.k_z h.k_qz h.k_bz, h.max]
  obtain ⟨h1, h2, h3, h4, h5, h6, h7, h8, h9, h10, h11, h12, h13, h14, h15, h16, h17, h18, h19⟩ := h
  rw [fl_cmp (fitS (by lia) (by lia)) (fitS (by lia) (by lia)), fl_cmp (fitS (by lia) (by lia)) (fitS (by lia) (by lia)), cmp_eq, cmp_eq]
  have hM : 0 ≤ M := by lia
  have u2 : (0x4000000000000000 : UInt64) = fl (2 * M) c := by rw [two_fl, h3]; exact fl_up0 2 (by decide) (by rw [← h3]; lia) (by lia)
  have u4 : (0x4010000000000000 : UInt64) = fl (4 * M) c := by rw [four_fl, h3]; exact fl_up0 4 (by decide) (by rw [← h3]; lia) (by lia)
  by_cases a : x = mx
  · rw [if_pos (decide_eq_true a), if_pos a]
    exact fl_sub (fitS (by lia) (by lia)) (fitS (by lia) (by lia)) (fitS (by lia) (by lia)) (by lia)
  · rw [if_neg (by simpa using a), if_neg a]
    by_cases b : y = mx
    · rw [if_pos (decide_eq_true b), if_pos b, u2, fl_add (fitS (by lia) (by lia)) (fitS (by lia) (by lia)) (fitS (by lia) (by lia))]
      exact fl_sub (fitS (by lia) (by lia)) (fitS (by lia) (by lia)) (fitS (by lia) (by lia)) (by lia)
    · rw [if_neg (by simpa using b), if_neg b, u4, fl_add (fitS (by lia) (by lia)) (fitS (by lia) (by lia)) (fitS (by lia) (by lia))]
      exact fl_sub (fitS (by lia) (by lia)) (fitS (by lia) (by lia)) (fitS (by lia) (by lia)) (by lia)
theorem Rgb.hue (h : Rgb c e M x y z mx mn R qx qy qz) {k : Int} (hk : (if x = mx then qz - qy else if y = mx then 2 * M + qx - qz else 4 * M + qy - qx) = 6 * k) (h1 : -M < k) (h2 : k < M) :
    rgbHue (fl x e) (fl y e) (fl z e) = fl (if k < 0 then k + M else k) c := by
  unfold rgbHue
  rw [h.h6, hk, six_fl]
  have hM40 := h.k_M40
  have hc := h.k_c
  have hM := h.k_M
  rw [fl_div (a := 6 * k) (b := 6) (q := k) (c := c) (d := 0) (e := c) (fitS (by lia) (by lia)) (fitS (by decide) (by decide)) (fitS (by lia) (by lia)) (by decide) (by rw [Nat.zero_add, Int.mul_comm 6 k])]
  by_cases q : k < 0
  · rw [if_pos q, hM]
    exact rest_neg (fitS (by lia) (by lia)) q (by rw [← hM]; exact h1) (fitS (by rw [← hM]; lia) (by lia))
  · rw [if_neg q]
    exact rest_pos (fitS (by lia) (by lia)) (by lia) (by rw [← hM]; exact h2)
theorem Rgb.sat (h : Rgb c e M x y z mx mn R qx qy qz) {a : Int} (ha : R * 4 = a * mx) (hb : 0 ≤ a ∧ a ≤ 4) : rgbSat (fl x e) (fl y e) (fl z e) = fl a 2 := by
  unfold rgbSat
  rw [h.rng, h.max]
  obtain ⟨h1, h2, h3, h4, h5, h6, h7, h8, h9, h10, h11, h12, h13, _⟩ := h
  refine fl_div (fitS (by lia) (by lia)) (fitS (by lia) (by lia)) (fitS (by lia) (by lia)) (by lia) ?_
  rw [← ha, Nat.pow_add, Int.natCast_mul]
  show R * (_ * 4) = _
  ac_rfl
end
end Mine
end
section
open PySem PySem.W PySem.Calls PyProof.Rows PySem.Float64
set_option maxRecDepth 100000
set_option linter.unusedVariables false
namespace Mine
/-! a colour of the wheel: hue n / 2 ^ c, share a / 4, value b / 4 -/
structure ColOk (c : Nat) (n a b : Int) : Prop where
  hc : c ≤ 24
  n0 : 0 ≤ n
  n1 : n < ((2 ^ c : Nat) : Int)
  a : 1 ≤ a ∧ a ≤ 4
  b : 1 ≤ b ∧ b ≤ 4
def cM (c : Nat) : Int := ((2 ^ c : Nat) : Int)
def cI (c : Nat) (n : Int) : Int := n * 6 / cM c
def cF (c : Nat) (n : Int) : Int := n * 6 - cI c n * cM c
def cV (c : Nat) (b : Int) : Int := b * (4 * cM c)
def cP (c : Nat) (a b : Int) : Int := b * ((4 - a) * cM c)
def cQ (c : Nat) (n a b : Int) : Int := b * (4 * cM c - a * cF c n)
def cT (c : Nat) (n a b : Int) : Int := b * (4 * cM c - a * (cM c - cF c n))
def pickI {α : Type} (i : Int) (v p q t : α) : List α :=
  if i = 0 then [v, t, p] else if i = 1 then [q, v, p] else if i = 2 then [p, v, t] else if i = 3 then [p, q, v] else if i = 4 then [t, p, v] else [v, p, q]
def colI (c : Nat) (n a b : Int) : List Int := pickI (cI c n) (cV c b) (cP c a b) (cQ c n a b) (cT c n a b)
abbrev cE (c : Nat) : Nat := 2 + (2 + c)
theorem mulb {a X Y : Int} (ha : 1 ≤ a ∧ a ≤ 4) (h0 : 0 ≤ X) (h : X ≤ Y) : 0 ≤ a * X ∧ a * X ≤ 4 * Y ∧ X ≤ a * X := by
  have : a = 1 ∨ a = 2 ∨ a = 3 ∨ a = 4 := by lia
  rcases this with rfl | rfl | rfl | rfl <;> lia
theorem cM_le {c : Nat} (hc : c ≤ 24) : 1 ≤ cM c ∧ cM c ≤ 2 ^ 24 := by
  have h1 : (2 : Nat) ^ c ≤ 2 ^ 24 := Nat.pow_le_pow_right (by decide) hc
  have h2 := Nat.two_pow_pos c
  unfold cM; lia
theorem ColOk.F {c : Nat} {n a b : Int} (h : ColOk c n a b) : 0 ≤ cF c n ∧ cF c n < cM c ∧ 0 ≤ cI c n ∧ cI c n < 6 ∧ n * 6 = cI c n * cM c + cF c n := by
  have hM := cM_le h.hc
  have h1 : n * 6 = cI c n * cM c + cF c n := by unfold cF; lia
  have h2 : n * 6 % cM c + cM c * (n * 6 / cM c) = n * 6 := Int.emod_add_mul_ediv _ _
  have h3 : 0 ≤ n * 6 % cM c := Int.emod_nonneg _ (by lia)
  have h4 : n * 6 % cM c < cM c := Int.emod_lt_of_pos _ (by lia)
  have e : cF c n = n * 6 % cM c := by unfold cF cI; rw [Int.mul_comm (n * 6 / cM c)]; lia
  have hn0 := h.n0
  have hn1 : n < cM c := h.n1
  refine ⟨by lia, by lia, Int.ediv_nonneg (by lia) (by lia), ?_, h1⟩
  exact Int.ediv_lt_of_lt_mul (by lia) (by lia)
section
variable {c : Nat} {n a b : Int}
theorem up_one {j : Nat} (hj : j ≤ 40) : (0x3ff0000000000000 : UInt64) = fl (cM j) j := by
  have h2 := Nat.two_pow_pos j
  have h1 : (2 : Nat) ^ j ≤ 2 ^ 40 := Nat.pow_le_pow_right (by decide) hj
  rw [one_fl, fl_up0 1 (c := j) (by decide) (by rw [Int.one_mul]; lia) (by lia), Int.one_mul]; rfl
theorem cM_add (c : Nat) : cM (2 + c) = 4 * cM c := by unfold cM; rw [Nat.pow_add]; simp
theorem ColOk.P (h : ColOk c n a b) : hsvP (fl a 2) (fl b 2) = fl (cP c a b) (cE c) := by
  have hM := cM_le h.hc
  have ha := h.a
  have hb := h.b
  have hc := h.hc
  have m1 := mulb hb (X := 4 - a) (Y := 4) (by lia) (by lia)
  unfold hsvP
  rw [up_one (j := 2) (by decide), show cM 2 = 4 from rfl, fl_sub (fitS (by lia) (by decide)) (fitS (by lia) (by decide)) (fitS (by lia) (by decide)) (by lia)]
  rw [fl_mul (fitS (by lia) (by decide)) (fitS (by lia) (by decide)) (fitS (by lia) (by decide)) (by lia)]
  have e1 : b * (4 - a) * cM c = cP c a b := by unfold cP; rw [Int.mul_assoc]
  have m2 := mulb hb (X := (4 - a) * cM c) (Y := 4 * cM c) (Int.mul_nonneg (by lia) (by lia)) (Int.mul_le_mul_of_nonneg_right (by lia) (by lia))
  have e2 : cP c a b = b * ((4 - a) * cM c) := rfl
  have := fl_up (b * (4 - a)) (c := 2 + 2) (j := c) (fitS (by lia) (by decide)) (fitS (by rw [show ((2 ^ c : Nat) : Int) = cM c from rfl, e1, e2]; lia) (by lia))
  rw [show ((2 ^ c : Nat) : Int) = cM c from rfl, e1] at this
  rw [this]
  congr 1
  unfold cE; lia
theorem ColOk.V (h : ColOk c n a b) : fl b 2 = fl (cV c b) (cE c) := by
  have hM := cM_le h.hc
  have hb := h.b
  have hc := h.hc
  have m1 := mulb hb (X := 4 * cM c) (Y := 4 * cM c) (by lia) (by lia)
  have e : ((2 ^ (2 + c) : Nat) : Int) = 4 * cM c := cM_add c
  have := fl_up b (c := 2) (j := 2 + c) (fitS (by lia) (by decide)) (fitS (by rw [e]; lia) (by lia))
  rw [this, e]; rfl
theorem fitM {k M : Int} {c : Nat} (hM : M ≤ 2 ^ 24) (h0 : 0 ≤ k) (h1 : k ≤ 4 * (4 * M)) (hc : c ≤ 100) : Fit k c := fitS (by lia) hc
theorem fit4 {a : Int} {c : Nat} (ha : 1 ≤ a ∧ a ≤ 4) (hc : c ≤ 100) : Fit a c := fitS (by lia) hc
theorem m16a {M : Int} (h : 0 ≤ M) : M ≤ 4 * (4 * M) := by lia
theorem m16b {M : Int} (h : 0 ≤ M) : 4 * M ≤ 4 * (4 * M) := by lia
theorem ColOk.Q (h : ColOk c n a b) : hsvQ (fl (cF c n) c) (fl a 2) (fl b 2) = fl (cQ c n a b) (cE c) := by
  have hM := cM_le h.hc
  have M0 : 0 ≤ cM c := Int.le_trans (by decide) hM.1
  have M4 : 0 ≤ 4 * cM c := Int.mul_nonneg (by decide) M0
  have c1 : c ≤ 100 := Nat.le_trans h.hc (by decide)
  have c2 : 2 + c ≤ 100 := Nat.le_trans (Nat.add_le_add_left h.hc 2) (by decide)
  have c4 : 2 + (2 + c) ≤ 100 := Nat.le_trans (Nat.add_le_add_left (Nat.add_le_add_left h.hc 2) 2) (by decide)
  have d2 : 2 + c ≤ 40 := Nat.le_trans (Nat.add_le_add_left h.hc 2) (by decide)
  obtain ⟨f0, f1, _⟩ := h.F
  have A0 : 0 ≤ a := Int.le_trans (by decide) h.a.1
  have B0 : 0 ≤ b := Int.le_trans (by decide) h.b.1
  have m1 := mulb h.a (X := cF c n) (Y := cM c) f0 (Int.le_of_lt f1)
  have X0 : 0 ≤ 4 * cM c - a * cF c n := Int.sub_nonneg.mpr m1.2.1
  have X1 : 4 * cM c - a * cF c n ≤ 4 * cM c := Int.sub_le_self _ m1.1
  have m2 := mulb h.b (X := 4 * cM c - a * cF c n) (Y := 4 * cM c) X0 X1
  unfold hsvQ
  rw [fl_mul (fit4 h.a (c := 2) (by decide)) (fitM hM.2 f0 (Int.le_trans (Int.le_of_lt f1) (m16a M0)) c1) (fitM hM.2 m1.1 (Int.le_trans m1.2.1 (m16b M0)) c2) (fun _ => ⟨A0, f0⟩)]
  rw [up_one (j := 2 + c) d2, cM_add, fl_sub (fitM hM.2 M4 (m16b M0) c2) (fitM hM.2 m1.1 (Int.le_trans m1.2.1 (m16b M0)) c2) (fitM hM.2 X0 (Int.le_trans X1 (m16b M0)) c2) (fun _ => M4)]
  rw [fl_mul (fit4 h.b (c := 2) (by decide)) (fitM hM.2 X0 (Int.le_trans X1 (m16b M0)) c2) (fitM hM.2 m2.1 m2.2.1 c4) (fun _ => ⟨B0, X0⟩)]
  rfl
theorem ColOk.T (h : ColOk c n a b) : hsvT (fl (cF c n) c) (fl a 2) (fl b 2) = fl (cT c n a b) (cE c) := by
  have hM := cM_le h.hc
  have M0 : 0 ≤ cM c := Int.le_trans (by decide) hM.1
  have M4 : 0 ≤ 4 * cM c := Int.mul_nonneg (by decide) M0
  have c1 : c ≤ 100 := Nat.le_trans h.hc (by decide)
  have c2 : 2 + c ≤ 100 := Nat.le_trans (Nat.add_le_add_left h.hc 2) (by decide)
  have c4 : 2 + (2 + c) ≤ 100 := Nat.le_trans (Nat.add_le_add_left (Nat.add_le_add_left h.hc 2) 2) (by decide)
  have d2 : 2 + c ≤ 40 := Nat.le_trans (Nat.add_le_add_left h.hc 2) (by decide)
  obtain ⟨f0, f1, _⟩ := h.F
  have A0 : 0 ≤ a := Int.le_trans (by decide) h.a.1
  have B0 : 0 ≤ b := Int.le_trans (by decide) h.b.1
  have G0 : 0 ≤ cM c - cF c n := Int.sub_nonneg.mpr (Int.le_of_lt f1)
  have G1 : cM c - cF c n ≤ cM c := Int.sub_le_self _ f0
  have m1 := mulb h.a (X := (cM c - cF c n)) (Y := cM c) G0 G1
  have X0 : 0 ≤ 4 * cM c - a * (cM c - cF c n) := Int.sub_nonneg.mpr m1.2.1
  have X1 : 4 * cM c - a * (cM c - cF c n) ≤ 4 * cM c := Int.sub_le_self _ m1.1
  have m2 := mulb h.b (X := 4 * cM c - a * (cM c - cF c n)) (Y := 4 * cM c) X0 X1
  unfold hsvT
  have e1 : Float64.sub 0x3ff0000000000000 (fl (cF c n) c) = fl (cM c - cF c n) c := by
    rw [up_one (j := c) (Nat.le_trans h.hc (by decide))]
    exact fl_sub (fitM hM.2 M0 (m16a M0) c1) (fitM hM.2 f0 (Int.le_trans (Int.le_of_lt f1) (m16a M0)) c1) (fitM hM.2 G0 (Int.le_trans G1 (m16a M0)) c1) (fun _ => M0)
  rw [e1, fl_mul (fit4 h.a (c := 2) (by decide)) (fitM hM.2 G0 (Int.le_trans G1 (m16a M0)) c1) (fitM hM.2 m1.1 (Int.le_trans m1.2.1 (m16b M0)) c2) (fun _ => ⟨A0, G0⟩)]
  rw [up_one (j := 2 + c) d2, cM_add, fl_sub (fitM hM.2 M4 (m16b M0) c2) (fitM hM.2 m1.1 (Int.le_trans m1.2.1 (m16b M0)) c2) (fitM hM.2 X0 (Int.le_trans X1 (m16b M0)) c2) (fun _ => M4)]
  rw [fl_mul (fit4 h.b (c := 2) (by decide)) (fitM hM.2 X0 (Int.le_trans X1 (m16b M0)) c2) (fitM hM.2 m2.1 m2.2.1 c4) (fun _ => ⟨B0, X0⟩)]
  rfl
/-- what hsv_to_rgb meets on the way -/
theorem ColOk.six (h : ColOk c n a b) : Float64.mul (fl n c) 0x4018000000000000 = fl (n * 6) c := by
  have hM := cM_le h.hc
  have hn0 := h.n0
  have hn1 : n < cM c := h.n1
  have hc := h.hc
  rw [six_fl, fl_mul (fitS (by lia) (by lia)) (fitS (by decide) (by decide)) (fitS (by lia) (by lia)) (by lia)]
  rfl
theorem ColOk.int (h : ColOk c n a b) : ∃ m e, Float64.decode (Float64.mul (fl n c) 0x4018000000000000) = .fin false m e ∧ Float64.truncOf false m e = cI c n := by
  have hM := cM_le h.hc
  have hn0 := h.n0
  have hn1 : n < cM c := h.n1
  have hc := h.hc
  rw [h.six]
  exact trunc_fl (fitS (by lia) (by lia)) (by lia)
theorem ColOk.frac (h : ColOk c n a b) : Float64.sub (Float64.mul (fl n c) 0x4018000000000000) (Float64.ofInt (cI c n)) = fl (cF c n) c := by
  have hM := cM_le h.hc
  have hn0 := h.n0
  have hn1 : n < cM c := h.n1
  have hc := h.hc
  have hF := h.F
  have e : Float64.ofInt (cI c n) = fl (cI c n * cM c) c := by
    have e0 : Float64.ofInt (cI c n) = fl (cI c n) 0 := by unfold Float64.ofInt fl; rw [Nat.pow_zero]
    rw [e0]
    exact fl_up0 _ (by omega) (by show (cI c n * cM c).natAbs < _; omega) (by omega)
  rw [h.six, e, fl_sub (fitS (by omega) (by omega)) (fitS (by omega) (by omega)) (fitS (by omega) (by omega)) (by omega)]
  rfl
theorem ColOk.pick (h : ColOk c n a b) : hsvPick ((cI c n).fmod 6) (Float64.sub (Float64.mul (fl n c) 0x4018000000000000) (Float64.ofInt (cI c n))) (fl a 2) (fl b 2) = (colI c n a b).map (fun k => fl k (cE c)) := by
  have hF := h.F
  rw [h.frac]
  have e : (cI c n).fmod 6 = cI c n := by rw [Int.fmod_eq_emod_of_nonneg _ (by decide)]; exact Int.emod_eq_of_lt (by omega) (by omega)
  rw [e]
  unfold hsvPick colI pickI
  rw [h.P, h.Q, h.T]
  rw [h.V]
  split
  · rfl
  split
  · rfl
  split
  · rfl
  split
  · rfl
  split <;> rfl
theorem ColOk.parts (h : ColOk c n a b) : cV c b - cP c a b = b * (a * cM c) ∧ cV c b - cQ c n a b = b * (a * cF c n) ∧ cV c b - cT c n a b = b * (a * (cM c - cF c n)) := by
  unfold cV cP cQ cT
  refine ⟨?_, ?_, ?_⟩
  · rw [← Int.mul_sub, Int.sub_mul]; congr 1; lia
  · rw [← Int.mul_sub]; congr 1; lia
  · rw [← Int.mul_sub]; congr 1; lia
theorem k_lt {k n M : Int} (h : k = n ∨ k = n - M) (h1 : n < M) (h2 : 0 ≤ M) : k < M := by lia
theorem k_if {k n M : Int} (h : k = n ∨ k = n - M) (h0 : 0 ≤ n) (h1 : n < M) : (if k < 0 then k + M else k) = n := by
  split <;> lia
theorem k_0 {n M F : Int} (h : n * 6 = 0 * M + F) : M - (M - F) = 6 * n := by lia
theorem k_1 {n M F : Int} (h : n * 6 = 1 * M + F) (q : F = 0) : M - 0 = 6 * n := by lia
theorem k_1' {n M F : Int} (h : n * 6 = 1 * M + F) : 2 * M + F - M = 6 * n := by lia
theorem k_2 {n M F : Int} (h : n * 6 = 2 * M + F) : 2 * M + M - (M - F) = 6 * n := by lia
theorem k_3 {n M F : Int} (h : n * 6 = 3 * M + F) (q : F = 0) : 2 * M + M - 0 = 6 * n := by lia
theorem k_3' {n M F : Int} (h : n * 6 = 3 * M + F) : 4 * M + F - M = 6 * n := by lia
theorem k_4 {n M F : Int} (h : n * 6 = 4 * M + F) : 4 * M + M - (M - F) = 6 * n := by lia
theorem k_5 {n M F : Int} (h : n * 6 = 5 * M + F) : F - M = 6 * (n - M) := by lia
theorem k_5' {n M F : Int} (h : n * 6 = 5 * M + F) (h0 : 0 ≤ F) (h1 : 0 < M) : -M < n - M := by lia
theorem k_nt {V Q v : Int} (h : V - Q = v) (h0 : 0 < v) : Q ≠ V := fun e => by rw [e, Int.sub_self] at h; exact absurd h (Int.ne_of_lt h0)
theorem k_bt {V P Q u v : Int} (hP : V - P = u) (hQ : V - Q = v) (h0 : 0 ≤ v) (h1 : v ≤ u) : Q ≤ V ∧ P ≤ Q := by omega
theorem k_mb {V v M : Int} (h : V = v) (h1 : v ≤ 4 * (4 * M)) (h2 : M ≤ 2 ^ 24) : V < 2 ^ 48 := by omega
theorem ColOk.back (h : ColOk c n a b) {x y z : Int} (hx : colI c n a b = [x, y, z]) :
    Hued (fl x (cE c)) (fl y (cE c)) (fl z (cE c)) ∧ rgbHue (fl x (cE c)) (fl y (cE c)) (fl z (cE c)) = fl n c ∧ rgbSat (fl x (cE c)) (fl y (cE c)) (fl z (cE c)) = fl a 2 ∧ fmax (fl x (cE c)) (fl y (cE c)) (fl z (cE c)) = fl b 2 := by
  have hM := cM_le h.hc
  have ha := h.a
  have hb := h.b
  have hc := h.hc
  have hn0 := h.n0
  have hn1 : n < cM c := h.n1
  obtain ⟨f0, f1, i0, i1, hn6⟩ := h.F
  obtain ⟨p1, p2, p3⟩ := h.parts
  have M0 : 0 ≤ cM c := Int.le_trans (by decide) hM.1
  have G0 : 0 ≤ cM c - cF c n := Int.sub_nonneg.mpr (Int.le_of_lt f1)
  have a1 := mulb ha (X := cM c) (Y := cM c) M0 (Int.le_refl _)
  have a2 := mulb ha (X := cF c n) (Y := cM c) f0 (Int.le_of_lt f1)
  have a3 := mulb ha (X := cM c - cF c n) (Y := cM c) G0 (Int.sub_le_self _ f0)
  have b1 := mulb hb (X := a * cM c) (Y := 4 * cM c) a1.1 a1.2.1
  have A0 : 0 ≤ a := Int.le_trans (by decide) ha.1
  have B0 : 0 ≤ b := Int.le_trans (by decide) hb.1
  have aF : a * cF c n ≤ a * cM c := Int.mul_le_mul_of_nonneg_left (Int.le_of_lt f1) A0
  have aG : a * (cM c - cF c n) ≤ a * cM c := Int.mul_le_mul_of_nonneg_left (Int.sub_le_self _ f0) A0
  have b2 := mulb hb (X := a * cF c n) (Y := a * cM c) a2.1 aF
  have b3 := mulb hb (X := a * (cM c - cF c n)) (Y := a * cM c) a3.1 aG
  have b4 : 0 ≤ b * ((4 - a) * cM c) := Int.mul_nonneg B0 (Int.mul_nonneg (Int.sub_nonneg.mpr ha.2) M0)
  have b5 := mulb hb (X := 4 * cM c) (Y := 4 * cM c) (Int.mul_nonneg (by decide) M0) (Int.le_refl _)
  have c2 : b * (a * cF c n) ≤ b * (a * cM c) := Int.mul_le_mul_of_nonneg_left aF B0
  have c3 : b * (a * (cM c - cF c n)) ≤ b * (a * cM c) := Int.mul_le_mul_of_nonneg_left aG B0
  have dP : cP c a b = b * ((4 - a) * cM c) := rfl
  have dV : cV c b = b * (4 * cM c) := rfl
  have sP : (cV c b - cP c a b) * cM c = cM c * (b * (a * cM c)) := by rw [p1, Int.mul_comm]
  have sV : (cV c b - cV c b) * cM c = 0 * (b * (a * cM c)) := by rw [Int.sub_self]; simp
  have sQ : (cV c b - cQ c n a b) * cM c = cF c n * (b * (a * cM c)) := by rw [p2]; ac_rfl
  have sT : (cV c b - cT c n a b) * cM c = (cM c - cF c n) * (b * (a * cM c)) := by rw [p3]; ac_rfl
  have hsat : b * (a * cM c) * 4 = a * cV c b := by rw [dV]; ac_rfl
  have cE50 : cE c ≤ 50 := by unfold cE; lia
  have hiF : ∀ j : Int, cI c n = j → n * 6 = j * cM c + cF c n := fun j hj => by rw [← hj]; exact hn6
  have VQ : cQ c n a b = cV c b ↔ cF c n = 0 := by
    constructor
    · intro e
      have : b * (a * cF c n) = 0 := by rw [← p2, e, Int.sub_self]
      rcases Int.mul_eq_zero.mp this with q | q
      · exact absurd (q ▸ hb.1) (by decide)
      · rcases Int.mul_eq_zero.mp q with q | q
        · exact absurd (q ▸ ha.1) (by decide)
        · exact q
    · intro e; rw [e, Int.mul_zero, Int.mul_zero] at p2; exact (Int.sub_eq_zero.mp p2).symm
  have mR0 : 0 < b * (a * cM c) := Int.lt_of_lt_of_le (Int.lt_of_lt_of_le hM.1 a1.2.2) b1.2.2
  have VT : cT c n a b ≠ cV c b := k_nt p3 (Int.lt_of_lt_of_le (Int.lt_of_lt_of_le (Int.sub_pos.mpr f1) a3.2.2) b3.2.2)
  have VP : cP c a b ≠ cV c b := k_nt p1 mR0
  have g1 : c ≤ 40 := Nat.le_trans hc (by decide)
  have g4 : cM c ≤ 2 ^ 40 := Int.le_trans hM.2 (by decide)
  have tV : cV c b ≤ cV c b ∧ cP c a b ≤ cV c b := ⟨Int.le_refl _, Int.sub_nonneg.mp (p1 ▸ Int.le_of_lt mR0)⟩
  have tP : cP c a b ≤ cV c b ∧ cP c a b ≤ cP c a b := ⟨tV.2, Int.le_refl _⟩
  have tQ : cQ c n a b ≤ cV c b ∧ cP c a b ≤ cQ c n a b := k_bt p1 p2 b2.1 c2
  have tT : cT c n a b ≤ cV c b ∧ cP c a b ≤ cT c n a b := k_bt p1 p3 b3.1 c3
  have m0 : 0 ≤ cP c a b := dP ▸ b4
  have mb : cV c b < 2 ^ 48 := k_mb dV b5.2.1 hM.2
  have mR : b * (a * cM c) = cV c b - cP c a b := p1.symm
  have bV : (0 : Int) ≤ 0 ∧ 0 ≤ cM c := ⟨Int.le_refl _, M0⟩
  have bP : 0 ≤ cM c ∧ cM c ≤ cM c := ⟨bV.2, Int.le_refl _⟩
  have bQ : 0 ≤ cF c n ∧ cF c n ≤ cM c := ⟨f0, Int.le_of_lt f1⟩
  have bT : 0 ≤ cM c - cF c n ∧ cM c - cF c n ≤ cM c := ⟨G0, Int.sub_le_self _ f0⟩
  have ha4 : 0 ≤ a ∧ a ≤ 4 := ⟨A0, ha.2⟩
  have kn0 : -cM c < n := Int.lt_of_lt_of_le (Int.neg_neg_of_pos hM.1) hn0
  clear p1 p2 p3 a1 a2 a3 b1 b2 b3 b4 b5 c2 c3 dP dV hM hb aF aG A0 B0 G0 M0
  have fin : ∀ {qx qy qz : Int} {k : Int}, Rgb c (cE c) (cM c) x y z (cV c b) (cP c a b) (b * (a * cM c)) qx qy qz → (if x = cV c b then qz - qy else if y = cV c b then 2 * cM c + qx - qz else 4 * cM c + qy - qx) = 6 * k → (k = n ∨ k = n - cM c) → -cM c < k →
      Hued (fl x (cE c)) (fl y (cE c)) (fl z (cE c)) ∧ rgbHue (fl x (cE c)) (fl y (cE c)) (fl z (cE c)) = fl n c ∧ rgbSat (fl x (cE c)) (fl y (cE c)) (fl z (cE c)) = fl a 2 ∧ fmax (fl x (cE c)) (fl y (cE c)) (fl z (cE c)) = fl b 2 := by
    intro qx qy qz k R hk hkn hk0
    refine ⟨R.hued, ?_, R.sat hsat ha4, ?_⟩
    · rw [R.hue hk hk0 (k_lt hkn hn1 bV.2)]
      congr 1
      exact k_if hkn hn0 hn1
    · rw [R.max, h.V]
  unfold colI pickI at hx
  by_cases j0 : cI c n = 0
  · rw [if_pos j0] at hx
    simp only [List.cons.injEq, and_true] at hx
    obtain ⟨rfl, rfl, rfl⟩ := hx
    have := hiF 0 j0
    refine fin (k := n) ⟨g1, cE50, rfl, g4, tV, tT, tP, .inl rfl, .inr (.inr rfl), m0, mb, mR, mR0, sV, sT, sP, bV, bT, bP⟩ ?_ (.inl rfl) kn0
    rw [if_pos rfl]; exact k_0 this
  rw [if_neg j0] at hx
  by_cases j1 : cI c n = 1
  · rw [if_pos j1] at hx
    simp only [List.cons.injEq, and_true] at hx
    obtain ⟨rfl, rfl, rfl⟩ := hx
    have := hiF 1 j1
    refine fin (k := n) ⟨g1, cE50, rfl, g4, tQ, tV, tP, .inr (.inl rfl), .inr (.inr rfl), m0, mb, mR, mR0, sQ, sV, sP, bQ, bV, bP⟩ ?_ (.inl rfl) kn0
    by_cases q : cF c n = 0
    · rw [if_pos (VQ.mpr q)]; exact k_1 this q
    · rw [if_neg (fun e => q (VQ.mp e)), if_pos rfl]; exact k_1' this
  rw [if_neg j1] at hx
  by_cases j2 : cI c n = 2
  · rw [if_pos j2] at hx
    simp only [List.cons.injEq, and_true] at hx
    obtain ⟨rfl, rfl, rfl⟩ := hx
    have := hiF 2 j2
    refine fin (k := n) ⟨g1, cE50, rfl, g4, tP, tV, tT, .inr (.inl rfl), .inl rfl, m0, mb, mR, mR0, sP, sV, sT, bP, bV, bT⟩ ?_ (.inl rfl) kn0
    rw [if_neg VP, if_pos rfl]; exact k_2 this
  rw [if_neg j2] at hx
  by_cases j3 : cI c n = 3
  · rw [if_pos j3] at hx
    simp only [List.cons.injEq, and_true] at hx
    obtain ⟨rfl, rfl, rfl⟩ := hx
    have := hiF 3 j3
    refine fin (k := n) ⟨g1, cE50, rfl, g4, tP, tQ, tV, .inr (.inr rfl), .inl rfl, m0, mb, mR, mR0, sP, sQ, sV, bP, bQ, bV⟩ ?_ (.inl rfl) kn0
    by_cases q : cF c n = 0
    · rw [if_neg VP, if_pos (VQ.mpr q)]; exact k_3 this q
    · rw [if_neg VP, if_neg (fun e => q (VQ.mp e))]; exact k_3' this
  rw [if_neg j3] at hx
  by_cases j4 : cI c n = 4
  · rw [if_pos j4] at hx
    simp only [List.cons.injEq, and_true] at hx
    obtain ⟨rfl, rfl, rfl⟩ := hx
    have := hiF 4 j4
    refine fin (k := n) ⟨g1, cE50, rfl, g4, tT, tP, tV, .inr (.inr rfl), .inr (.inl rfl), m0, mb, mR, mR0, sT, sP, sV, bT, bP, bV⟩ ?_ (.inl rfl) kn0
    rw [if_neg VT, if_neg VP]; exact k_4 this
  rw [if_neg j4] at hx
  · have j5 : cI c n = 5 := by lia
    simp only [List.cons.injEq, and_true] at hx
    obtain ⟨rfl, rfl, rfl⟩ := hx
    have := hiF 5 j5
    refine fin (k := n - cM c) ⟨g1, cE50, rfl, g4, tV, tP, tQ, .inl rfl, .inr (.inl rfl), m0, mb, mR, mR0, sV, sP, sQ, bV, bP, bQ⟩ ?_ (.inr rfl) (k_5' this f0 (Int.lt_of_le_of_lt f0 f1))
    rw [if_pos rfl]; exact k_5 this
theorem colI_three (c : Nat) (n a b : Int) : ∃ x y z, colI c n a b = [x, y, z] := by
  unfold colI pickI
  split
  · exact ⟨_, _, _, rfl⟩
  split
  · exact ⟨_, _, _, rfl⟩
  split
  · exact ⟨_, _, _, rfl⟩
  split
  · exact ⟨_, _, _, rfl⟩
  split <;> exact ⟨_, _, _, rfl⟩
end
end Mine
end
section
open PySem PySem.W PySem.Calls PyProof.Rows PySem.Sre PySem.Builtin.Re
set_option maxRecDepth 100000
set_option linter.unusedVariables false
namespace Mine
/-! the machine: n steps -/
theorem runFor_done : ∀ (n : Nat) (m : M), m.outcome.isSome = true → m.runFor n = m
  | 0, m, _ => rfl
  | n + 1, m, h => by unfold M.runFor; rw [if_pos h]
theorem runFor_step {m : M} (n : Nat) (h : m.outcome.isSome = false) : m.runFor (n + 1) = m.step.runFor n := by
  rw [M.runFor, if_neg (by rw [h]; decide)]
theorem runFor_add : ∀ (a b : Nat) (m : M), m.runFor (a + b) = (m.runFor a).runFor b
  | 0, b, m => by rw [Nat.zero_add]; rfl
  | a + 1, b, m => by
    cases h : m.outcome.isSome with
    | true => rw [runFor_done _ m h, runFor_done _ m h, runFor_done _ m h]
    | false =>
      rw [show a + 1 + b = (a + b) + 1 by lia, runFor_step _ h, runFor_step _ h, runFor_add a b]
/-- from m the machine comes to r, in n steps -/
def Comes (n : Nat) (m r : M) : Prop := m.runFor n = r
theorem Comes.trans {a b : Nat} {m r q : M} (x : Comes a m r) (y : Comes b r q) : Comes (a + b) m q := by
  show m.runFor (a + b) = q
  rw [runFor_add, show m.runFor a = r from x]; exact y
theorem Comes.one {m r : M} (h : m.outcome.isSome = false) (e : m.step = r) : Comes 1 m r := by
  show m.runFor 1 = r
  rw [runFor_step 0 h, e]; rfl
theorem drive {prog : Program} {w : World} {A : Around} {E : Value → Shared → Prop} {s : Shared} {Q : M → Shared → Prop} {r : M} (hr : r.outcome.isSome = true) (h : Q r s) :
    ∀ (k n : Nat) (m : M), Comes n m r → n < 4 * k → wpAny (model prog w) A (reDrive k m) Q E s
  | 0, n, m, _, hn => by lia
  | k + 1, n, m, hc, hn => by
    unfold reDrive
    show wpAny _ A (if (m.runFor 4).outcome.isSome then pure (m.runFor 4) else (do rule "sre.turn"; reDrive k (m.runFor 4))) Q E s
    by_cases h4 : n ≤ 4
    · have e : m.runFor 4 = r := by
        have : m.runFor (n + (4 - n)) = r := by rw [runFor_add, show m.runFor n = r from hc]; exact runFor_done _ r hr
        rwa [show n + (4 - n) = 4 by lia] at this
      rw [e, if_pos hr]
      exact wpAny_pure h
    · by_cases ho : (m.runFor 4).outcome.isSome = true
      · rw [if_pos ho]
        have e : m.runFor 4 = r := by
          have : m.runFor (4 + (n - 4)) = r := by rw [show 4 + (n - 4) = n by lia]; exact hc
          rw [runFor_add, runFor_done _ _ ho] at this; exact this
        rw [e]; exact wpAny_pure h
      · rw [if_neg ho]
        refine wpAny_bind (wpAny_rule ?_)
        refine drive hr h k (n - 4) (m.runFor 4) ?_ (by lia)
        show (m.runFor 4).runFor (n - 4) = r
        rw [← runFor_add, show 4 + (n - 4) = n by lia]; exact hc
theorem rules {M' : Model} {A : Around} {E : Value → Shared → Prop} {s : Shared} {Q : PUnit → Shared → Prop} (m : M) (h : Q ⟨⟩ s) : ∀ (l : List Nat), wpAny M' A (forIn l PUnit.unit fun i r => do
    if m.seen.has i then rule (Sre.names.getD i "")
    pure (ForInStep.yield PUnit.unit)) Q E s
  | [] => wpAny_pure h
  | i :: l => by
    rw [List.forIn_cons]
    refine wpAny_bind ?_
    by_cases hs : m.seen.has i = true
    · simp only [hs, if_true]
      exact wpAny_bind (wpAny_rule (wpAny_pure (rules m h l)))
    · simp only [hs]
      exact wpAny_pure (rules m h l)
theorem to_end {prog : Program} {w : World} {A : Around} {E : Value → Shared → Prop} {s : Shared} {Q : Option M → Shared → Prop} {m r : M} {n : Nat} (hc : Comes n m r) (hn : n < 2 ^ 60) (b : Bool) (ho : r.outcome = some (if b then .matched else .failed))
    (h : Q (if b then some r else none) s) : wpAny (model prog w) A (reRunToEnd m) Q E s := by
  unfold reRunToEnd
  refine wpAny_bind (drive (by rw [ho]; rfl) ?_ (2 ^ 64) n m hc (by lia))
  refine wpAny_bind (wpAny_mono (rules r (Q := fun _ s' => wpAny (model prog w) A (match r.outcome with
      | some .matched => pure (some r)
      | some .failed => pure none
      | some (.stuck why) => unsupported s!"_sre:{why}"
      | none => unsupported "internal:sre:no-outcome") Q E s') ?_ _) (fun _ _ x => x) fun _ _ x => x)
  rw [ho]
  cases b with
  | true => exact wpAny_pure h
  | false => exact wpAny_pure h
end Mine
end
section
open PySem PySem.W PySem.Calls PyProof.Rows PySem.Sre PySem.Builtin.Re
set_option maxRecDepth 100000
set_option linter.unusedVariables false
namespace Mine
def code1 : Array Nat := #[14, 4, 0, 1, 1, 6, 1, 16, 46, 1]
def M1 (text : Array Nat) (s : Nat) (first : Bool) (pc pos handed : Nat) (seen : Sre.Seen) : M :=
  { code := code1, text, lim := text.size, start := s, lastStart := text.size, pc, pos, handed, outermost := first, marks := #[], frames := [{ wait := .nextStart, pc := 5, pos := s, outermost := first }], weight := 1, seen }
def at1 (text : Array Nat) (s : Nat) : Bool := s == 0 || text.getD (s - 1) 0 == 10
theorem m1_at {text : Array Nat} {s : Nat} {first : Bool} {h : Nat} {seen : Sre.Seen} (e : at1 text s = true) : ∃ seen', (M1 text s first 5 s h seen).step = M1 text s first 7 s h seen' := by
  refine ⟨(seen.add 6).add 44, ?_⟩
  show (if at1 text s = true then _ else _) = _
  rw [if_pos e]
  rfl
theorem m1_at0 {text : Array Nat} {s : Nat} {first : Bool} {h : Nat} {seen : Sre.Seen} (e : at1 text s = false) : ∃ seen', (M1 text s first 5 s h seen).step = (M1 text s first 5 s h seen').say false := by
  refine ⟨(seen.add 6).add 44, ?_⟩
  show (if at1 text s = true then _ else _) = _
  rw [if_neg (by rw [e]; decide)]
  rfl
theorem m1_lit {text : Array Nat} {s : Nat} {first : Bool} {h : Nat} {seen : Sre.Seen} (hs : s < text.size) (e : (text.getD s 0 == 46) = true) : ∃ seen', (M1 text s first 7 s h seen).step = M1 text s first 9 (s + 1) h seen' := by
  refine ⟨seen.add 16, ?_⟩
  show (if s ≥ text.size then _ else _) = _
  rw [if_neg (by lia)]
  show (match (Except.ok (text.getD s 0 == 46, _) : Except String (Bool × Sre.Seen)) with
    | .error why => _
    | .ok (false, seen) => _
    | .ok (true, seen) => _) = _
  rw [e]
  rfl
theorem m1_lit0 {text : Array Nat} {s : Nat} {first : Bool} {h : Nat} {seen : Sre.Seen} (e : s < text.size → (text.getD s 0 == 46) = false) : ∃ seen', (M1 text s first 7 s h seen).step = (M1 text s first 7 s h seen').say false := by
  by_cases hs : s < text.size
  · refine ⟨seen.add 16, ?_⟩
    show (if s ≥ text.size then _ else _) = _
    rw [if_neg (by lia)]
    show (match (Except.ok (text.getD s 0 == 46, _) : Except String (Bool × Sre.Seen)) with
      | .error why => _
      | .ok (false, seen) => _
      | .ok (true, seen) => _) = _
    rw [e hs]
    rfl
  · refine ⟨seen.add 16, ?_⟩
    show (if s ≥ text.size then _ else _) = _
    rw [if_pos (by lia)]
    rfl
theorem m1_ok {text : Array Nat} {s : Nat} {first : Bool} {h : Nat} {seen : Sre.Seen} : ∃ seen', (M1 text s first 9 (s + 1) h seen).step = (M1 text s first 9 (s + 1) (s + 1) seen').say true := by
  cases first <;> exact ⟨_, rfl⟩
theorem m1_yes {text : Array Nat} {s : Nat} {first : Bool} {h : Nat} {seen : Sre.Seen} : ∃ r, Comes 2 ((M1 text s first 9 (s + 1) h seen).say true) r ∧ r.outcome = some .matched ∧ r.start = s ∧ r.handed = h := by
  refine ⟨_, rfl, rfl, rfl, rfl⟩
theorem m1_no {text : Array Nat} {s : Nat} {first : Bool} {pc h : Nat} {seen : Sre.Seen} (hs : s < text.size) : ∃ seen', ((M1 text s first pc s h seen).say false).step = M1 text (s + 1) false 5 (s + 1) (s + 1) seen' := by
  refine ⟨seen, ?_⟩
  show (if s < text.size then _ else _) = _
  rw [if_pos hs]
  rfl
theorem m1_end {text : Array Nat} {s : Nat} {first : Bool} {pc h : Nat} {seen : Sre.Seen} (hs : ¬ s < text.size) : ∃ r, Comes 2 ((M1 text s first pc s h seen).say false) r ∧ r.outcome = some .failed := by
  have e : ((M1 text s first pc s h seen).say false).step = (({ M1 text s first pc s h seen with frames := [], weight := 0, pc := 5, pos := s, outermost := first } : M)).say false := by
    show (if s < text.size then _ else _) = _
    rw [if_neg hs]
    rfl
  refine ⟨_, (Comes.one rfl e).trans (Comes.one rfl rfl), rfl⟩
def next1 (text : Array Nat) : Nat → Nat → Option Nat
  | 0, _ => none
  | k + 1, s => if (at1 text s && text.getD s 0 == 46) = true then some s else next1 text k (s + 1)
theorem s1 (text : Array Nat) : ∀ (k s : Nat) (first : Bool) (h : Nat) (seen : Sre.Seen), s + k = text.size → ∃ n r, n ≤ 10 * (k + 1) ∧ Comes n (M1 text s first 5 s h seen) r ∧
    match next1 text k s with
    | some j => r.outcome = some .matched ∧ r.start = j ∧ r.handed = j + 1
    | none => r.outcome = some .failed
  | 0, s, first, h, seen, hk => by
    have hs : ¬ s < text.size := by lia
    cases ha : at1 text s with
    | false =>
      obtain ⟨sn, e⟩ := m1_at0 (first := first) (h := h) (seen := seen) ha
      obtain ⟨r, c, o⟩ := m1_end (text := text) (s := s) (first := first) (pc := 5) (h := h) (seen := sn) hs
      exact ⟨_, r, by decide, (Comes.one rfl e).trans c, o⟩
    | true =>
      obtain ⟨sn, e⟩ := m1_at (first := first) (h := h) (seen := seen) ha
      obtain ⟨sn2, e2⟩ := m1_lit0 (text := text) (s := s) (first := first) (h := h) (seen := sn) fun q => absurd q hs
      obtain ⟨r, c, o⟩ := m1_end (text := text) (s := s) (first := first) (pc := 7) (h := h) (seen := sn2) hs
      exact ⟨_, r, by decide, (Comes.one rfl e).trans ((Comes.one rfl e2).trans c), o⟩
  | k + 1, s, first, h, seen, hk => by
    have hs : s < text.size := by lia
    cases ha : at1 text s with
    | false =>
      obtain ⟨sn, e⟩ := m1_at0 (first := first) (h := h) (seen := seen) ha
      obtain ⟨sn2, e2⟩ := m1_no (text := text) (s := s) (first := first) (pc := 5) (h := h) (seen := sn) hs
      obtain ⟨n, r, hn, c, o⟩ := s1 text k (s + 1) false (s + 1) sn2 (by lia)
      refine ⟨_, r, ?_, (Comes.one rfl e).trans ((Comes.one rfl e2).trans c), ?_⟩
      · lia
      · simp only [next1, ha]; exact o
    | true =>
      obtain ⟨sn, e⟩ := m1_at (first := first) (h := h) (seen := seen) ha
      cases hb : (text.getD s 0 == 46) with
      | false =>
        obtain ⟨sn2, e2⟩ := m1_lit0 (text := text) (s := s) (first := first) (h := h) (seen := sn) fun _ => hb
        obtain ⟨sn3, e3⟩ := m1_no (text := text) (s := s) (first := first) (pc := 7) (h := h) (seen := sn2) hs
        obtain ⟨n, r, hn, c, o⟩ := s1 text k (s + 1) false (s + 1) sn3 (by lia)
        refine ⟨_, r, ?_, (Comes.one rfl e).trans ((Comes.one rfl e2).trans ((Comes.one rfl e3).trans c)), ?_⟩
        · lia
        · simp only [next1, ha, hb]; exact o
      | true =>
        obtain ⟨sn2, e2⟩ := m1_lit (text := text) (s := s) (first := first) (h := h) (seen := sn) hs hb
        obtain ⟨sn3, e3⟩ := m1_ok (text := text) (s := s) (first := first) (h := h) (seen := sn2)
        obtain ⟨r, c, o⟩ := m1_yes (text := text) (s := s) (first := first) (h := s + 1) (seen := sn3)
        refine ⟨_, r, ?_, (Comes.one rfl e).trans ((Comes.one rfl e2).trans ((Comes.one rfl e3).trans c)), ?_⟩
        · lia
        · simp only [next1, ha, hb]; exact o
theorem f1 (text : Array Nat) (s : Nat) (hs : s ≤ text.size) : ∃ n r, n ≤ 10 * (text.size + 1) ∧ Comes n (Sre.forSearch code1 text 0 s text.size false) r ∧
    match next1 text (text.size - s) s with
    | some j => r.outcome = some .matched ∧ r.start = j ∧ r.handed = j + 1
    | none => r.outcome = some .failed := by
  by_cases h : s < text.size
  · have e : Sre.forSearch code1 text 0 s text.size false = M1 text s true 5 s s (({} : Sre.Seen).add 14) := by
      show (if (decide (s > text.size) || decide (text.size - s < 1)) = true then _ else _) = _
      rw [if_neg (by simp; lia)]
      rfl
    rw [e]
    obtain ⟨n, r, hn, c, o⟩ := s1 text (text.size - s) s true s (({} : Sre.Seen).add 14) (by lia)
    exact ⟨n, r, by lia, c, o⟩
  · have hz : text.size - s = 0 := by lia
    rw [hz]
    have e : Sre.forSearch code1 text 0 s text.size false = M.say { code := code1, text, lim := text.size, start := s, pc := 5, pos := s, handed := s, marks := #[], seen := ({} : Sre.Seen).add 14 } false := by
      show (if (decide (s > text.size) || decide (text.size - s < 1)) = true then _ else _) = _
      rw [if_pos (by simp; lia)]
      rfl
    rw [e]
    exact ⟨1, _, by lia, Comes.one rfl rfl, rfl⟩
end Mine
end
section
open PySem PySem.W PySem.Calls PyProof.Rows PySem.Sre PySem.Builtin.Re
set_option maxRecDepth 100000
set_option linter.unusedVariables false
namespace Mine
def code2 : Array Nat := #[14, 9, 4, 1, 2, 16, 10, 16, 13, 0, 7, 7, 16, 13, 16, 10, 15, 18, 5, 16, 10, 15, 13, 11, 16, 13, 5, 5, 0, 16, 10, 1, 15, 2, 0, 1]
def M2 (text : Array Nat) (s pc pos handed : Nat) (om : Bool) (frames : List Sre.Frame) (weight : Nat) (seen : Sre.Seen) : M :=
  { code := code2, text, lim := text.size, start := s, lastStart := text.size, pc, pos, handed, outermost := om, marks := #[], frames, weight, seen }
def F0 (s : Nat) (first : Bool) : Sre.Frame := { wait := .nextStart, pc := 10, pos := s, outermost := first }
def Fb (alt s : Nat) (first : Bool) : Sre.Frame := { wait := .nextBranch, pc := alt, pos := s, outermost := first }
def Fl (s : Nat) (first : Bool) : Sre.Frame := { wait := .lookNot, pc := 26, pos := s + 1, outermost := first }
section
variable {text : Array Nat} {s h : Nat} {first om : Bool} {fr : List Sre.Frame} {w : Nat} {seen : Sre.Seen}
theorem l2_12 {p : Nat} (hs : p < text.size) (e : (text.getD p 0 == 13) = true) : (M2 text s 12 p h om fr w seen).step = M2 text s 14 (p + 1) h om fr w (seen.add 16) := by
  show (if p ≥ text.size then _ else _) = _
  rw [if_neg (by lia)]
  show (match (Except.ok (text.getD p 0 == 13, _) : Except String (Bool × Sre.Seen)) with
    | .error why => _
    | .ok (false, seen) => _
    | .ok (true, seen) => _) = _
  rw [e]
  rfl
theorem n2_12 {p : Nat} (e : p < text.size → (text.getD p 0 == 13) = false) : (M2 text s 12 p h om fr w seen).step = (M2 text s 12 p h om fr w (seen.add 16)).say false := by
  by_cases hs : p < text.size
  · show (if p ≥ text.size then _ else _) = _
    rw [if_neg (by lia)]
    show (match (Except.ok (text.getD p 0 == 13, _) : Except String (Bool × Sre.Seen)) with
      | .error why => _
      | .ok (false, seen) => _
      | .ok (true, seen) => _) = _
    rw [e hs]
    rfl
  · show (if p ≥ text.size then _ else _) = _
    rw [if_pos (by lia)]
    rfl
theorem l2_14 {p : Nat} (hs : p < text.size) (e : (text.getD p 0 == 10) = true) : (M2 text s 14 p h om fr w seen).step = M2 text s 16 (p + 1) h om fr w (seen.add 16) := by
  show (if p ≥ text.size then _ else _) = _
  rw [if_neg (by lia)]
  show (match (Except.ok (text.getD p 0 == 10, _) : Except String (Bool × Sre.Seen)) with
    | .error why => _
    | .ok (false, seen) => _
    | .ok (true, seen) => _) = _
  rw [e]
  rfl
theorem n2_14 {p : Nat} (e : p < text.size → (text.getD p 0 == 10) = false) : (M2 text s 14 p h om fr w seen).step = (M2 text s 14 p h om fr w (seen.add 16)).say false := by
  by_cases hs : p < text.size
  · show (if p ≥ text.size then _ else _) = _
    rw [if_neg (by lia)]
    show (match (Except.ok (text.getD p 0 == 10, _) : Except String (Bool × Sre.Seen)) with
      | .error why => _
      | .ok (false, seen) => _
      | .ok (true, seen) => _) = _
    rw [e hs]
    rfl
  · show (if p ≥ text.size then _ else _) = _
    rw [if_pos (by lia)]
    rfl
theorem l2_19 {p : Nat} (hs : p < text.size) (e : (text.getD p 0 == 10) = true) : (M2 text s 19 p h om fr w seen).step = M2 text s 21 (p + 1) h om fr w (seen.add 16) := by
  show (if p ≥ text.size then _ else _) = _
  rw [if_neg (by lia)]
  show (match (Except.ok (text.getD p 0 == 10, _) : Except String (Bool × Sre.Seen)) with
    | .error why => _
    | .ok (false, seen) => _
    | .ok (true, seen) => _) = _
  rw [e]
  rfl
theorem n2_19 {p : Nat} (e : p < text.size → (text.getD p 0 == 10) = false) : (M2 text s 19 p h om fr w seen).step = (M2 text s 19 p h om fr w (seen.add 16)).say false := by
  by_cases hs : p < text.size
  · show (if p ≥ text.size then _ else _) = _
    rw [if_neg (by lia)]
    show (match (Except.ok (text.getD p 0 == 10, _) : Except String (Bool × Sre.Seen)) with
      | .error why => _
      | .ok (false, seen) => _
      | .ok (true, seen) => _) = _
    rw [e hs]
    rfl
  · show (if p ≥ text.size then _ else _) = _
    rw [if_pos (by lia)]
    rfl
theorem l2_24 {p : Nat} (hs : p < text.size) (e : (text.getD p 0 == 13) = true) : (M2 text s 24 p h om fr w seen).step = M2 text s 26 (p + 1) h om fr w (seen.add 16) := by
  show (if p ≥ text.size then _ else _) = _
  rw [if_neg (by lia)]
  show (match (Except.ok (text.getD p 0 == 13, _) : Except String (Bool × Sre.Seen)) with
    | .error why => _
    | .ok (false, seen) => _
    | .ok (true, seen) => _) = _
  rw [e]
  rfl
theorem n2_29 {p : Nat} (e : p < text.size → (text.getD p 0 == 10) = false) : (M2 text s 29 p h om fr w seen).step = (M2 text s 29 p h om fr w (seen.add 16)).say false := by
  by_cases hs : p < text.size
  · show (if p ≥ text.size then _ else _) = _
    rw [if_neg (by lia)]
    show (match (Except.ok (text.getD p 0 == 10, _) : Except String (Bool × Sre.Seen)) with
      | .error why => _
      | .ok (false, seen) => _
      | .ok (true, seen) => _) = _
    rw [e hs]
    rfl
  · show (if p ≥ text.size then _ else _) = _
    rw [if_pos (by lia)]
    rfl
theorem br2 : (M2 text s 10 s h first [F0 s first] 1 seen).step = M2 text s 12 s s first [Fb 11 s first, F0 s first] 2 (seen.add 7) := rfl
theorem alt2 {pc p : Nat} : ((M2 text s pc p h om [Fb 11 s first, F0 s first] 2 seen).say false).step = M2 text s 19 s s first [Fb 18 s first, F0 s first] 2 seen := rfl
theorem alt3 {pc p : Nat} : ((M2 text s pc p h om [Fb 18 s first, F0 s first] 2 seen).say false).step = M2 text s 24 s s first [Fb 23 s first, F0 s first] 2 seen := rfl
theorem jump16 {p : Nat} : (M2 text s 16 p h om fr w seen).step = M2 text s 35 p h om fr w (seen.add 15) := rfl
theorem jump21 {p : Nat} : (M2 text s 21 p h om fr w seen).step = M2 text s 35 p h om fr w (seen.add 15) := rfl
theorem jump32 {p : Nat} : (M2 text s 32 p h om fr w seen).step = M2 text s 35 p h om fr w (seen.add 15) := rfl
theorem look2 : (M2 text s 26 (s + 1) h first [Fb 23 s first, F0 s first] 2 seen).step = M2 text s 29 (s + 1) (s + 1) false [Fl s first, Fb 23 s first, F0 s first] 3 (seen.add 5) := by
  rfl
theorem back2 {p : Nat} : ((M2 text s 29 p h om [Fl s first, Fb 23 s first, F0 s first] 3 seen).say false).step = M2 text s 32 (s + 1) h first [Fb 23 s first, F0 s first] 2 seen := rfl
theorem ok2 {p : Nat} : (M2 text s 35 p h om fr w seen).step = (M2 text s 35 p p om fr w (seen.add 1)).say true := by cases om <;> rfl
theorem yes2 {p a : Nat} : ∃ r, Comes 3 ((M2 text s 35 p h om [Fb a s first, F0 s first] 2 seen).say true) r ∧ r.outcome = some .matched ∧ r.start = s ∧ r.handed = h := ⟨_, rfl, rfl, rfl, rfl⟩
theorem go2 {m r q : M} {n : Nat} (h : m.outcome.isSome = false) (e : m.step = r) (c : Comes n r q) : Comes (1 + n) m q := (Comes.one h e).trans c
/-- how long the end of a row at s is -/
def len2 (text : Array Nat) (s : Nat) : Nat := if text.getD s 0 == 13 && (decide (s + 1 < text.size) && text.getD (s + 1) 0 == 10) then 2 else 1
def hit2 (text : Array Nat) (s : Nat) : Bool := text.getD s 0 == 10 || text.getD s 0 == 13
theorem t2 (hs : s < text.size) (hh : hit2 text s = true) : ∃ n r, n ≤ 40 ∧ Comes n (M2 text s 10 s h first [F0 s first] 1 seen) r ∧ r.outcome = some .matched ∧ r.start = s ∧ r.handed = s + len2 text s := by
  by_cases h13 : (text.getD s 0 == 13) = true
  · by_cases hn : (decide (s + 1 < text.size) && text.getD (s + 1) 0 == 10) = true
    · have hl : len2 text s = 2 := by unfold len2; rw [if_pos (by rw [h13, hn]; rfl)]
      simp only [Bool.and_eq_true, decide_eq_true_eq] at hn
      obtain ⟨r, c, o1, o2, o3⟩ := yes2 (text := text) (s := s) (h := s + 1 + 1) (p := s + 1 + 1) (a := 11) (first := first) (om := first) (seen := ((((seen.add 7).add 16).add 16).add 15).add 1)
      refine ⟨_, r, ?_, go2 rfl br2 (go2 rfl (l2_12 hs h13) (go2 rfl (l2_14 hn.1 (by simpa using hn.2)) (go2 rfl jump16 (go2 rfl ok2 c)))), o1, o2, ?_⟩
      · decide
      · rw [o3, hl]
    · have hl : len2 text s = 1 := by unfold len2; rw [if_neg (by rw [h13]; simpa using hn)]
      have hn' : s + 1 < text.size → (text.getD (s + 1) 0 == 10) = false := fun q => by
        cases hq : (text.getD (s + 1) 0 == 10) with
        | false => rfl
        | true => exact absurd (by simp only [Bool.and_eq_true, decide_eq_true_eq]; exact ⟨q, by simpa using hq⟩) hn
      have h10 : (text.getD s 0 == 10) = false := by
        have e : text.getD s 0 = 13 := by simpa using h13
        rw [e]; rfl
      obtain ⟨r, c, o1, o2, o3⟩ := yes2 (text := text) (s := s) (h := s + 1) (p := s + 1) (a := 23) (first := first) (om := first) (seen := (((((((((seen.add 7).add 16).add 16).add 16).add 16).add 5).add 16).add 15).add 1))
      refine ⟨_, r, ?_, go2 rfl br2 (go2 rfl (l2_12 hs h13) (go2 rfl (n2_14 hn') (go2 rfl alt2 (go2 rfl (n2_19 fun _ => h10) (go2 rfl alt3 (go2 rfl (l2_24 hs h13) (go2 rfl look2 (go2 rfl (n2_29 hn') (go2 rfl back2 (go2 rfl jump32 (go2 rfl ok2 c))))))))))), o1, o2, ?_⟩
      · decide
      · rw [o3, hl]
  · have h13' : (text.getD s 0 == 13) = false := by simpa using h13
    have h10 : (text.getD s 0 == 10) = true := by
      unfold hit2 at hh
      rw [h13', Bool.or_false] at hh; exact hh
    have hl : len2 text s = 1 := by unfold len2; rw [if_neg (by rw [h13', Bool.false_and]; decide)]
    obtain ⟨r, c, o1, o2, o3⟩ := yes2 (text := text) (s := s) (h := s + 1) (p := s + 1) (a := 18) (first := first) (om := first) (seen := ((((seen.add 7).add 16).add 16).add 15).add 1)
    refine ⟨_, r, ?_, go2 rfl br2 (go2 rfl (n2_12 fun _ => h13') (go2 rfl alt2 (go2 rfl (l2_19 hs h10) (go2 rfl jump21 (go2 rfl ok2 c))))), o1, o2, ?_⟩
    · decide
    · rw [o3, hl]
end
def next2 (text : Array Nat) : Nat → Nat → Option Nat
  | 0, _ => none
  | k + 1, s => if hit2 text s = true then some s else next2 text k (s + 1)
theorem set2 (c : Nat) (seen : Sre.Seen) : ∃ seen', inSet code2 c code2.size 5 true seen = .ok (c == 10 || c == 13, seen') := by
  by_cases h1 : (c == 10) = true
  · refine ⟨seen.add 16, ?_⟩
    show (if (c == 10) = true then _ else _) = _
    rw [if_pos h1, h1]; rfl
  · have h1' : (c == 10) = false := by simpa using h1
    by_cases h2 : (c == 13) = true
    · refine ⟨(seen.add 16).add 16, ?_⟩
      show (if (c == 10) = true then _ else _) = _
      rw [if_neg h1]
      show (if (c == 13) = true then _ else _) = _
      rw [if_pos h2, h1', h2]; rfl
    · have h2' : (c == 13) = false := by simpa using h2
      refine ⟨((seen.add 16).add 16).add 0, ?_⟩
      show (if (c == 10) = true then _ else _) = _
      rw [if_neg h1]
      show (if (c == 13) = true then _ else _) = _
      rw [if_neg h2, h1', h2']; rfl
theorem adm2 (m : M) (hc : m.code = code2) : ∀ (k s : Nat) (seen : Sre.Seen), s + k = m.lim → m.lim = m.text.size → ∃ seen', M.admitted m (k + 1) s seen = .ok (next2 m.text k s, seen')
  | 0, s, seen, hk, hl => ⟨seen, by rw [M.admitted, if_pos (by lia)]; rfl⟩
  | k + 1, s, seen, hk, hl => by
    obtain ⟨sn, e⟩ := set2 (m.text.getD s 0) seen
    rw [M.admitted, if_neg (by lia), hc, e]
    by_cases hh : (m.text.getD s 0 == 10 || m.text.getD s 0 == 13) = true
    · rw [hh]
      exact ⟨sn, by rw [next2, if_pos (show hit2 m.text s = true from hh)]⟩
    · have hh' : (m.text.getD s 0 == 10 || m.text.getD s 0 == 13) = false := by simpa using hh
      rw [hh']
      obtain ⟨sn', e'⟩ := adm2 m hc k (s + 1) sn (by lia) hl
      exact ⟨sn', by rw [next2, if_neg (show ¬ hit2 m.text s = true from hh)]; exact e'⟩
theorem next2_lt (text : Array Nat) : ∀ (k s j : Nat), s + k = text.size → next2 text k s = some j → j < text.size ∧ hit2 text j = true ∧ s ≤ j
  | 0, s, j, hk, e => by simp [next2] at e
  | k + 1, s, j, hk, e => by
    rw [next2] at e
    by_cases hh : hit2 text s = true
    · rw [if_pos hh] at e; cases e; exact ⟨by lia, hh, Nat.le_refl _⟩
    · rw [if_neg hh] at e
      have := next2_lt text k (s + 1) j (by lia) e
      exact ⟨this.1, this.2.1, by lia⟩
theorem f2 (text : Array Nat) (s : Nat) (hs : s ≤ text.size) : ∃ n r, n ≤ 40 ∧ Comes n (Sre.forSearch code2 text 0 s text.size false) r ∧
    match next2 text (text.size - s) s with
    | some j => r.outcome = some .matched ∧ r.start = j ∧ r.handed = j + len2 text j
    | none => r.outcome = some .failed := by
  by_cases h : s < text.size
  · have e : Sre.forSearch code2 text 0 s text.size false = M.attemptFrom { code := code2, text, lim := text.size, start := s, lastStart := text.size, pc := 10, pos := s, handed := s, marks := #[], seen := ({} : Sre.Seen).add 14 } s true := by
      show (if (decide (s > text.size) || decide (text.size - s < 1)) = true then _ else _) = _
      rw [if_neg (by simp; lia)]
      rfl
    rw [e]
    generalize hm : ({ code := code2, text, lim := text.size, start := s, lastStart := text.size, pc := 10, pos := s, handed := s, marks := #[], seen := ({} : Sre.Seen).add 14 } : M) = m
    obtain ⟨sn, ea⟩ := adm2 m (by rw [← hm]) (text.size - s) s m.seen (by rw [← hm]; show s + (text.size - s) = text.size; lia) (by rw [← hm])
    have hf : m.hasFirstSet = true := by rw [← hm]; rfl
    have hfu : m.lim + 1 - s = text.size - s + 1 := by rw [← hm]; show text.size + 1 - s = _; lia
    have ht : m.text = text := by rw [← hm]
    unfold M.attemptFrom
    rw [hf, hfu, ea, ht]
    cases hn : next2 text (text.size - s) s with
    | none =>
      subst hm
      exact ⟨1, _, by decide, Comes.one rfl rfl, rfl⟩
    | some j =>
      obtain ⟨hj, hh, hle⟩ := next2_lt text _ _ _ (by lia) hn
      subst hm
      obtain ⟨n, r, h1, h2, h3, h4, h5⟩ := t2 (h := j) (first := true) (seen := sn) hj hh
      exact ⟨n, r, h1, h2, h3, h4, h5⟩
  · have hz : text.size - s = 0 := by lia
    rw [hz]
    have e : Sre.forSearch code2 text 0 s text.size false = M.say { code := code2, text, lim := text.size, start := s, pc := 10, pos := s, handed := s, marks := #[], seen := ({} : Sre.Seen).add 14 } false := by
      show (if (decide (s > text.size) || decide (text.size - s < 1)) = true then _ else _) = _
      rw [if_pos (by simp; lia)]
      rfl
    rw [e]
    exact ⟨1, _, by lia, Comes.one rfl rfl, rfl⟩
end Mine
end
section
open PySem PySem.W PySem.Calls PyProof.Rows PySem.Sre PySem.Builtin.Re
set_option maxRecDepth 100000
set_option linter.unusedVariables false
namespace Mine
structure Pat (h : Heap) (P : Addr) (code : Array Nat) : Prop where
  ex : ∃ o fs T oT its n, h.get? P = some o ∧ o.cls = .type "re.Pattern" ∧ o.dict = none ∧ o.data = .fields fs ∧ fs.getD 6 .none = .int 0 0 ∧ fs.getD 5 .none = .ref T ∧ fs.getD 2 .none = .int 0 0 ∧ h.get? T = some oT ∧ oT.data = .seq its n ∧ ((its.map reRawOf).map (·.toNat)) = code
theorem Pat.keeps {h h' : Heap} {P : Addr} {code : Array Nat} (p : Pat h P code) (D : Addr) (hD : ∀ o, h.get? D = some o → o.cls = .type "list" ∧ ∃ xs n, o.data = .seq xs n) (hk : ∀ b, b ≠ D → ∀ o, h.get? b = some o → h'.get? b = some o) (hT : ∀ o fs T, h.get? P = some o → o.data = .fields fs → fs.getD 5 .none = .ref T → T ≠ D) : Pat h' P code := by
  obtain ⟨o, fs, T, oT, its, n, h1, h2, h3, h4, h5, h6, h7, h8, h9, h10⟩ := p
  refine ⟨o, fs, T, oT, its, n, hk P (fun e => ?_) o h1, h2, h3, h4, h5, h6, h7, hk T (hT o fs T h1 h4 h6) oT h8, h9, h10⟩
  rw [e] at h1
  have := (hD o h1).1
  rw [h2] at this; exact absurd this (by decide)
section
variable {M : Model} {A : Around} {E : Value → Shared → Prop} {s : Shared}
theorem whole_target {P : Addr} {code : Array Nat} {x : Str} {t : Tok} {Q : ReTarget → Shared → Prop} (p : Pat s.heap P code) (h : Q { pattern := .ref P, string := .str x t, code, text := x.cps, kind := 0, groups := 0, pos := 0, lim := x.cps.size } s) :
    wpAny M A (reWholeTarget (.ref P) (.str x t)) Q E s := by
  obtain ⟨o, fs, T, oT, its, n, h1, h2, h3, h4, h5, h6, h7, h8, h9, h10⟩ := p
  unfold reWholeTarget
  refine wpAny_bind (wpAny_fieldsOf h1 h4 ?_)
  refine wpAny_bind (wpAny_of_eq (a := (x.cps, 0)) rfl ?_)
  dsimp only
  rw [h5, h6, h7]
  show wpAny M A (reNoCollectionInside (.str x t) 0 >>= fun _ => _) Q E s
  refine wpAny_bind (wpAny_of_eq (a := ()) rfl ?_)
  refine wpAny_bind ?_
  unfold reRawItems
  refine wpAny_bind (wpAny_seqItems h8 h9 (wpAny_pure ?_))
  show wpAny M A (pure _) Q E s
  refine wpAny_pure ?_
  have e : (((some its).getD #[]).map reRawOf).map (·.toNat) = code := h10
  rw [e]
  exact h
end
end Mine
end
section
open PySem PySem.W PySem.Calls PyProof.Rows PySem.Sre PySem.Builtin.Re
set_option maxRecDepth 100000
set_option linter.unusedVariables false
namespace Mine
structure Srch (code text : Array Nat) (nx : Nat → Option Nat) (ln : Nat → Nat) : Prop where
  go : ∀ s, s ≤ text.size → ∃ n r, n < 2 ^ 60 ∧ Comes n (Sre.forSearch code text 0 s text.size false) r ∧ match nx s with | some j => r.outcome = some .matched ∧ r.start = j ∧ r.handed = j + ln j | none => r.outcome = some .failed
  ok : ∀ s j, s ≤ text.size → nx s = some j → s ≤ j ∧ 0 < ln j ∧ j + ln j ≤ text.size
def subOut (nx : Nat → Option Nat) (ln : Nat → Nat) (t : Array Nat) (rp : List Nat) : Nat → Nat → List Nat
  | 0, _ => []
  | k + 1, d => match nx d with
    | none => (t.extract d t.size).toList
    | some j => (t.extract d j).toList ++ rp ++ subOut nx ln t rp k (j + ln j)
def cat (l : List (Str × Tok)) : List Nat := (l.map fun p => p.1.cps.toList).flatten
theorem plain_sub_loop : plainId "re.Pattern.sub.loop" = true := by decide +kernel
theorem entry_sub_loop : entryFor table "re.Pattern.sub.loop" = some Builtin.«re.Pattern.sub.loop» := entryFor_of_tree (by kernel_rfl)
theorem next_found {prog : Program} {w : World} {A : Around} {E : Value → Shared → Prop} {s : Shared} {T : ReTarget} {nx : Nat → Option Nat} {ln : Nat → Nat} {d : Nat} {Q : Option M → Shared → Prop} (S : Srch T.code T.text nx ln) (hg : T.groups = 0) (hl : T.lim = T.text.size) (hd : d ≤ T.text.size)
    (h : match nx d with | none => Q none s | some j => ∀ r : M, r.start = j → r.handed = j + ln j → Q (some r) s) : wpAny (model prog w) A (reNextFound T d false) Q E s := by
  obtain ⟨n, r, hn, hc, ho⟩ := S.go d hd
  unfold reNextFound
  rw [hg, hl]
  cases e : nx d with
  | none =>
    rw [e] at ho h
    exact to_end hc hn false ho h
  | some j =>
    rw [e] at ho h
    exact to_end hc hn true ho.1 (h r ho.2.1 ho.2.2)
theorem glued_nil (l : List Str) : (Builtin.Str.glued ⟨#[]⟩ l).cps.toList = (l.map fun p => p.cps.toList).flatten := by
  have fo : ∀ (l : List Str) (acc : Array Nat), (l.foldl (fun acc p => acc ++ (#[] : Array Nat) ++ p.cps) acc).toList = acc.toList ++ (l.map fun p => p.cps.toList).flatten := by
    intro l
    induction l with
    | nil => intro acc; simp
    | cons a l ih => intro acc; rw [List.foldl_cons, ih]; simp
  cases l with
  | nil => rfl
  | cons a l =>
    show (l.foldl (fun acc p => acc ++ (#[] : Array Nat) ++ p.cps) a.cps).toList = _
    rw [fo]; simp
theorem made_join {l : List (Str × Tok)} {Q : Value → Shared → Prop} {s : Shared} (hz : (cat l).length ≤ sizeLine) (h : ∀ t' tk, Q (.str ⟨(cat l).toArray⟩ t') { s with toks := tk }) : (joinMade ⟨#[]⟩ l).post Q s := by
  have e : ∀ l : List (Str × Tok), Builtin.Str.glued ⟨#[]⟩ (l.map (·.1)) = ⟨(cat l).toArray⟩ := fun l => by
    have := glued_nil (l.map (·.1))
    rw [List.map_map] at this
    have h2 : (Builtin.Str.glued ⟨#[]⟩ (l.map (·.1))).cps = (cat l).toArray := Array.toList_inj.mp (by rw [this]; rfl)
    rw [← h2]
  match l with
  | [] => have := h s.toks (s.toks + 1); rw [← e] at this; exact ⟨by rw [e]; exact hz, this⟩
  | [p] =>
    have := h p.2 s.toks
    have e1 : cat [p] = p.1.cps.toList := by simp [cat]
    rw [e1, Array.toArray_toList] at this
    exact this
  | p :: q :: r => have := h s.toks (s.toks + 1); rw [← e] at this; exact ⟨by rw [e]; exact hz, this⟩
theorem cat_le {B : Nat} : ∀ (l : List (Str × Tok)), (∀ p ∈ l, p.1.cps.size ≤ B) → (cat l).length ≤ l.length * B
  | [], _ => by simp [cat]
  | a :: l, h => by
    have h1 := h a (List.mem_cons_self ..)
    have h2 := cat_le l fun z hz => h z (List.mem_cons_of_mem _ hz)
    have e : (cat (a :: l)).length = a.1.cps.size + (cat l).length := by simp [cat]
    rw [e, List.length_cons, Nat.succ_mul]; lia
theorem fin_join {prog : Program} {w : World} {A : Around} {R : Result → Shared → Prop} {s : Shared} {D : Addr} {x : Str} {l : List (Str × Tok)} {E : Value → Shared → Prop} (hD : s.heap.PlainList D (strValues l).toArray) (hp : ∀ p ∈ l, p.1.cps.size ≤ 200) (hl : l.length ≤ 1000)
    (hR : ∀ tk t', R (.ok (.ret (.str ⟨(cat l).toArray⟩ t'))) { s with toks := tk }) :
    wpAny (model prog w) A.in1 (reSlice x.cps 0 0 0 >>= fun joiner => seqItems? (.ref D) >>= fun o => if (o.getD #[]).isEmpty = true then (pure joiner >>= fun text => ret text) else (call (.builtin "str.join") [joiner, .ref D] >>= fun text => ret text))
      (fun fin s' => match fin with | .done f => R (.ok f) s' | .again c' => c'.quiet = true ∧ codeAny (model prog w) A c' R s') E s := by
  have e0 : (⟨x.cps.extract 0 0⟩ : Str) = ⟨#[]⟩ := by simp
  show wpAny _ _ (mkStr ⟨x.cps.extract 0 0⟩ >>= _) _ _ _
  rw [e0]
  refine wpAny_bind (wpAny_mkStr ?_ (by decide))
  obtain ⟨c, ho⟩ := hD
  refine wpAny_bind (wpAny_seqItems ho rfl ?_)
  show wpAny _ _ (if ((strValues l).toArray).isEmpty = true then _ else _) _ _ _
  cases l with
  | nil =>
    rw [if_pos (by rfl)]
    refine wpAny_bind (wpAny_pure (wpAny_pure ?_))
    exact hR (s.toks + 1) s.toks
  | cons a l =>
    rw [if_neg (by simp [strValues])]
    refine wpAny_bind (call_meets F.slot_str_join (typeIs_str _ _ _) F.entry_str_join (F.args_str_join_2 _ _) (meets_str_join_list ⟨#[]⟩ s.toks D (a :: l) (StrLaws.joinFits (B := 200) (fun y hy => ?_) ?_)) ⟨⟨_, ho, rfl, c, rfl⟩, made_join ?_ fun t' tk => wpAny_pure ?_⟩)
    · obtain ⟨p, hp', rfl⟩ := List.mem_map.mp hy
      exact hp p hp'
    · rw [List.length_map]
      show (a :: l).length * 200 + (a :: l).length * 0 ≤ 16777216
      lia
    · have hsl : (200000 : Nat) ≤ sizeLine := by decide
      have := cat_le (B := 200) (a :: l) hp
      lia
    · exact hR tk t'
theorem cat_snoc (l : List (Str × Tok)) (y : Str) (t : Tok) : cat (l ++ [(y, t)]) = cat l ++ y.cps.toList := by simp [cat]
theorem push_str {D : Addr} {l : List (Str × Tok)} {h : Heap} {y : Str} {t : Tok} (hD : h.PlainList D (strValues l).toArray) : (h.update D (Obj.mapSeq (·.push (.str y t)))).PlainList D (strValues (l ++ [(y, t)])).toArray := by
  obtain ⟨c, ho⟩ := hD
  have q := IsL.update ho (·.push (.str y t))
  have e : (strValues l).toArray.push (.str y t) = (strValues (l ++ [(y, t)])).toArray := by simp [strValues]
  have e' : ∀ n, ({ cls := .type "list", dict := none, data := .seq ((strValues l).toArray.push (.str y t)) n, slots := #[] } : Obj) = { cls := .type "list", dict := none, data := .seq (strValues (l ++ [(y, t)])).toArray n, slots := #[] } := fun n => by rw [e]
  exact ⟨_, q.trans (congrArg some (e' _))⟩
theorem upd_push {M : Model} {A : Around} {E : Value → Shared → Prop} {s : Shared} {Q : Unit → Shared → Prop} {D : Addr} {l : List (Str × Tok)} {y : Str} {t : Tok} (hD : s.heap.PlainList D (strValues l).toArray) (hl : l.length ≤ 1000)
    (h : ∀ h', h'.PlainList D (strValues (l ++ [(y, t)])).toArray → (∀ b, b ≠ D → h'.get? b = s.heap.get? b) → Q () { s with heap := h' }) : wpAny M A (updateSeq D (·.push (.str y t))) Q E s := by
  have hD' := hD
  obtain ⟨c, ho⟩ := hD
  have hz : (strValues l).toArray.size ≤ 1000 := by simp [strValues]; exact hl
  have hs : (1000 : Nat) ≤ sizeLine := by decide
  exact wpAny_updateSeq ho rfl (h _ (push_str hD') fun b hb => (Heap.SameBut.update s.heap D _).2 b hb) (Nat.le_trans hz hs) (by rw [Array.size_push]; lia)
theorem ext_le (t : Array Nat) (i j : Nat) : (t.extract i j).size ≤ t.size := by rw [Array.size_extract]; omega
theorem sub_loop {P D : Addr} {code : Array Nat} {x rp : Str} {t u : Tok} {nx : Nat → Option Nat} {ln : Nat → Nat} (S : Srch code x.cps nx ln) (hx : x.cps.size ≤ 200) (hrp : rp.cps.size ≤ 200) :
    ∀ (k d n : Nat) (l : List (Str × Tok)), x.cps.size < d + k → d ≤ x.cps.size → l.length ≤ 2 * d → (∀ p ∈ l, p.1.cps.size ≤ 200) →
    Meets (Builtin.«re.Pattern.sub.loop» ⟨[.ref P, .str x t, .str rp u, rawInt 0, rawInt 0, rawInt n, rawInt d, rawInt d, .bool false, .ref D, .bool false], []⟩)
      (fun A R s => Pat s.heap P code ∧ (∀ o fs T, s.heap.get? P = some o → o.data = .fields fs → fs.getD 5 .none = .ref T → T ≠ D) ∧ s.heap.PlainList D (strValues l).toArray ∧
        ∀ h' tk t', (∀ b, b ≠ D → h'.get? b = s.heap.get? b) → R (.ok (.ret (.str ⟨(cat l ++ subOut nx ln x.cps rp.cps.toList k d).toArray⟩ t'))) { s with heap := h', toks := tk })
  | 0, d, n, l, hk, hd, hl, hp => by lia
  | k + 1, d, n, l, hk, hd, hl, hp => fun prog w A R s ⟨pt, hT, hD, hR⟩ => by
    have hsl : (1000 : Nat) ≤ sizeLine := by decide
    unfold Builtin.«re.Pattern.sub.loop»
    refine wpAny_bind (whole_target pt ?_)
    refine wpAny_bind (wpAny_of_eq (a := ()) rfl ?_)
    show wpAny _ _ (reNextFound _ d false >>= _) _ _ s
    refine wpAny_bind (next_found (nx := nx) (ln := ln) S rfl rfl hd ?_)
    cases e : nx d with
    | none =>
      show wpAny _ _ (if d < x.cps.size then (reSlice x.cps 0 d x.cps.size >>= fun v => updateSeq D (fun a => a.push v) >>= fun _ => (reSlice x.cps 0 0 0 >>= fun joiner => seqItems? (.ref D) >>= fun o => if (o.getD #[]).isEmpty = true then (pure joiner >>= fun text => ret text) else (call (.builtin "str.join") [joiner, .ref D] >>= fun text => ret text)))
        else (reSlice x.cps 0 0 0 >>= fun joiner => seqItems? (.ref D) >>= fun o => if (o.getD #[]).isEmpty = true then (pure joiner >>= fun text => ret text) else (call (.builtin "str.join") [joiner, .ref D] >>= fun text => ret text))) _ _ s
      have eo : subOut nx ln x.cps rp.cps.toList (k + 1) d = (x.cps.extract d x.cps.size).toList := by rw [subOut, e]
      by_cases hlt : d < x.cps.size
      · rw [if_pos hlt]
        show wpAny _ _ (mkStr ⟨x.cps.extract d x.cps.size⟩ >>= _) _ _ _
        refine wpAny_bind (wpAny_mkStr ?_ (Nat.le_trans (ext_le _ _ _) (by lia)))
        refine wpAny_bind (upd_push hD (by lia) fun h' hD' hb => ?_)
        refine fin_join hD' (fun p hp' => ?_) (by simp; lia) fun tk t' => ?_
        · rcases List.mem_append.mp hp' with q | q
          · exact hp p q
          · have : p = (⟨x.cps.extract d x.cps.size⟩, s.toks) := by simpa using q
            rw [this]; exact Nat.le_trans (ext_le _ _ _) hx
        · have := hR h' tk t' hb
          rw [eo] at this
          rw [cat_snoc]; exact this
      · rw [if_neg hlt]
        refine fin_join hD hp (by lia) fun tk t' => ?_
        have := hR s.heap tk t' fun _ _ => rfl
        have e2 : (x.cps.extract d x.cps.size).toList = [] := by simp; lia
        rw [eo, e2, List.append_nil] at this
        exact this
    | some j =>
      intro r hr1 hr2
      obtain ⟨hj1, hj2, hj3⟩ := S.ok d j hd e
      subst hr1
      have J : ∀ (l' : List (Str × Tok)) (s' : Shared), l'.length ≤ 2 * d + 1 → (∀ p ∈ l', p.1.cps.size ≤ 200) → s'.heap.PlainList D (strValues l').toArray → (∀ b, b ≠ D → s'.heap.get? b = s.heap.get? b) → (∃ tk, s' = { s with heap := s'.heap, toks := tk }) → cat l' = cat l ++ (x.cps.extract d r.start).toList →
          wpAny (model prog w) A.in1 (updateSeq D (fun a => a.push (.str rp u)) >>= fun _ => (pure (Fin.again (.builtin "re.Pattern.sub.loop" ⟨[.ref P, .str x t, .str rp u, rawInt 0, rawInt 0, rawInt (n + 1), rawInt r.handed, rawInt r.handed, .bool (r.handed == r.start), .ref D, .bool false], []⟩)) : Sem PySem.Fin))
            (fun fin s' => match fin with | .done f => R (.ok f) s' | .again c' => c'.quiet = true ∧ codeAny (model prog w) A c' R s') (fun e s' => R (.error e) s') s' := by
        intro l' s' hl' hp' hD' hb' hs' hcat
        refine wpAny_bind (upd_push hD' (by lia) fun h2 hD2 hb2 => wpAny_pure ?_)
        refine ⟨plainId_quiet plain_sub_loop _, codeAny_builtin entry_sub_loop ?_⟩
        rw [Around.under_plainId plain_sub_loop _]
        have hne : (r.handed == r.start) = false := by rw [hr2]; simp; lia
        rw [hne, show ((n : Int) + 1) = ((n + 1 : Nat) : Int) by push_cast; rfl]
        have hall : ∀ b, b ≠ D → h2.get? b = s.heap.get? b := fun b hb => (hb2 b hb).trans (hb' b hb)
        have pD : P ≠ D := fun q => by
          obtain ⟨o, _, _, _, _, _, h1, h2, _⟩ := pt
          obtain ⟨c, ho⟩ := hD
          rw [q, ho] at h1; cases h1; exact absurd (show Value.type "list" = Value.type "re.Pattern" from h2) (by decide)
        refine sub_loop S hx hrp k r.handed (n + 1) (l' ++ [(rp, u)]) (by lia) (by lia) (by simp; lia) (fun p q => ?_) prog w A R _ ⟨?_, ?_, hD2, fun h' tk t' hb => ?_⟩
        · rcases List.mem_append.mp q with q | q
          · exact hp' p q
          · have : p = (rp, u) := by simpa using q
            rw [this]; exact hrp
        · exact pt.keeps D (fun o ho => by obtain ⟨c, q⟩ := hD; rw [ho] at q; cases q; exact ⟨rfl, _, _, rfl⟩) (fun b hb o ho => (hall b hb).trans ho) hT
        · intro o fs T h1 h2 h3
          exact hT o fs T (by rw [← hall P pD]; exact h1) h2 h3
        · obtain ⟨tk0, e0⟩ := hs'
          have := hR h' tk t' fun b hb' => (hb b hb').trans (hall b hb')
          rw [subOut, e] at this
          rw [cat_snoc, hcat, hr2]
          rw [e0]
          have ea : cat l ++ (x.cps.extract d r.start).toList ++ rp.cps.toList ++ subOut nx ln x.cps rp.cps.toList k (r.start + ln r.start) = cat l ++ ((x.cps.extract d r.start).toList ++ rp.cps.toList ++ subOut nx ln x.cps rp.cps.toList k (r.start + ln r.start)) := by simp
          rw [ea]
          exact this
      show wpAny _ _ (if d < r.start then (reSlice x.cps 0 d r.start >>= fun v => updateSeq D (fun a => a.push v) >>= fun _ => (updateSeq D (fun a => a.push (.str rp u)) >>= fun _ => (pure (Fin.again (.builtin "re.Pattern.sub.loop" ⟨[.ref P, .str x t, .str rp u, rawInt 0, rawInt 0, rawInt (n + 1), rawInt r.handed, rawInt r.handed, .bool (r.handed == r.start), .ref D, .bool false], []⟩)) : Sem PySem.Fin)))
        else (updateSeq D (fun a => a.push (.str rp u)) >>= fun _ => (pure (Fin.again (.builtin "re.Pattern.sub.loop" ⟨[.ref P, .str x t, .str rp u, rawInt 0, rawInt 0, rawInt (n + 1), rawInt r.handed, rawInt r.handed, .bool (r.handed == r.start), .ref D, .bool false], []⟩)) : Sem PySem.Fin))) _ _ s
      by_cases hlt : d < r.start
      · rw [if_pos hlt]
        show wpAny _ _ (mkStr ⟨x.cps.extract d r.start⟩ >>= _) _ _ _
        refine wpAny_bind (wpAny_mkStr ?_ (Nat.le_trans (ext_le _ _ _) (by lia)))
        refine wpAny_bind (upd_push hD (by lia) fun h' hD' hb => ?_)
        refine J _ _ (by simp; lia) (fun p hp' => ?_) hD' hb ⟨_, rfl⟩ (cat_snoc _ _ _)
        rcases List.mem_append.mp hp' with q | q
        · exact hp p q
        · have : p = (⟨x.cps.extract d r.start⟩, s.toks) := by simpa using q
          rw [this]; exact Nat.le_trans (ext_le _ _ _) hx
      · rw [if_neg hlt]
        have e2 : (x.cps.extract d r.start).toList = [] := by simp; lia
        exact J l s (by lia) hp hD (fun _ _ => rfl) ⟨s.toks, rfl⟩ (by rw [e2]; simp)
end Mine
end
section
open PySem PySem.W PySem.Calls PyProof.Rows PySem.Sre PySem.Builtin.Re
set_option maxRecDepth 100000
set_option linter.unusedVariables false
namespace Mine
theorem slot_sub : Slot "re.Pattern" "sub" "re.Pattern.sub" :=
  .of (owner := "re.Pattern") (n := "sub") (by rw [typeLookup_type, builtinLookup_eq_fast]; kernel_rfl) (by decide +kernel) (by decide +kernel) (by decide +kernel)
    (by first | exact .inl (by decide +kernel) | exact .inr (by decide +kernel)) (by rw [isSubtype_type]; kernel_rfl)
theorem type_sub : typeOf (.builtin "re.Pattern.sub") = pure (.type "method_descriptor") := by show builtinType _ = _; rw [builtinType_eq_fast]; kernel_rfl
theorem entry_sub : entryFor table "re.Pattern.sub" = some Builtin.«re.Pattern.sub» := entryFor_of_tree (by kernel_rfl)
theorem owner_pat : Manifest.owners.lookup (String.ofList ['n', 'r', 'e', 't', 't', 'a', 'P', '.', 'e', 'r'].reverse) = some Manifest.sig_re_Pattern := by kernel_rfl
theorem args_sub (a b c : Value) : argsOk "re.Pattern.sub" ⟨[a, b, c], []⟩ := by
  unfold argsOk; rw [signature?_of (id := "re.Pattern.sub") (n := ['b', 'u', 's']) (o := ['n', 'r', 'e', 't', 't', 'a', 'P', '.', 'e', 'r']) (by kernel_rfl) owner_pat]; kernel_rfl
theorem attrs_pat : PlainAttrs "re.Pattern" :=
  ⟨⟨"object.__getattribute__", by rw [typeLookup_type, builtinLookup_eq_fast]; kernel_rfl, by decide +kernel⟩, by rw [typeLookup_type, builtinLookup_eq_fast]; kernel_rfl⟩
theorem str_no_call : typeLookup (.type "str") "__call__" = pure none := by rw [typeLookup_type, builtinLookup_eq_fast]; kernel_rfl
theorem sub_meets {P : Addr} {code : Array Nat} {x rp : Str} {t u : Tok} {nx : Nat → Option Nat} {ln : Nat → Nat} (S : Srch code x.cps nx ln) (hx : x.cps.size ≤ 200) (hrp : rp.cps.size ≤ 200) (h92 : rp.cps.contains 92 = false) :
    Meets (Builtin.«re.Pattern.sub» ⟨[.ref P, .str rp u, .str x t], []⟩)
      (fun A R s => Pat s.heap P code ∧ ∀ h' tk t', (∀ b o, s.heap.get? b = some o → h'.get? b = some o) → R (.ok (.ret (.str ⟨(subOut nx ln x.cps rp.cps.toList (x.cps.size + 1) 0).toArray⟩ t'))) { s with heap := h', toks := tk }) := fun prog w A R s ⟨pt, hR⟩ => by
  unfold Builtin.«re.Pattern.sub» reSubstitute
  refine wpAny_bind (wpAny_of_eq (a := [some (.str rp u), some (.str x t), none]) rfl ?_)
  show wpAny _ _ (pure (0 : Int) >>= _) _ _ s
  refine wpAny_bind (wpAny_pure ?_)
  show wpAny _ _ (specialOf (.str rp u) "__call__" >>= _) _ _ s
  refine wpAny_bind (wpAny_specialOf (typeIs_str s rp u) str_no_call ?_)
  show wpAny _ _ (asStr? (.str rp u) >>= _) _ _ s
  refine wpAny_bind (wpAny_of_eq (a := some rp) rfl ?_)
  show wpAny _ _ (pure (!rp.cps.contains 92) >>= _) _ _ s
  rw [h92]
  refine wpAny_bind (wpAny_pure ?_)
  show wpAny _ _ (pure (Value.str rp u, (0 : Int)) >>= _) _ _ s
  refine wpAny_bind (wpAny_pure ?_)
  show wpAny _ _ (holding [.str rp u] (reWholeTarget (.ref P) (.str x t)) >>= fun _ => (newList [] >>= fun l => (pure (Fin.again (.builtin "re.Pattern.sub.loop" ⟨[.ref P, .str x t, .str rp u, rawInt 0, rawInt 0, rawInt 0, rawInt 0, rawInt 0, .bool false, l, .bool false], []⟩)) : Sem PySem.Fin))) _ _ s
  refine wpAny_bind (wpAny_holding (whole_target pt ?_))
  refine wpAny_bind (wpAny_newList (wpAny_pure ?_) (Nat.zero_le _))
  refine ⟨plainId_quiet plain_sub_loop _, codeAny_builtin entry_sub_loop ?_⟩
  rw [Around.under_plainId plain_sub_loop _]
  have kp : ∀ b o, s.heap.get? b = some o → (s.heap.push { cls := .type "list", data := .seq ([] : List Value).toArray }).get? b = some o := fun b o e => Heap.get?_push_of_some _ e
  refine sub_loop S hx hrp (x.cps.size + 1) 0 0 [] (by lia) (by lia) (by simp) (by simp) prog w A R _ ⟨?_, ?_, ⟨_, Heap.get?_push_size _ rfl⟩, fun h' tk t' hb => ?_⟩
  · obtain ⟨o, fs, T, oT, its, n, h1, h2, h3, h4, h5, h6, h7, h8, h9, h10⟩ := pt
    exact ⟨o, fs, T, oT, its, n, kp _ _ h1, h2, h3, h4, h5, h6, h7, kp _ _ h8, h9, h10⟩
  · intro o fs T h1 h2 h3 hT
    obtain ⟨o', fs', T', oT, its, n, g1, g2, g3, g4, g5, g6, g7, g8, g9, g10⟩ := pt
    have := kp _ _ g1
    rw [h1] at this; cases this
    rw [h2] at g4; cases g4
    rw [h3] at g6; cases g6
    have := Heap.lt_size g8
    rw [hT] at this; exact Nat.lt_irrefl _ this
  · have := hR h' tk t' fun b o e => by
      rw [hb b (Nat.ne_of_lt (Heap.lt_size e))]
      exact kp b o e
    simpa [cat] using this
/-- a pattern's sub with a plain text -/
theorem c_sub {C : Cx} {d : Nat} {ls : LS} {P : Addr} {code : Array Nat} {x rp : Str} {nx : Nat → Option Nat} {ln : Nat → Nat} (pt : Pat C.hb P code) (S : Srch code x.cps nx ln) (hx : x.cps.size ≤ 200) (hrp : rp.cps.size ≤ 200) (h92 : rp.cps.contains 92 = false) :
    CTo C d (.builtin "re.Pattern.sub") [.ref P, .str rp, .str x] [] ls (.str ⟨(subOut nx ln x.cps rp.cps.toList (x.cps.size + 1) 0).toArray⟩) ls := .of fun A s am vs kv Q E hr R hvs hkv K => by
  cases hkv
  cases hvs with
  | cons h1 h2 => cases h2 with
    | cons h2 h3 => cases h3 with
      | cons h3 h4 =>
        cases h4; cases h1; cases h2; cases h3
        have pt' : Pat s.heap P code := by
          obtain ⟨o, fs, T, oT, its, n, h1, h2, h3, h4, h5, h6, h7, h8, h9, h10⟩ := pt
          exact ⟨o, fs, T, oT, its, n, R.old _ _ h1, h2, h3, h4, h5, h6, h7, R.old _ _ h8, h9, h10⟩
        have hT : s.TypeIs (.ref P) "re.Pattern" := by
          obtain ⟨o, fs, T, oT, its, n, h1, h2, h3, h4, h5, h6, h7, h8, h9, h10⟩ := pt'
          exact ⟨o, h1, h2⟩
        refine call_meets slot_sub hT entry_sub (args_sub _ _ _) (sub_meets S hx hrp h92) ⟨pt', fun h' tk t' hk => ?_⟩
        exact K _ h' tk am (Pre.refl _) (Gr.of_keeps hk) (R.keeps hk) (.str _ _)
end Mine
end
section
open PySem PySem.W PySem.Calls PyProof.Rows PySem.Sre PySem.Builtin.Re
set_option maxRecDepth 100000
set_option linter.unusedVariables false
namespace Mine
theorem next1_lt (text : Array Nat) : ∀ (k s j : Nat), s + k = text.size → next1 text k s = some j → j < text.size ∧ s ≤ j
  | 0, s, j, hk, e => by simp [next1] at e
  | k + 1, s, j, hk, e => by
    rw [next1] at e
    by_cases hh : (at1 text s && text.getD s 0 == 46) = true
    · rw [if_pos hh] at e; cases e; exact ⟨by omega, Nat.le_refl _⟩
    · rw [if_neg hh] at e
      have := next1_lt text k (s + 1) j (by omega) e
      exact ⟨this.1, by omega⟩
def N1 (text : Array Nat) (s : Nat) : Option Nat := next1 text (text.size - s) s
def N2 (text : Array Nat) (s : Nat) : Option Nat := next2 text (text.size - s) s
theorem srch1 (text : Array Nat) (h : text.size ≤ 200) : Srch code1 text (N1 text) (fun _ => 1) where
  go := fun s hs => by
    obtain ⟨n, r, hn, hc, ho⟩ := f1 text s hs
    exact ⟨n, r, by omega, hc, ho⟩
  ok := fun s j hs e => by
    have := next1_lt text _ s j (by omega) e
    exact ⟨this.2, Nat.one_pos, by omega⟩
theorem len2_pos (text : Array Nat) (s : Nat) : 0 < len2 text s := by unfold len2; split <;> omega
theorem len2_le (text : Array Nat) (s : Nat) (h : s < text.size) : s + len2 text s ≤ text.size := by
  by_cases q : (text.getD s 0 == 13 && (decide (s + 1 < text.size) && text.getD (s + 1) 0 == 10)) = true
  · have e : len2 text s = 2 := by unfold len2; rw [if_pos q]
    have q2 := (Bool.and_eq_true _ _ ▸ (Bool.and_eq_true _ _ ▸ q).2).1
    have q3 : s + 1 < text.size := of_decide_eq_true q2
    omega
  · have e : len2 text s = 1 := by unfold len2; rw [if_neg q]
    omega
theorem srch2 (text : Array Nat) : Srch code2 text (N2 text) (len2 text) where
  go := fun s hs => by
    obtain ⟨n, r, hn, hc, ho⟩ := f2 text s hs
    exact ⟨n, r, by omega, hc, ho⟩
  ok := fun s j hs e => by
    have := next2_lt text _ s j (by omega) e
    exact ⟨this.2.2, len2_pos _ _, len2_le _ _ this.1⟩
/-! in plain: texts as lists of signs -/
/-- ends of rows made alike -/
def ends : List Nat → List Nat
  | [] => []
  | 13 :: 10 :: r => 13 :: 10 :: ends r
  | 10 :: r => 13 :: 10 :: ends r
  | 13 :: r => 13 :: 10 :: ends r
  | c :: r => c :: ends r
/-- a dot more ahead of a row's dot; b: at a row's beginning -/
def dots : Bool → List Nat → List Nat
  | _, [] => []
  | b, c :: r => (if b && c == 46 then [46, 46] else [c]) ++ dots (c == 10) r
def quoted (l : List Nat) : List Nat := dots true (ends l)
section
variable {nx : Nat → Option Nat} {ln : Nat → Nat} {t : Array Nat} {rp : List Nat}
theorem ext_cons {d j : Nat} (hd : d < t.size) (hj : d + 1 ≤ j) : (t.extract d j).toList = t.getD d 0 :: (t.extract (d + 1) j).toList := by
  have e : t.getD d 0 = t.toList[d]'(by simpa using hd) := by simp [Array.getD, hd]
  rw [Array.toList_extract, Array.toList_extract, e]
  show (t.toList.drop d).take (j - d) = _ :: (t.toList.drop (d + 1)).take (j - (d + 1))
  rw [List.drop_eq_getElem_cons (by simpa using hd), show j - d = (j - (d + 1)) + 1 by omega, List.take_succ_cons]
theorem sub_step {k d : Nat} (hd : d < t.size) (hn : nx d = nx (d + 1)) (hj : ∀ j, nx (d + 1) = some j → d + 1 ≤ j) : subOut nx ln t rp (k + 1) d = t.getD d 0 :: subOut nx ln t rp (k + 1) (d + 1) := by
  rw [subOut, subOut, hn]
  cases e : nx (d + 1) with
  | none => exact ext_cons hd (by omega)
  | some j =>
    show (t.extract d j).toList ++ rp ++ _ = _
    rw [ext_cons hd (hj j e)]
    rfl
theorem sub_hit {k d : Nat} (hn : nx d = some d) : subOut nx ln t rp (k + 1) d = rp ++ subOut nx ln t rp k (d + ln d) := by
  rw [subOut, hn]
  show (t.extract d d).toList ++ rp ++ _ = _
  have : (t.extract d d).toList = [] := by simp
  rw [this]; rfl
theorem sub_end {k d : Nat} (hn : nx d = none) (hd : t.size ≤ d) : subOut nx ln t rp (k + 1) d = [] := by
  rw [subOut, hn]
  simp; omega
end
theorem next_end2 {text : Array Nat} {d : Nat} (h : text.size ≤ d) : N2 text d = none := by unfold N2; rw [show text.size - d = 0 by omega]; rfl
theorem next_end1 {text : Array Nat} {d : Nat} (h : text.size ≤ d) : N1 text d = none := by unfold N1; rw [show text.size - d = 0 by omega]; rfl
theorem drop_cons (t : Array Nat) (d : Nat) (hd : d < t.size) : t.toList.drop d = t.getD d 0 :: t.toList.drop (d + 1) := by
  have e : t.getD d 0 = t.toList[d]'(by simpa using hd) := by simp [Array.getD, hd]
  rw [e, List.drop_eq_getElem_cons (by simpa using hd)]
theorem drop_end (t : Array Nat) (d : Nat) (hd : t.size ≤ d) : t.toList.drop d = [] := by simp; exact hd
theorem ends_13 (r : List Nat) (h : ∀ r', r ≠ 10 :: r') : ends (13 :: r) = 13 :: 10 :: ends r := by
  cases r with
  | nil => simp [ends]
  | cons c r =>
    by_cases hc : c = 10
    · exact absurd (by rw [hc]) (h r)
    · rw [ends]
      intro r' e
      exact absurd (List.cons.inj e).1 hc
theorem ends_other (c : Nat) (r : List Nat) (h1 : c ≠ 10) (h2 : c ≠ 13) : ends (c :: r) = c :: ends r := by
  rw [ends] <;> (intros; simp_all)
theorem sub2_eq (text : Array Nat) : ∀ (m d k : Nat), text.size - d ≤ m → text.size < d + k → d ≤ text.size → subOut (N2 text) (len2 text) text [13, 10] k d = ends (text.toList.drop d)
  | m, d, 0, hm, hk, hd => by omega
  | 0, d, k + 1, hm, hk, hd => by
    rw [sub_end (nx := N2 text) (next_end2 (by omega)) (by omega), drop_end _ _ (by omega)]; rfl
  | m + 1, d, k + 1, hm, hk, hd => by
    by_cases hlt : d < text.size
    · have hnx : N2 text d = if hit2 text d = true then some d else N2 text (d + 1) := by
        unfold N2
        rw [show text.size - d = (text.size - (d + 1)) + 1 by omega, next2]
      by_cases hh : hit2 text d = true
      · rw [sub_hit (nx := N2 text) (by rw [hnx, if_pos hh]), drop_cons _ _ hlt]
        show [13, 10] ++ subOut _ _ text [13, 10] k (d + len2 text d) = _
        have hl := len2_le text d hlt
        have hp := len2_pos text d
        rw [sub2_eq text m (d + len2 text d) k (by omega) (by omega) hl]
        by_cases h13 : (text.getD d 0 == 13) = true
        · have e13 : text.getD d 0 = 13 := by simpa using h13
          by_cases hn : (decide (d + 1 < text.size) && text.getD (d + 1) 0 == 10) = true
          · have e : len2 text d = 2 := by unfold len2; rw [if_pos (by rw [h13, hn]; rfl)]
            simp only [Bool.and_eq_true, decide_eq_true_eq] at hn
            have e10 : text.getD (d + 1) 0 = 10 := by simpa using hn.2
            rw [e, e13, drop_cons _ _ hn.1, e10]
            rw [ends]; rfl
          · have e : len2 text d = 1 := by unfold len2; rw [if_neg (by rw [h13]; simpa using hn)]
            rw [e, e13, ends_13]
            · rfl
            · intro r' q
              by_cases hl1 : d + 1 < text.size
              · rw [drop_cons _ _ hl1] at q
                have q1 := (List.cons.inj q).1
                exact hn (by simp only [Bool.and_eq_true, decide_eq_true_eq]; exact ⟨hl1, by rw [q1]; rfl⟩)
              · rw [drop_end _ _ (by omega)] at q; cases q
        · have h13' : (text.getD d 0 == 13) = false := by simpa using h13
          have h10 : text.getD d 0 = 10 := by
            unfold hit2 at hh
            rw [h13', Bool.or_false] at hh; simpa using hh
          have e : len2 text d = 1 := by unfold len2; rw [if_neg (by rw [h13', Bool.false_and]; decide)]
          rw [e, h10, ends]; rfl
      · have hh' : hit2 text d = false := by simpa using hh
        rw [sub_step (nx := N2 text) hlt (by rw [hnx, if_neg hh]) fun j e => (next2_lt text (text.size - (d + 1)) _ _ (by omega) e).2.2]
        rw [sub2_eq text m (d + 1) (k + 1) (by omega) (by omega) (by omega), drop_cons _ _ hlt]
        unfold hit2 at hh'
        rw [Bool.or_eq_false_iff] at hh'
        rw [ends_other _ _ (by simpa using hh'.1) (by simpa using hh'.2)]
    · rw [sub_end (nx := N2 text) (next_end2 (by omega)) (by omega), drop_end _ _ (by omega)]; rfl
theorem sub1_eq (text : Array Nat) : ∀ (m d k : Nat), text.size - d ≤ m → text.size < d + k → d ≤ text.size → subOut (N1 text) (fun _ => 1) text [46, 46] k d = dots (at1 text d) (text.toList.drop d)
  | m, d, 0, hm, hk, hd => by omega
  | 0, d, k + 1, hm, hk, hd => by
    rw [sub_end (nx := N1 text) (next_end1 (by omega)) (by omega), drop_end _ _ (by omega)]; rfl
  | m + 1, d, k + 1, hm, hk, hd => by
    by_cases hlt : d < text.size
    · have hnx : N1 text d = if (at1 text d && text.getD d 0 == 46) = true then some d else N1 text (d + 1) := by
        unfold N1
        rw [show text.size - d = (text.size - (d + 1)) + 1 by omega, next1]
      have hat : at1 text (d + 1) = (text.getD d 0 == 10) := by
        unfold at1
        rw [show (d + 1 == 0) = false by rfl, Bool.false_or]; rfl
      rw [drop_cons _ _ hlt, dots]
      by_cases hh : (at1 text d && text.getD d 0 == 46) = true
      · rw [sub_hit (nx := N1 text) (by rw [hnx, if_pos hh]), if_pos hh]
        rw [sub1_eq text m (d + 1) k (by omega) (by omega) (by omega), hat]
      · rw [sub_step (nx := N1 text) hlt (by rw [hnx, if_neg hh]) fun j e => (next1_lt text (text.size - (d + 1)) _ _ (by omega) e).2, if_neg hh]
        rw [sub1_eq text m (d + 1) (k + 1) (by omega) (by omega) (by omega), hat]
        rfl
    · rw [sub_end (nx := N1 text) (next_end1 (by omega)) (by omega), drop_end _ _ (by omega)]; rfl
section
variable {C : Cx} {d : Nat} {ls : LS} {P : Addr}
theorem c_sub2 (pt : Pat C.hb P code2) {x rp : Str} (hrp : rp.cps = #[13, 10]) (hx : x.cps.size ≤ 200) : CTo C d (.builtin "re.Pattern.sub") [.ref P, .str rp, .str x] [] ls (.str ⟨(ends x.cps.toList).toArray⟩) ls := by
  have := c_sub (d := d) (ls := ls) (rp := rp) pt (srch2 x.cps) hx (by rw [hrp]; decide) (by rw [hrp]; simp)
  rw [hrp, sub2_eq x.cps x.cps.size 0 _ (by omega) (by omega) (by omega), List.drop_zero] at this
  exact this
theorem c_sub1 (pt : Pat C.hb P code1) {x rp : Str} (hrp : rp.cps = #[46, 46]) (hx : x.cps.size ≤ 200) : CTo C d (.builtin "re.Pattern.sub") [.ref P, .str rp, .str x] [] ls (.str ⟨(dots true x.cps.toList).toArray⟩) ls := by
  have := c_sub (d := d) (ls := ls) (rp := rp) pt (srch1 x.cps hx) hx (by rw [hrp]; decide) (by rw [hrp]; simp)
  rw [hrp, sub1_eq x.cps x.cps.size 0 _ (by omega) (by omega) (by omega), List.drop_zero] at this
  exact this
end
end Mine
end
section
open PySem PySem.W PySem.Calls PyProof.Rows
set_option maxRecDepth 100000
set_option linter.unusedVariables false
namespace Mine
/-! facts of a block that is known by an equation alone -/
section
variable {e0 env env1 : Env} {sc sc' : Scope} {Lc : Addr} {cl : List (Str × Addr)} {x : Str}
theorem kind_at {k : Option NameKind} (h : e0 = env) (p : e0.kindOf x = k) : env.kindOf x = k := h ▸ p
theorem kind_at2 {k : Option NameKind} (h1 : cenvOf sc env Lc cl = env1) (h : e0 = env) (p : (cenvOf sc e0 Lc cl).kindOf x = k) : env1.kindOf x = k := by subst h; subst h1; exact p
theorem rel_at {k : Option NameKind} (h : e0 = env) (p : (relabel sc e0).names.lookup x = k) : (relabel sc env).names.lookup x = k := h ▸ p
theorem clos_at {r : Sem (List (Str × Addr))} (h : e0 = env) (p : closureFor sc e0 = r) : closureFor sc env = r := h ▸ p
theorem swap_at {e : Expr} {t : Option Expr} {n : Nat} {r : Sem Bool} (h : e0 = env) (p : swapsWith e t n e0 = r) : swapsWith e t n env = r := h ▸ p
theorem inter_at {b : Bool} (h : e0 = env) (p : interactive e0 = b) : interactive env = b := h ▸ p
theorem cell_at {c : Option Addr} (h : e0 = env) (p : e0.cells.lookup x = c) : env.cells.lookup x = c := h ▸ p
end
theorem vlen1 {α : Type} : ∀ {l : List α}, l.length = 1 → ∃ a, l = [a]
  | [a], _ => ⟨a, rfl⟩
theorem lenS {α : Type} {n : Nat} : ∀ {l : List α}, l.length = n + 1 → ∃ a t, l = a :: t ∧ t.length = n
  | a :: t, h => ⟨a, t, rfl, Nat.succ.inj h⟩
theorem vlen2 {α : Type} {l : List α} (h : l.length = 2) : ∃ a b, l = [a, b] := by
  obtain ⟨a, t, rfl, k⟩ := lenS h
  obtain ⟨b, rfl⟩ := vlen1 k
  exact ⟨a, b, rfl⟩
theorem vlen3 {α : Type} {l : List α} (h : l.length = 3) : ∃ a b c, l = [a, b, c] := by
  obtain ⟨a, t, rfl, k⟩ := lenS h
  obtain ⟨b, c, rfl⟩ := vlen2 k
  exact ⟨a, b, c, rfl⟩
theorem vlen4 {α : Type} {l : List α} (h : l.length = 4) : ∃ a b c d, l = [a, b, c, d] := by
  obtain ⟨a, t, rfl, k⟩ := lenS h
  obtain ⟨b, c, d, rfl⟩ := vlen3 k
  exact ⟨a, b, c, d, rfl⟩
end Mine
end
section
open PySem PySem.W PySem.Calls PyProof.Rows
set_option maxRecDepth 100000
set_option linter.unusedVariables false
set_option maxHeartbeats 4000000
namespace Mine
abbrev KIn (C : Cx) : Prop := (hd.heap_39 C.w.params).In C.hb
def tab : List (Str × Value) := [("insort_right", .ref 40), ("bisect_right", .ref 49), ("bisect_left", .ref 58), ("rgb_to_hsv", .ref 65), ("hsv_to_rgb", .ref 72), ("_twin_re_1", .ref 77), ("_twin_re_2", .ref 82), ("quotedata", .ref 89),
  ("_law_mail", .ref 96), ("_law_stream", .ref 103), ("_law_rows", .ref 110), ("_law_marks", .ref 115), ("_law_place", .ref 122), ("_law_heard", .ref 127), ("_law_hue", .ref 134), ("_law_told", .ref 141)]
def btab : List (Str × Value) := [("max", .builtin "max"), ("min", .builtin "min"), ("len", .builtin "len"), ("sum", .builtin "sum"), ("sorted", .builtin "sorted"), ("range", .type "range"), ("int", .type "int"), ("zip", .type "zip"), ("enumerate", .type "enumerate")]
structure G2 (C : Cx) : Prop where
  ok : C.Ok
  k : KIn C
  mg : ∀ x v, tab.lookup x = some v → C.mg x = some v
  mb : ∀ x v, btab.lookup x = some v → C.mg x = none ∧ C.mb x = some v
  crlf : ∃ t, C.mg "CRLF" = some (.str "\r\n" t)
section
variable {C : Cx} {env : Env} {d : Nat} {ρ ρ1 ρ2 : Loc} {ls ls1 ls2 ls3 : LS} {p q r : PV} {ps qs : List PV}
theorem g_glob (g : G2 C) {x : Str} {v : Value} {pos : Pos} (hv : tab.lookup x = some v) (hf : Fix p v) (hk : env.kindOf x = some .globalImplicit) (hd : (x == ("__debug__" : Str)) = false) : ETo C env d (eval (.Name x pos) env) ρ ls p ls := e_glob g.ok (g.mg x v hv) hf hk hd
theorem g_blt (g : G2 C) {x : Str} {v : Value} {pos : Pos} (hv : btab.lookup x = some v) (hf : Fix p v) (hk : env.kindOf x = some .globalImplicit) (hd : (x == ("__debug__" : Str)) = false) : ETo C env d (eval (.Name x pos) env) ρ ls p ls := e_blt g.ok (g.mb x v hv).1 (g.mb x v hv).2 hf hk hd
theorem RTo.to {t : Sem Flow} (h : RTo C env d t ρ ls p ls1) (e : p = q) : RTo C env d t ρ ls q ls1 := e ▸ h
theorem r_ifT {t : Expr} {body rest : List Stmt} {pos : Pos} {b : Bool} (ht : BTo C env d (isTrue t env (eval t env)) ρ ls b ls1) (hb : b = true) (h1 : XTo C env d (execs body env) ρ ls1 (.ret p) ρ1 ls2) : RTo C env d (execs (.If t body [] pos :: rest) env) ρ ls p ls2 :=
  r_if ht (fun _ => h1) fun e => by rw [hb] at e; cases e
theorem r_ifF {t : Expr} {body rest : List Stmt} {pos : Pos} {b : Bool} (ht : BTo C env d (isTrue t env (eval t env)) ρ ls b ls1) (hb : b = false) (h1 : RTo C env d (execs rest env) ρ ls1 p ls2) : RTo C env d (execs (.If t body [] pos :: rest) env) ρ ls p ls2 :=
  r_if (ρ1 := []) ht (fun e => by rw [hb] at e; cases e) fun _ => h1
theorem x_ifT {t : Expr} {body orelse : List Stmt} {pos : Pos} {b : Bool} {f : PF} (ht : BTo C env d (isTrue t env (eval t env)) ρ ls b ls1) (hb : b = true) (h1 : XTo C env d (execs body env) ρ ls1 f ρ1 ls2) : XTo C env d (exec (.If t body orelse pos) env) ρ ls f ρ1 ls2 :=
  x_if ht (fun _ => h1) fun e => by rw [hb] at e; cases e
theorem x_ifF {t : Expr} {body orelse : List Stmt} {pos : Pos} {b : Bool} {f : PF} (ht : BTo C env d (isTrue t env (eval t env)) ρ ls b ls1) (hb : b = false) (h1 : XTo C env d (execs orelse env) ρ ls1 f ρ1 ls2) : XTo C env d (exec (.If t body orelse pos) env) ρ ls f ρ1 ls2 :=
  x_if ht (fun e => by rw [hb] at e; cases e) fun _ => h1
end
def Fn (C : Cx) (fa : Addr) : Prop := ∃ o fd, C.hb.get? fa = some o ∧ o.data = .func fd
section
variable {C : Cx} {env : Env} {d : Nat} {ρ ρ1 ρ2 : Loc} {ls ls1 ls2 ls3 : LS} {p q r : PV} {ps qs : List PV}
theorem e_callF {fn : Str} {fp pos : Pos} {e : Expr} {args : List Expr} {fa : Addr} (hf : ETo C env d (eval (.Name fn fp) env) ρ ls (.ref fa) ls) (hfn : Fn C fa)
    (ha : LTo C env d (spliced (backTo pos (starEach (e :: args) env))) ρ ls ps ls1) (hc : CTo C d (.ref fa) ps [] ls1 p ls2) (he : starEach (e :: args) env = (false, eval e env) :: starEach args env) :
    ETo C env d (eval (.Call (.Name fn fp) (e :: args) [] pos) env) ρ ls p ls2 := by
  obtain ⟨o, fd, h1, h2⟩ := hfn
  exact e_call hf h1 h2 ha hc he
theorem fn65 (g : G2 C) : Fn C 65 := ⟨_, _, g.k _ _ (by with_unfolding_all rfl), by with_unfolding_all rfl⟩
theorem fn72 (g : G2 C) : Fn C 72 := ⟨_, _, g.k _ _ (by with_unfolding_all rfl), by with_unfolding_all rfl⟩
end
end Mine
end
open PySem PySem.W PySem.Calls PyProof.Rows Mine
local macro_rules | `(tactic| walk_at "m-op") => `(tactic| with_reducible first
  | exact o_add_int | exact o_sub_int | exact o_lt_int | exact o_gt_int | exact o_eq_int | exact o_add_flt | exact o_sub_flt | exact o_mul_flt | exact o_eq_flt | exact o_lt_flt
  | exact o_is_none | exact o_is_ref _ | exact o_eq_str | exact o_ne_str
  | exact o_div_flt (by assumption) | exact o_div_flt (by decide +kernel) | exact o_mod_flt (by decide +kernel) | exact o_sub_fi (by assumption) | exact o_mod_int (by decide) | exact o_fdiv_int (by decide) (by decide) | exact o_div_int (by decide) (by assumption) | assumption
  | exact o_muls (by lia) | exact o_cat (by (simp only [List.length_append, List.length_replicate, List.length_cons, List.length_nil]; lia)))
local macro_rules | `(tactic| walk_at "m-tail") => `(tactic| first
  | ((with_reducible apply t_tup); (case hn => exact trivial); (case hj => exact rfl); (case hx => exact rfl); (case hlo => decide); (case hhi => decide))
  | ((with_reducible apply t_lstN); (case hn => exact trivial); (case hl => assumption); (case hx => assumption); (case hhi => lia)))
local macro_rules | `(tactic| walk_at "m-env") => `(tactic| first | (apply kind_at2; assumption; assumption; exact rfl) | (apply kind_at; assumption; exact rfl))
local macro_rules | `(tactic| walk_at "m-look") => `(tactic| with_reducible (repeat (first | exact lk_hit _ _ _ | exact lc_hit _ _ _ | exact lz_hit _ _ _ _ | assumption | (apply lk_miss (by simp)) | (apply lc_miss (by simp)) | (apply lz_miss (by simp)))))
local macro_rules | `(tactic| walk_at "m-name") => `(tactic| first
  | ((with_reducible apply e_name); (case hp => walk_at "m-look"); (case hk => walk_at "m-env"); (case hd => exact rfl))
  | ((with_reducible apply e_cell); (case hp => walk_at "m-look"); (case hk => walk_at "m-env"); (case hd => exact rfl))
  | ((with_reducible apply g_glob); (case g => assumption); (case hv => exact rfl); (case hf => first | exact fix_ref _ | exact fix_bi _ | exact fix_ty _); (case hk => walk_at "m-env"); (case hd => exact rfl))
  | ((with_reducible apply g_blt); (case g => assumption); (case hv => exact rfl); (case hf => first | exact fix_ref _ | exact fix_bi _ | exact fix_ty _); (case hk => walk_at "m-env"); (case hd => exact rfl)))
local macro_rules | `(tactic| walk_at "m-asg") => `(tactic| ((with_reducible apply x_assign); (case hk => walk_at "m-env"); (case hs => exact rfl)))
local macro_rules | `(tactic| walk_at "m-call") => `(tactic| first
  | ((with_reducible apply e_callB); (case hf => walk_at "m-name"); (case he => exact rfl); (case hp => exact rfl))
  | ((with_reducible apply e_callT); (case hf => walk_at "m-name"); (case he => exact rfl); (case hp => exact rfl))
  | ((with_reducible apply e_callF); (case hf => walk_at "m-name"); (case hfn => assumption); (case he => exact rfl)))
local macro_rules | `(tactic| walk_at "m1") => `(tactic| first
  | with_reducible apply e_bin
  | walk_at "m-name"
  | with_reducible first | exact e_int | exact e_flt | exact e_lit (by assumption) | exact e_str | exact e_none | exact e_bool | exact l_nil | exact x_nil | apply e_sub | apply e_tup | apply e_list | apply r_return | apply x_ret | apply x_return
  | walk_at "m-call"
  | ((with_reducible show V2To _ _ _ _ _ _ _ _); first | walk_at "m-op" | walk_at "m-tail")
  | ((with_reducible apply r_cons); (case' h1 => walk_at "m-asg"))
  | ((with_reducible apply x_cons); (case' h1 => walk_at "m-asg"))
  | walk_at "m-asg"
  | ((with_reducible apply l_cons); (case he => exact rfl))
  | ((with_reducible apply b_cmp); (case hm => exact rfl))
  | ((with_reducible show CTo _ _ _ _ _ _ _ _); with_reducible first | exact c_max3 | exact c_min3 | exact c_int_flt (by assumption) | assumption))
local macro_rules | `(tactic| walk_at "m-fit") => `(tactic| ((with_reducible show List.length _ ≤ sizeLine); simp only [List.length_cons, List.length_nil]; decide))
local macro_rules | `(tactic| walk_at "m") => `(tactic| ((repeat' walk_at "m1"); (all_goals (try walk_at "m-fit"))))
section
open PySem PySem.W PySem.Calls PyProof.Rows
set_option maxRecDepth 100000
set_option linter.unusedVariables false
set_option maxHeartbeats 4000000
namespace Mine
/-! colorsys -/
theorem rgb_spec {C : Cx} {d : Nat} {ls : LS} (g2 : G2 C) {r g b : UInt64} (hh : Hued r g b) : CTo C (d + 1) (.ref 65) [.flt r, .flt g, .flt b] [] ls (t3 (rgbHue r g b) (rgbSat r g b) (fmax r g b)) ls := by
  refine c_def (xs := ["r", "g", "b"]) g2.ok (g2.k _ _ (by with_unfolding_all rfl)) (by with_unfolding_all rfl) ?hcd (by with_unfolding_all rfl) ?hbind (by rfl) ?hkind (by decide) (by rfl) (by rfl) (by rfl) ?_
  case hcd => exact codeRec_of g2.k (by with_unfolding_all rfl)
  case hbind =>
    intro vs hl
    obtain ⟨a, b, c, rfl⟩ := vlen3 hl
    rfl
  case hkind => intro L; rfl
  intro L
  generalize he : callEnvC _ L 65 = env
  have z1 := hh.z1
  have z2 := hh.z2
  walk_at "m"
  with_reducible apply r_ifF
  · walk_at "m"
  · exact hh.ne
  walk_at "m"
  cases h1 : (Float64.cmp r (fmax r g b) == some Ordering.eq) with
  | true =>
    refine RTo.to (p := t3 (Float64.divmod (Float64.div (Float64.sub (rgbC r g b b) (rgbC r g b g)) 0x4018000000000000) 0x3ff0000000000000).2 (Float64.div (rgbR r g b) (fmax r g b)) (fmax r g b)) ?_ (by unfold rgbHue rgbSat rgbH; rw [if_pos h1])
    with_reducible apply r_cons
    · with_reducible apply x_ifT
      · walk_at "m"
      · exact h1
      · walk_at "m"
    · walk_at "m"
  | false =>
    cases h2 : (Float64.cmp g (fmax r g b) == some Ordering.eq) with
    | true =>
      refine RTo.to (p := t3 (Float64.divmod (Float64.div (Float64.sub (Float64.add 0x4000000000000000 (rgbC r g b r)) (rgbC r g b b)) 0x4018000000000000) 0x3ff0000000000000).2 (Float64.div (rgbR r g b) (fmax r g b)) (fmax r g b)) ?_ (by unfold rgbHue rgbSat rgbH; rw [if_neg (by rw [h1]; decide), if_pos h2])
      with_reducible apply r_cons
      · with_reducible apply x_ifF
        · walk_at "m"
        · exact h1
        · with_reducible apply x_cons
          · with_reducible apply x_ifT
            · walk_at "m"
            · exact h2
            · walk_at "m"
          · walk_at "m"
      · walk_at "m"
    | false =>
      refine RTo.to (p := t3 (Float64.divmod (Float64.div (Float64.sub (Float64.add 0x4010000000000000 (rgbC r g b g)) (rgbC r g b r)) 0x4018000000000000) 0x3ff0000000000000).2 (Float64.div (rgbR r g b) (fmax r g b)) (fmax r g b)) ?_ (by unfold rgbHue rgbSat rgbH; rw [if_neg (by rw [h1]; decide), if_neg (by rw [h2]; decide)])
      with_reducible apply r_cons
      · with_reducible apply x_ifF
        · walk_at "m"
        · exact h1
        · with_reducible apply x_cons
          · with_reducible apply x_ifF
            · walk_at "m"
            · exact h2
            · walk_at "m"
          · walk_at "m"
      · walk_at "m"

/-! hsv_to_rgb -/
theorem hsv_spec {C : Cx} {d : Nat} {ls : LS} (g2 : G2 C) {h s v : UInt64} {sg : Bool} {m : Nat} {e : Int} (hs : (Float64.cmp s 0x0000000000000000 == some Ordering.eq) = false) (hd : Float64.decode (Float64.mul h 0x4018000000000000) = .fin sg m e)
    (hb : (Float64.truncOf sg m e).natAbs < 2 ^ 1023) : CTo C (d + 1) (.ref 72) [.flt h, .flt s, .flt v] [] ls (ft (hsvPick ((Float64.truncOf sg m e).fmod 6) (Float64.sub (Float64.mul h 0x4018000000000000) (Float64.ofInt (Float64.truncOf sg m e))) s v)) ls := by
  have h1 : 0 ≤ (Float64.truncOf sg m e).fmod 6 := Int.fmod_nonneg_of_pos _ (by decide)
  have h2 : (Float64.truncOf sg m e).fmod 6 < 6 := Int.fmod_lt_of_pos _ (by decide)
  refine c_def (xs := ["h", "s", "v"]) g2.ok (g2.k _ _ (by with_unfolding_all rfl)) (by with_unfolding_all rfl) ?hcd (by with_unfolding_all rfl) ?hbind (by rfl) ?hkind (by decide) (by rfl) (by rfl) (by rfl) ?_
  case hcd => exact codeRec_of g2.k (by with_unfolding_all rfl)
  case hbind =>
    intro vs hl
    obtain ⟨a, b, c, rfl⟩ := vlen3 hl
    rfl
  case hkind => intro L; rfl
  intro L
  generalize he : callEnvC _ L 72 = env
  with_reducible apply r_ifF
  · walk_at "m"
  · exact hs
  walk_at "m"
  generalize (Float64.truncOf sg m e).fmod 6 = i at h1 h2 ⊢
  have hi : i = 0 ∨ i = 1 ∨ i = 2 ∨ i = 3 ∨ i = 4 ∨ i = 5 := by lia
  rcases hi with rfl | rfl | rfl | rfl | rfl | rfl
  · refine RTo.to (p := t3 v (hsvT (Float64.sub (Float64.mul h 0x4018000000000000) (Float64.ofInt (Float64.truncOf sg m e))) s v) (hsvP s v)) ?_ rfl
    with_reducible apply r_ifT
    · walk_at "m"
    · rfl
    · walk_at "m"
  · refine RTo.to (p := t3 (hsvQ (Float64.sub (Float64.mul h 0x4018000000000000) (Float64.ofInt (Float64.truncOf sg m e))) s v) v (hsvP s v)) ?_ rfl
    with_reducible apply r_ifF
    · walk_at "m"
    · rfl
    with_reducible apply r_ifT
    · walk_at "m"
    · rfl
    · walk_at "m"
  · refine RTo.to (p := t3 (hsvP s v) v (hsvT (Float64.sub (Float64.mul h 0x4018000000000000) (Float64.ofInt (Float64.truncOf sg m e))) s v)) ?_ rfl
    with_reducible apply r_ifF
    · walk_at "m"
    · rfl
    with_reducible apply r_ifF
    · walk_at "m"
    · rfl
    with_reducible apply r_ifT
    · walk_at "m"
    · rfl
    · walk_at "m"
  · refine RTo.to (p := t3 (hsvP s v) (hsvQ (Float64.sub (Float64.mul h 0x4018000000000000) (Float64.ofInt (Float64.truncOf sg m e))) s v) v) ?_ rfl
    with_reducible apply r_ifF
    · walk_at "m"
    · rfl
    with_reducible apply r_ifF
    · walk_at "m"
    · rfl
    with_reducible apply r_ifF
    · walk_at "m"
    · rfl
    with_reducible apply r_ifT
    · walk_at "m"
    · rfl
    · walk_at "m"
  · refine RTo.to (p := t3 (hsvT (Float64.sub (Float64.mul h 0x4018000000000000) (Float64.ofInt (Float64.truncOf sg m e))) s v) (hsvP s v) v) ?_ rfl
    with_reducible apply r_ifF
    · walk_at "m"
    · rfl
    with_reducible apply r_ifF
    · walk_at "m"
    · rfl
    with_reducible apply r_ifF
    · walk_at "m"
    · rfl
    with_reducible apply r_ifF
    · walk_at "m"
    · rfl
    with_reducible apply r_ifT
    · walk_at "m"
    · rfl
    · walk_at "m"
  · refine RTo.to (p := t3 v (hsvP s v) (hsvQ (Float64.sub (Float64.mul h 0x4018000000000000) (Float64.ofInt (Float64.truncOf sg m e))) s v)) ?_ rfl
    with_reducible apply r_ifF
    · walk_at "m"
    · rfl
    with_reducible apply r_ifF
    · walk_at "m"
    · rfl
    with_reducible apply r_ifF
    · walk_at "m"
    · rfl
    with_reducible apply r_ifF
    · walk_at "m"
    · rfl
    with_reducible apply r_ifF
    · walk_at "m"
    · rfl
    with_reducible apply r_ifT
    · walk_at "m"
    · rfl
    · walk_at "m"
/-- a colour of the wheel, as its three floats -/
def colF (c : Nat) (n a b : Int) : List UInt64 := (colI c n a b).map fun k => fl k (cE c)
theorem hsv_col {C : Cx} {d : Nat} {ls : LS} (g2 : G2 C) {c : Nat} {n a b : Int} (h : ColOk c n a b) : CTo C (d + 1) (.ref 72) [.flt (fl n c), .flt (fl a 2), .flt (fl b 2)] [] ls (ft (colF c n a b)) ls := by
  obtain ⟨m, e, h1, h2⟩ := h.int
  have ha := h.a
  have hF := h.F
  have z := hsv_spec (d := d) (ls := ls) g2 (h := fl n c) (s := fl a 2) (v := fl b 2) (by
    have e0 : (0x0000000000000000 : UInt64) = fl 0 2 := by decide +kernel
    rw [e0, fl_cmp (fitS (by omega) (by decide)) (fitS (by decide) (by decide)), cmp_eq]
    exact decide_eq_false (by omega)) h1 (by
    rw [h2]
    have : (6 : Nat) < 2 ^ 1023 := Nat.lt_of_lt_of_le (by decide : (6 : Nat) < 2 ^ 3) (Nat.pow_le_pow_right (by decide) (by decide))
    omega)
  rw [h2, h.pick] at z
  exact z
theorem rgb_col {C : Cx} {d : Nat} {ls : LS} (g2 : G2 C) {c : Nat} {n a b x y z : Int} (h : ColOk c n a b) (hx : colI c n a b = [x, y, z]) : CTo C (d + 1) (.ref 65) [.flt (fl x (cE c)), .flt (fl y (cE c)), .flt (fl z (cE c))] [] ls (t3 (fl n c) (fl a 2) (fl b 2)) ls := by
  obtain ⟨h1, h2, h3, h4⟩ := h.back hx
  have z := rgb_spec (d := d) (ls := ls) g2 h1
  rw [h2, h3, h4] at z
  exact z
end Mine
end
section
open PySem PySem.W PySem.Calls PyProof.Rows
set_option maxRecDepth 100000
set_option linter.unusedVariables false
set_option maxHeartbeats 4000000
namespace Mine
theorem hue_spec {C : Cx} {d : Nat} {ls : LS} (g2 : G2 C) {r g b : UInt64} (hh : Hued r g b) : CTo C (d + 2) (.ref 134) [t3 r g b] [] ls (.flt (rgbHue r g b)) ls := by
  refine c_def (xs := ["colour"]) g2.ok (g2.k _ _ (by with_unfolding_all rfl)) (by with_unfolding_all rfl) ?hcd (by with_unfolding_all rfl) ?hbind (by rfl) ?hkind (by decide) (by rfl) (by rfl) (by rfl) ?_
  case hcd => exact codeRec_of g2.k (by with_unfolding_all rfl)
  case hbind =>
    intro vs hl
    obtain ⟨a, rfl⟩ := vlen1 hl
    rfl
  case hkind => intro L; rfl
  intro L
  generalize he : callEnvC _ L 134 = env
  have hc := rgb_spec (d := d) (ls := ls) g2 hh
  have hf := fn65 g2
  with_reducible apply r_return
  with_reducible apply e_sub
  · with_reducible apply e_callF
    case hf => walk_at "m-name"
    case hfn => exact hf
    case he => exact rfl
    case hc => exact hc
    case ha => walk_at "m"
  · walk_at "m"
  · walk_at "m"

end Mine
end
section
open PySem PySem.W PySem.Calls PyProof.Rows
set_option maxRecDepth 100000
set_option linter.unusedVariables false
set_option maxHeartbeats 4000000
namespace Mine
section
variable {C : Cx} {env : Env} {d : Nat} {ρ ρ1 ρ2 : Loc} {ls ls1 ls2 ls3 : LS} {p q r : PV} {ps qs : List PV}
theorem pat77 (g : G2 C) : Pat C.hb 77 code1 := ⟨_, _, 76, _, _, _, g.k _ _ (by with_unfolding_all rfl), by with_unfolding_all rfl, by with_unfolding_all rfl, by with_unfolding_all rfl, by with_unfolding_all rfl, by with_unfolding_all rfl, by with_unfolding_all rfl, g.k _ _ (by with_unfolding_all rfl), by with_unfolding_all rfl, by with_unfolding_all rfl⟩
theorem pat82 (g : G2 C) : Pat C.hb 82 code2 := ⟨_, _, 81, _, _, _, g.k _ _ (by with_unfolding_all rfl), by with_unfolding_all rfl, by with_unfolding_all rfl, by with_unfolding_all rfl, by with_unfolding_all rfl, by with_unfolding_all rfl, by with_unfolding_all rfl, g.k _ _ (by with_unfolding_all rfl), by with_unfolding_all rfl, by with_unfolding_all rfl⟩
theorem ty_pat {P : Addr} {code : Array Nat} (pt : Pat C.hb P code) : ∀ am h tk v (s : Shared), s.heap = h → Rep C am ls h tk → RV am h (.ref P) v → s.TypeIs v "re.Pattern" ∧ (∀ a, v = .ref a → ∃ ob, h.get? a = some ob ∧ ob.dict = none) := fun am h tk v s e R hv => by
  cases hv
  obtain ⟨o, fs, T, oT, its, n, h1, h2, h3, _⟩ := pt
  subst e
  exact ⟨⟨o, R.old _ _ h1, h2⟩, fun a ea => by cases ea; exact ⟨o, R.old _ _ h1, h3⟩⟩
end
theorem ends_len : ∀ (l : List Nat), (ends l).length ≤ 2 * l.length
  | [] => by simp [ends]
  | c :: r => by
    have ih := ends_len r
    by_cases h1 : c = 10
    · subst h1; rw [ends]; simp; lia
    · by_cases h2 : c = 13
      · subst h2
        cases r with
        | nil => simp [ends]
        | cons e r =>
          by_cases h3 : e = 10
          · subst h3
            have ih2 := ends_len r
            rw [ends]; simp; lia
          · rw [ends_13 _ (by intro r' q; exact h3 (List.cons.inj q).1)]
            simp at ih ⊢; lia
      · rw [ends_other c r h1 h2]; simp; lia
termination_by l => l.length
theorem quote_spec {C : Cx} {d : Nat} {ls : LS} (g2 : G2 C) {x : Str} (hx : x.cps.size ≤ 100) : CTo C (d + 1) (.ref 89) [.str x] [] ls (.str ⟨(quoted x.cps.toList).toArray⟩) ls := by
  refine c_def (xs := ["data"]) g2.ok (g2.k _ _ (by with_unfolding_all rfl)) (by with_unfolding_all rfl) ?hcd (by with_unfolding_all rfl) ?hbind (by rfl) ?hkind (by decide) (by rfl) (by rfl) (by rfl) ?_
  case hcd => exact codeRec_of g2.k (by with_unfolding_all rfl)
  case hbind =>
    intro vs hl
    obtain ⟨a, rfl⟩ := vlen1 hl
    rfl
  case hkind => intro L; rfl
  intro L
  generalize he : callEnvC _ L 89 = env
  have hz : (ends x.cps.toList).length ≤ 200 := by
    have := ends_len x.cps.toList
    have e : x.cps.toList.length = x.cps.size := Array.length_toList
    rw [e] at this
    exact Nat.le_trans this (by lia)
  have c2 := c_sub2 (d := d) (ls := ls) (pat82 g2) (x := x) (rp := "\r\n") (by decide +kernel) (by lia)
  have c1 := c_sub1 (d := d) (ls := ls) (pat77 g2) (x := ⟨(ends x.cps.toList).toArray⟩) (rp := "..") (by decide +kernel) (by simpa using hz)
  obtain ⟨tc, hcr⟩ := g2.crlf
  with_reducible apply r_return
  refine e_meth (p := .ref 77) (ls1 := ls) (ls2 := ls) ?_ (ty_pat (pat77 g2)) attrs_pat slot_sub type_sub ?_ c1 rfl rfl rfl rfl rfl
  · walk_at "m"
  refine l_cons (ls1 := ls) ?_ (l_cons (ls1 := ls) ?_ l_nil rfl) rfl
  · walk_at "m"
  refine e_meth (p := .ref 82) (ls1 := ls) (ls2 := ls) ?_ (ty_pat (pat82 g2)) attrs_pat slot_sub type_sub ?_ c2 rfl rfl rfl rfl rfl
  · walk_at "m"
  refine l_cons (ls1 := ls) ?_ (l_cons (ls1 := ls) ?_ l_nil rfl) rfl
  · exact e_glob g2.ok hcr (fix_str _ _) (by first | exact kind_at2 he1 he rfl | exact kind_at he rfl | exact rel_at he rfl | exact clos_at he rfl | exact swap_at he rfl | exact inter_at he rfl | exact cell_at he rfl | exact kind_atc he rfl) rfl
  · walk_at "m"
end Mine
end
section
open PySem PySem.W PySem.Calls PyProof.Rows
set_option maxRecDepth 100000
set_option linter.unusedVariables false
set_option maxHeartbeats 4000000
namespace Mine
theorem mid_of {lo hi : Nat} (h : lo < hi) : ((lo : Int) + (hi : Int)).fdiv 2 = ((lo + hi) / 2 : Nat) := by
  rw [Int.fdiv_eq_ediv_of_nonneg _ (by decide)]; lia
/-- the parts of bisect_right's contract that do not hang on how it is called -/
theorem bisR_core {C : Cx} {d : Nat} {ls : LS} (g2 : G2 C) {n : Nat} {l : List PV} {x : PV} {ka : Addr} {k : Nat} {ps : List PV} (hfn : Fn C ka) (hn : ls[n]? = some l) (hk : k ≤ l.length) (hz : l.length < 2 ^ 60)
    (hkey : ∀ i p, l[i]? = some p → ∃ r, CTo C d (.ref ka) [p] [] ls r ls ∧ V2To C d x r (compareOp .Lt) ls (.bool (decide (k ≤ i))) ls)
    (hps : ps = [.lst n, x] ∨ ps = [.lst n, x, .int 0, .none]) : CTo C (d + 1) (.ref 49) ps [("key", .ref ka)] ls (.int k) ls := by
  refine c_defK (ρ0 := [("a", .lst n), ("x", x), ("lo", .int 0), ("hi", .none), ("key", .ref ka)]) g2.ok (g2.k _ _ (by with_unfolding_all rfl)) (by with_unfolding_all rfl) ?hcd (by with_unfolding_all rfl) ?hbind (by decide) (by simp only [List.map_cons, List.map_nil]; decide) (by simp only [List.map_cons, List.map_nil]; decide) (by rfl) (by rfl) (by rfl) ?_
  case hcd => exact codeRec_of g2.k (by with_unfolding_all rfl)
  case hbind =>
    intro s am vs kv keep hvs hkv
    cases hkv with
    | cons hkey hkv =>
      cases hkv
      rcases hps with rfl | rfl
      · cases hvs with
        | cons h1 hvs => cases hvs with
          | cons h2 hvs =>
            cases hvs
            refine ⟨_, binds_K (fun a o e => keep a o (g2.k a o e)) (by with_unfolding_all rfl) (by with_unfolding_all rfl) (by with_unfolding_all rfl) (by with_unfolding_all rfl) (by with_unfolding_all rfl), ?_⟩
            exact .cons h1 (.cons h2 (.cons (.int _ _) (.cons .none (.cons hkey .nil))))
      · cases hvs with
        | cons h1 hvs => cases hvs with
          | cons h2 hvs => cases hvs with
            | cons h3 hvs => cases hvs with
              | cons h4 hvs =>
                cases hvs
                refine ⟨_, binds_K (fun a o e => keep a o (g2.k a o e)) (by with_unfolding_all rfl) (by with_unfolding_all rfl) (by with_unfolding_all rfl) (by with_unfolding_all rfl) (by with_unfolding_all rfl), ?_⟩
                exact .cons h1 (.cons h2 (.cons h3 (.cons h4 (.cons hkey .nil))))
  intro L
  generalize he : callEnv _ L 49 = env
  with_reducible apply r_ifF
  · walk_at "m"
  · rfl
  with_reducible apply r_cons
  · with_reducible apply x_ifT
    · walk_at "m"
    · rfl
    · with_reducible apply x_cons
      · walk_at "m-asg"
        walk_at "m"
        exact c_len_lst hn (by omega)
      · walk_at "m"
  refine r_consE (P := fun ρ ls1 => ls = ls1 ∧ LK ρ "lo" (.int k)) ?_ ?_
  · refine xe_ifF (ls1 := ls) (b := false) (by walk_at "m") rfl (xe_one ?_)
    refine xe_while (m := l.length) (fun m ρ ls1 => ls = ls1 ∧ ∃ lo hi : Nat, hi - lo = m ∧ lo ≤ k ∧ k ≤ hi ∧ hi ≤ l.length ∧ LK ρ "a" (.lst n) ∧ LK ρ "x" x ∧ LK ρ "lo" (.int lo) ∧ LK ρ "hi" (.int hi) ∧ LK ρ "key" (.ref ka)) ?_ ?_
    · rintro m ρ _ ⟨rfl, lo, hi, hm, h1, h2, h3, l1, l2, l3, l4, l5⟩
      by_cases hlt : lo < hi
      · right
        have hdl : decide ((lo : Int) < (hi : Int)) = true := by simpa using hlt
        refine ⟨BTo.to (b := decide ((lo : Int) < (hi : Int))) (by walk_at "m") hdl, ?_⟩
        have hmid := mid_of hlt
        have hml : (lo + hi) / 2 < l.length := by omega
        have hx : l[(lo + hi) / 2]? = some l[(lo + hi) / 2] := by simp [hml]
        obtain ⟨r, hc, hv⟩ := hkey ((lo + hi) / 2) _ hx
        refine xe_cons (ρ1 := pset ρ "mid" (.int ((lo + hi) / 2 : Nat))) (ls1 := ls) ?_ (xe_one ?_)
        · rw [← hmid]; walk_at "m"
        · by_cases hkm : k ≤ (lo + hi) / 2
          · refine xe_ifT (ls1 := ls) (b := decide (k ≤ (lo + hi) / 2)) ?_ (by simpa using hkm) (XE.of (ρ1 := pset (pset ρ "mid" (.int ((lo + hi) / 2 : Nat))) "hi" (.int ((lo + hi) / 2 : Nat))) (ls1 := ls) (by walk_at "m") ?_)
            · walk_at "m"
            · refine ⟨_, ?_, rfl, lo, (lo + hi) / 2, rfl, h1, hkm, by omega, ?_, ?_, ?_, ?_, ?_⟩
              · omega
              all_goals walk_at "m-look"
          · refine xe_ifF (ls1 := ls) (b := decide (k ≤ (lo + hi) / 2)) ?_ (by simpa using hkm) (XE.of (ρ1 := pset (pset ρ "mid" (.int ((lo + hi) / 2 : Nat))) "lo" (.int (((lo + hi) / 2 : Nat) + 1))) (ls1 := ls) (by walk_at "m") ?_)
            · walk_at "m"
            · exact ⟨_, by omega, rfl, (lo + hi) / 2 + 1, hi, rfl, by omega, h2, h3, by walk_at "m-look", by walk_at "m-look", lk_hit _ _ _, by walk_at "m-look", by walk_at "m-look"⟩
      · left
        have hdl : decide ((lo : Int) < (hi : Int)) = false := by simpa using hlt
        refine ⟨BTo.to (b := decide ((lo : Int) < (hi : Int))) (by walk_at "m") hdl, rfl, ?_⟩
        have : k = lo := by omega
        rw [this]; exact l3
    · exact ⟨rfl, 0, l.length, rfl, Nat.zero_le _, hk, Nat.le_refl _, by walk_at "m-look", by walk_at "m-look", by show LK _ _ (.int 0); walk_at "m-look", by walk_at "m-look", by walk_at "m-look"⟩
  · rintro ρ ls1 ⟨rfl, hlo⟩
    walk_at "m"
/-- the parts of bisect_left's contract that do not hang on how it is called -/
theorem bisL_core {C : Cx} {d : Nat} {ls : LS} (g2 : G2 C) {n : Nat} {l : List PV} {x : PV} {ka : Addr} {k : Nat} {ps : List PV} (hfn : Fn C ka) (hn : ls[n]? = some l) (hk : k ≤ l.length) (hz : l.length < 2 ^ 60)
    (hkey : ∀ i p, l[i]? = some p → ∃ r, CTo C d (.ref ka) [p] [] ls r ls ∧ V2To C d r x (compareOp .Lt) ls (.bool (decide (i < k))) ls)
    (hps : ps = [.lst n, x] ∨ ps = [.lst n, x, .int 0, .none]) : CTo C (d + 1) (.ref 58) ps [("key", .ref ka)] ls (.int k) ls := by
  refine c_defK (ρ0 := [("a", .lst n), ("x", x), ("lo", .int 0), ("hi", .none), ("key", .ref ka)]) g2.ok (g2.k _ _ (by with_unfolding_all rfl)) (by with_unfolding_all rfl) ?hcd (by with_unfolding_all rfl) ?hbind (by decide) (by simp only [List.map_cons, List.map_nil]; decide) (by simp only [List.map_cons, List.map_nil]; decide) (by rfl) (by rfl) (by rfl) ?_
  case hcd => exact codeRec_of g2.k (by with_unfolding_all rfl)
  case hbind =>
    intro s am vs kv keep hvs hkv
    cases hkv with
    | cons hkey hkv =>
      cases hkv
      rcases hps with rfl | rfl
      · cases hvs with
        | cons h1 hvs => cases hvs with
          | cons h2 hvs =>
            cases hvs
            refine ⟨_, binds_K (fun a o e => keep a o (g2.k a o e)) (by with_unfolding_all rfl) (by with_unfolding_all rfl) (by with_unfolding_all rfl) (by with_unfolding_all rfl) (by with_unfolding_all rfl), ?_⟩
            exact .cons h1 (.cons h2 (.cons (.int _ _) (.cons .none (.cons hkey .nil))))
      · cases hvs with
        | cons h1 hvs => cases hvs with
          | cons h2 hvs => cases hvs with
            | cons h3 hvs => cases hvs with
              | cons h4 hvs =>
                cases hvs
                refine ⟨_, binds_K (fun a o e => keep a o (g2.k a o e)) (by with_unfolding_all rfl) (by with_unfolding_all rfl) (by with_unfolding_all rfl) (by with_unfolding_all rfl) (by with_unfolding_all rfl), ?_⟩
                exact .cons h1 (.cons h2 (.cons h3 (.cons h4 (.cons hkey .nil))))
  intro L
  generalize he : callEnv _ L 58 = env
  with_reducible apply r_ifF
  · walk_at "m"
  · rfl
  with_reducible apply r_cons
  · with_reducible apply x_ifT
    · walk_at "m"
    · rfl
    · with_reducible apply x_cons
      · walk_at "m-asg"
        walk_at "m"
        exact c_len_lst hn (by lia)
      · walk_at "m"
  refine r_consE (P := fun ρ ls1 => ls = ls1 ∧ LK ρ "lo" (.int k)) ?_ ?_
  · refine xe_ifF (ls1 := ls) (b := false) (by walk_at "m") rfl (xe_one ?_)
    refine xe_while (m := l.length) (fun m ρ ls1 => ls = ls1 ∧ ∃ lo hi : Nat, hi - lo = m ∧ lo ≤ k ∧ k ≤ hi ∧ hi ≤ l.length ∧ LK ρ "a" (.lst n) ∧ LK ρ "x" x ∧ LK ρ "lo" (.int lo) ∧ LK ρ "hi" (.int hi) ∧ LK ρ "key" (.ref ka)) ?_ ?_
    · rintro m ρ _ ⟨rfl, lo, hi, hm, h1, h2, h3, l1, l2, l3, l4, l5⟩
      by_cases hlt : lo < hi
      · right
        have hdl : decide ((lo : Int) < (hi : Int)) = true := by simpa using hlt
        refine ⟨BTo.to (b := decide ((lo : Int) < (hi : Int))) (by walk_at "m") hdl, ?_⟩
        have hmid := mid_of hlt
        have hml : (lo + hi) / 2 < l.length := by lia
        have hx : l[(lo + hi) / 2]? = some l[(lo + hi) / 2] := by simp [hml]
        obtain ⟨r, hc, hv⟩ := hkey ((lo + hi) / 2) _ hx
        refine xe_cons (ρ1 := pset ρ "mid" (.int ((lo + hi) / 2 : Nat))) (ls1 := ls) ?_ (xe_one ?_)
        · rw [← hmid]; walk_at "m"
        · by_cases hkm : (lo + hi) / 2 < k
          · refine xe_ifT (ls1 := ls) (b := decide ((lo + hi) / 2 < k)) ?_ (by simpa using hkm) (XE.of (ρ1 := pset (pset ρ "mid" (.int ((lo + hi) / 2 : Nat))) "lo" (.int (((lo + hi) / 2 : Nat) + 1))) (ls1 := ls) (by walk_at "m") ?_)
            · walk_at "m"
            · exact ⟨_, by lia, rfl, (lo + hi) / 2 + 1, hi, rfl, by lia, h2, h3, by walk_at "m-look", by walk_at "m-look", lk_hit _ _ _, by walk_at "m-look", by walk_at "m-look"⟩
          · refine xe_ifF (ls1 := ls) (b := decide ((lo + hi) / 2 < k)) ?_ (by simpa using hkm) (XE.of (ρ1 := pset (pset ρ "mid" (.int ((lo + hi) / 2 : Nat))) "hi" (.int ((lo + hi) / 2 : Nat))) (ls1 := ls) (by walk_at "m") ?_)
            · walk_at "m"
            · exact ⟨_, by lia, rfl, lo, (lo + hi) / 2, rfl, h1, by lia, by lia, by walk_at "m-look", by walk_at "m-look", by walk_at "m-look", by walk_at "m-look", by walk_at "m-look"⟩
      · left
        have hdl : decide ((lo : Int) < (hi : Int)) = false := by simpa using hlt
        refine ⟨BTo.to (b := decide ((lo : Int) < (hi : Int))) (by walk_at "m") hdl, rfl, ?_⟩
        have : k = lo := by lia
        rw [this]; exact l3
    · exact ⟨rfl, 0, l.length, rfl, Nat.zero_le _, hk, Nat.le_refl _, by walk_at "m-look", by walk_at "m-look", by show LK _ _ (.int 0); walk_at "m-look", by walk_at "m-look", by walk_at "m-look"⟩
  · rintro ρ ls1 ⟨rfl, hlo⟩
    walk_at "m"
theorem fn49 {C : Cx} (g : G2 C) : Fn C 49 := ⟨_, _, g.k _ _ (by with_unfolding_all rfl), by with_unfolding_all rfl⟩
theorem fn58 {C : Cx} (g : G2 C) : Fn C 58 := ⟨_, _, g.k _ _ (by with_unfolding_all rfl), by with_unfolding_all rfl⟩
theorem fn40 {C : Cx} (g : G2 C) : Fn C 40 := ⟨_, _, g.k _ _ (by with_unfolding_all rfl), by with_unfolding_all rfl⟩
theorem e_callKF {C : Cx} {env : Env} {d : Nat} {ρ : Loc} {ls ls1 ls2 ls3 : LS} {p : PV} {ps qs : List PV} {fn : Str} {fp pos : Pos} {e : Expr} {args : List Expr} {kws : List Keyword} {fa : Addr} {xs : List Str} (hf : ETo C env d (eval (.Name fn fp) env) ρ ls (.ref fa) ls) (hfn : Fn C fa)
    (ha : LTo C env d (spliced (backTo pos (starEach (e :: args) env))) ρ ls ps ls1) (hk : LTo C env d (evalAll ((backToKw pos (keywordEach kws env)).map (·.2))) ρ ls1 qs ls2) (hx : (backToKw pos (keywordEach kws env)).filterMap (·.1) = xs)
    (hall : (backToKw pos (keywordEach kws env)).all (·.1.isSome) = true) (hc : CTo C d (.ref fa) ps (xs.zip qs) ls2 p ls3) (he : backTo pos (starEach (e :: args) env) = (false, eval e env) :: backTo pos (starEach args env)) :
    ETo C env d (eval (.Call (.Name fn fp) (e :: args) kws pos) env) ρ ls p ls3 := by
  obtain ⟨o, fd, h1, h2⟩ := hfn
  exact e_callK hf h1 h2 ha hk hx hall hc he
theorem insR_spec {C : Cx} {d : Nat} {ls : LS} (g2 : G2 C) {n : Nat} {l : List PV} {x kx : PV} {ka : Addr} {k : Nat} (hfn : Fn C ka) (hn : ls[n]? = some l) (hk : k ≤ l.length) (hz : l.length ≤ 10000)
    (hkx : CTo C (d + 1) (.ref ka) [x] [] ls kx ls)
    (hkey : ∀ i p, l[i]? = some p → ∃ r, CTo C d (.ref ka) [p] [] ls r ls ∧ V2To C d kx r (compareOp .Lt) ls (.bool (decide (k ≤ i))) ls) :
    CTo C (d + 2) (.ref 40) [.lst n, x] [("key", .ref ka)] ls .none (ls.set n (ins l k x)) := by
  refine c_defK (ρ0 := [("a", .lst n), ("x", x), ("lo", .int 0), ("hi", .none), ("key", .ref ka)]) g2.ok (g2.k _ _ (by with_unfolding_all rfl)) (by with_unfolding_all rfl) ?hcd (by with_unfolding_all rfl) ?hbind (by decide) (by simp only [List.map_cons, List.map_nil]; decide) (by simp only [List.map_cons, List.map_nil]; decide) (by rfl) (by rfl) (by rfl) ?_
  case hcd => exact codeRec_of g2.k (by with_unfolding_all rfl)
  case hbind =>
    intro s am vs kv keep hvs hkv
    cases hkv with
    | cons hkey hkv =>
      cases hkv
      cases hvs with
      | cons h1 hvs => cases hvs with
        | cons h2 hvs =>
          cases hvs
          refine ⟨_, binds_K (fun a o e => keep a o (g2.k a o e)) (by with_unfolding_all rfl) (by with_unfolding_all rfl) (by with_unfolding_all rfl) (by with_unfolding_all rfl) (by with_unfolding_all rfl), ?_⟩
          exact .cons h1 (.cons h2 (.cons (.int _ _) (.cons .none (.cons hkey .nil))))
  intro L
  generalize he : callEnv _ L 40 = env
  have hf := fn49 g2
  have hs : (10000 : Nat) ≤ sizeLine := by decide
  have hb := bisR_core (d := d) (x := kx) g2 hfn hn hk (by lia) hkey (.inr rfl)
  with_reducible apply r_cons
  · with_reducible apply x_ifF
    · walk_at "m"
    · rfl
    · with_reducible apply x_cons
      · walk_at "m-asg"
        refine e_callKF (xs := ["key"]) (qs := [.ref ka]) (ps := [.lst n, kx, .int 0, .none]) (ls1 := ls) (ls2 := ls) (p := .int k) (ls3 := ls) ?hf hf ?ha ?hk rfl rfl hb rfl
        case hf => walk_at "m-name"
        case ha => walk_at "m"
        case hk => exact k_cons (ls1 := ls) (by walk_at "m") k_nil
      · walk_at "m"
  refine r_cons (ls1 := ls.set n (ins l k x)) (x_expr (ls1 := ls.set n (ins l k x)) ?_ ?_ rfl) r_nil
  · refine e_meth (p := .lst n) (ls1 := ls) (ls2 := ls) (T := "list") (id := "list.insert") ?_ (ty_lst hn) PySem.F.plainAttrs_list PySem.F.slot_list_insert PySem.F.type_list_insert ?_ (c_insert (p := x) hn (k := (k : Int)) (by lia) (by lia) ?_ (by lia)) rfl rfl rfl rfl rfl
    · walk_at "m"
    · walk_at "m"
    · unfold Builtin.List.listFitsIndex
      simp; lia
  · subst_vars; rfl
end Mine
end
section
open PySem PySem.W PySem.Calls PyProof.Rows
set_option maxRecDepth 100000
set_option linter.unusedVariables false
namespace Mine
section
variable {C : Cx} {env : Env} {d : Nat} {ρ ρ1 ρ2 ρ3 : Loc} {ls ls1 ls2 ls3 : LS} {p q r : PV} {f : PF} {ps qs : List PV} {α : Type}
/-- comprehensions over what a list of data stands for -/
theorem cp_mapF {target elt : Expr} {ok : LS → Prop} {k : Nat} (u g : α → PV) (base : LS) (J : Loc → Prop) (hk : k = base.length) (hok : ∀ l, ok (base ++ [l])) :
    ∀ (items : List α) (done : List PV) (ρ : Loc), J ρ → done.length + items.length ≤ 10000 →
      (∀ a ∈ items, ∀ ρ l, J ρ → ∃ ρ1, ATo C env target ρ (u a) ρ1 ∧ ETo C env d (eval elt env) ρ1 (base ++ [l]) (g a) (base ++ [l]) ∧ J ρ1) →
      ∃ ρ1, Cp C env d target elt [] ok k (items.map u) ρ (base ++ [done]) ρ1 (base ++ [done ++ items.map g])
  | [], done, ρ, _, _, _ => ⟨ρ, by rw [List.map_nil, List.map_nil, List.append_nil]; exact .nil (hok _)⟩
  | q :: items, done, ρ, hj, hl, h => by
    subst hk
    have hs : (10000 : Nat) ≤ sizeLine := by decide
    obtain ⟨ρ1, ha, he, hj1⟩ := h q (by simp) ρ done hj
    obtain ⟨ρ2, hc⟩ := cp_mapF u g base J rfl hok items (done ++ [g q]) ρ1 hj1 (by simp at hl ⊢; lia) fun q' hq => h q' (by simp [hq])
    refine ⟨ρ2, .emit (acc := done) (hok _) ha .nil he (by simp) (by simp at hl; lia) ?_⟩
    have e : (base ++ [done]).set base.length (done ++ [g q]) = base ++ [done ++ [g q]] := by simp
    rw [e]
    simpa using hc
theorem cp_filterF {target elt c : Expr} {ok : LS → Prop} {k : Nat} (u : α → PV) (t : α → Bool) (g : α → PV) (base : LS) (J : Loc → Prop) (hk : k = base.length) (hok : ∀ l, ok (base ++ [l])) :
    ∀ (items : List α) (done : List PV) (ρ : Loc), J ρ → (∀ x ∈ done, ∃ a, x = g a) → done.length + items.length ≤ 10000 →
      (∀ a ∈ items, ∀ ρ l, J ρ → (∀ x ∈ l, ∃ a, x = g a) → ∃ ρ1, ATo C env target ρ (u a) ρ1 ∧ BTo C env d (isTrue c env (eval c env)) ρ1 (base ++ [l]) (t a) (base ++ [l]) ∧ ETo C env d (eval elt env) ρ1 (base ++ [l]) (g a) (base ++ [l]) ∧ J ρ1) →
      ∃ ρ1, Cp C env d target elt [c] ok k (items.map u) ρ (base ++ [done]) ρ1 (base ++ [done ++ (items.filter t).map g])
  | [], done, ρ, _, _, _, _ => ⟨ρ, by rw [List.filter_nil, List.map_nil, List.map_nil, List.append_nil]; exact .nil (hok _)⟩
  | q :: items, done, ρ, hj, hd, hl, h => by
    subst hk
    have hs : (10000 : Nat) ≤ sizeLine := by decide
    obtain ⟨ρ1, ha, hb, he, hj1⟩ := h q (by simp) ρ done hj hd
    rw [List.map_cons]
    cases ht : t q with
    | false =>
      rw [ht] at hb
      obtain ⟨ρ2, hc⟩ := cp_filterF u t g base J rfl hok items done ρ1 hj1 hd (by simp at hl ⊢; lia) fun q' hq => h q' (by simp [hq])
      rw [List.filter_cons_of_neg (by rw [ht]; decide)]
      exact ⟨ρ2, .skip (hok _) ha (.one hb) hc⟩
    | true =>
      rw [ht] at hb
      obtain ⟨ρ2, hc⟩ := cp_filterF u t g base J rfl hok items (done ++ [g q]) ρ1 hj1 (fun x hx => by
        rcases List.mem_append.mp hx with hx | hx
        · exact hd x hx
        · exact ⟨q, by simpa using hx⟩) (by simp at hl ⊢; lia) fun q' hq => h q' (by simp [hq])
      rw [List.filter_cons_of_pos ht]
      refine ⟨ρ2, .emit (acc := done) (hok _) ha (.one hb) he (by simp) (by simp at hl; lia) ?_⟩
      have e : (base ++ [done]).set base.length (done ++ [g q]) = base ++ [done ++ [g q]] := by simp
      rw [e]
      simpa using hc
theorem cp_map0 {target elt : Expr} {ok : LS → Prop} {k : Nat} (u g : α → PV) (base : LS) (J : Loc → Prop) (hk : k = base.length) (hok : ∀ l, ok (base ++ [l])) (items : List α) (ρ : Loc) (hj : J ρ) (hl : items.length ≤ 10000)
    (h : ∀ a ∈ items, ∀ ρ l, J ρ → ∃ ρ1, ATo C env target ρ (u a) ρ1 ∧ ETo C env d (eval elt env) ρ1 (base ++ [l]) (g a) (base ++ [l]) ∧ J ρ1) :
    ∃ ρ1, Cp C env d target elt [] ok k (items.map u) ρ (base ++ [[]]) ρ1 (base ++ [items.map g]) :=
  cp_mapF u g base J hk hok items [] ρ hj (by simpa using hl) h
theorem cp_filter0 {target elt c : Expr} {ok : LS → Prop} {k : Nat} (u : α → PV) (t : α → Bool) (g : α → PV) (base : LS) (J : Loc → Prop) (hk : k = base.length) (hok : ∀ l, ok (base ++ [l])) (items : List α) (ρ : Loc) (hj : J ρ) (hl : items.length ≤ 10000)
    (h : ∀ a ∈ items, ∀ ρ l, J ρ → (∀ x ∈ l, ∃ a, x = g a) → ∃ ρ1, ATo C env target ρ (u a) ρ1 ∧ BTo C env d (isTrue c env (eval c env)) ρ1 (base ++ [l]) (t a) (base ++ [l]) ∧ ETo C env d (eval elt env) ρ1 (base ++ [l]) (g a) (base ++ [l]) ∧ J ρ1) :
    ∃ ρ1, Cp C env d target elt [c] ok k (items.map u) ρ (base ++ [[]]) ρ1 (base ++ [(items.filter t).map g]) :=
  cp_filterF u t g base J hk hok items [] ρ hj (fun _ h => nomatch h) (by simpa using hl) h
/-- a slice of a list that stood ahead -/
theorem e_slice_base {value : Expr} {lower upper : Option Expr} {pp pos : Pos} {a : Addr} {vs : List Value} {l l' : List PV} {k : Nat} {ls4 : LS} {lo hi : Option Int} (h1 : ETo C env d (eval value env) ρ ls (.ref a) ls1) (hlo : PTo C env d ρ lower ls1 lo ls2) (hhi : PTo C env d ρ upper ls2 hi ls3)
    (hl : C.hb.IsList a vs.toArray) (hv : ∀ am h, RVs am h l vs) (hz : l.length ≤ sizeLine) (ek : ls3.length = k) (e4 : pick l lo hi = l') (e5 : ls3 ++ [l'] = ls4) :
    ETo C env d (eval (.Subscript value (.Slice lower upper none pp) pos) env) ρ ls (.lst k) ls4 := fun A s am Q E hr R F K => by
  subst ek e4 e5
  refine Subscript_ (h1 A s am _ E hr R F fun b h1 t1 am1 p1 g1 R1 v1 => ?_)
  cases v1
  refine wpAny_Slice (hlo.run hr R1 (F.mono p1 g1) fun vl h2 t2 am2 p2 g2 R2 pl => ?_)
  refine hhi.run hr R2 (F.mono (p1.trans p2) (g1.trans g2)) fun vu h3 t3 am3 p3 g3 R3 pu => ?_
  refine wpAny_of_eq (evalPart_none env) ?_
  have hv := hv am3 h3
  have hlen := hv.length
  have kp : ∀ b o, h3.get? b = some o → (h3.push { cls := .type "slice", data := .fields #[vl, vu, .none] }).get? b = some o := fun b o e => Heap.get?_push_of_some _ e
  have R4 := R3.keeps kp
  have hp4 : (h3.push { cls := .type "slice", data := .fields #[vl, vu, .none] }).IsList a vs.toArray := by
    obtain ⟨o, ho, hc, n, hd⟩ := hl
    exact ⟨o, R4.old _ _ ho, hc, n, hd⟩
  refine tail_any (T := "list") hp4.typeIs slot_list_getitem.lookup (wpAny_getItem_list_slice hp4 (Heap.IsSliceOf.new ..) pl pu .none (by simp) ?_ (by rw [List.size_toArray, hlen]; exact hz)) rfl
  have e : slicePick vs.toArray lo hi none = (kms_pick vs lo hi).toArray := by rw [kms_pick_eq]
  have hv4 : RVs am3 (h3.push { cls := .type "slice", data := .fields #[vl, vu, .none] }) (pick l lo hi) (kms_pick vs lo hi) := by
    unfold pick kms_pick
    rw [hlen]
    exact ((hv.mono (Pre.refl _) (Gr.of_keeps kp)).drop _).take _
  rw [e]
  have g := (Gr.of_keeps kp).trans (Gr.push (h3.push { cls := .type "slice", data := .fields #[vl, vu, .none] }) { cls := .type "list", data := .seq (kms_pick vs lo hi).toArray })
  exact K _ _ t3 (am3.add _) ((p1.trans (p2.trans p3)).trans (Pre.add _ _)) ((g1.trans (g2.trans g3)).trans g) (R4.more get_size (fun b o e => Heap.get?_push_of_some _ e) ⟨_, Heap.get?_push_size _ rfl⟩ hv4) (.lst (R3.last _))
theorem pick_take {l : List PV} (k : Nat) : pick l none (some (k : Int)) = l.take k := by
  unfold pick kms_lo kms_hi
  have h : ¬ ((k : Int) < 0) := by lia
  simp only [if_neg h, List.drop_zero, Nat.sub_zero]
  rw [Int.toNat_natCast]
  by_cases q : k ≤ l.length
  · rw [Nat.min_eq_left q]
  · rw [Nat.min_eq_right (by lia), List.take_length, List.take_of_length_le (by lia)]
theorem good_true {c : ClaimW} {cl : Str → Option Addr} {mean : ExcName → Option Value} {args : List WData} {s₁ s' : Shared} (hk : ∀ b o, s₁.heap.get? b = some o → s'.heap.get? b = some o) (hg : s'.gens = #[]) (hn : ∀ cls, c.raises args cls = false) (hp : c.post args (.bool true) args = true) (hos : s'.os = s₁.os) : GoodW c cl mean args s₁ (.ok (.ret (.bool true))) s' :=
  ⟨.inl ⟨.bool true, .bool true, [], rfl, hn, .bool true, hp, unshared_nil⟩, hk, hos, hg⟩
theorem ClOk.one {env : Env} {x : Str} {c : Addr} (h : env.cells.lookup x = some c) : ClOk env [(x, c)] := .cons h .nil
theorem Cl.one {env : Env} {scope : Scope} {cl : List (Str × Addr)} {ρ : Loc} {x : Str} {p : PV} {c : Addr} {k k' : NameKind} (h1 : ρ.lookup x = some p) (h2 : env.kindOf x = some k) (h3 : env.cells.lookup x = some c) (h4 : (relabel scope env).names.lookup x = some k') (h5 : ∀ n, (cellsFrom n scope.names cl).lookup x = some c) (hk : k ≠ .local) (hk' : k' ≠ .local) : Cl env scope cl ρ [(x, p)] :=
  .cons h1 (by rw [h2]; exact fun e => hk (Option.some.inj e)) h3 (by rw [h4]; exact fun e => hk' (Option.some.inj e)) h5 .nil
end
end Mine
end
section
open PySem PySem.W PySem.Calls PyProof.Rows
set_option maxRecDepth 100000
set_option linter.unusedVariables false
namespace Mine
section
variable {C : Cx} {env : Env} {d : Nat} {ρ ρ1 ρ2 ρ3 : Loc} {ls ls1 ls2 ls3 : LS} {p q r : PV} {f : PF} {ps qs : List PV}
theorem e_if {test body orelse : Expr} {pos : Pos} {b : Bool} (ht : BTo C env d (isTrue test env (eval test env)) ρ ls b ls1) (h1 : b = true → ETo C env d (eval body env) ρ ls1 p ls2) (h2 : b = false → ETo C env d (eval orelse env) ρ ls1 p ls2) :
    ETo C env d (eval (.IfExp test body orelse pos) env) ρ ls p ls2 := fun A s am Q E hr R F K =>
  wpAny_IfExp (ht A s am _ E hr R F fun h' tk am' p1 g1 R1 => by
    cases b with
    | true => exact h1 rfl A _ am' Q E hr R1 (F.mono p1 g1) fun v h2 tk2 am2 p2 g2 R2 hv => K v h2 tk2 am2 (p1.trans p2) (g1.trans g2) R2 hv
    | false => exact h2 rfl A _ am' Q E hr R1 (F.mono p1 g1) fun v h2 tk2 am2 p2 g2 R2 hv => K v h2 tk2 am2 (p1.trans p2) (g1.trans g2) R2 hv)
/-! texts -/
theorem t_str {value slice : Expr} {x : Str} {k : Int} {c : Nat} (hn : NoSlice slice) (h0 : 0 ≤ k) (hhi : k < 2 ^ 63) (hx : x.cps[k.toNat]? = some c) : V2To C d (.str x) (.int k) (subscriptTail value slice) ls (.str (T [c])) ls := .of fun A s am a b Q E hr R ha hb K => by
  cases ha; cases hb
  have hlt : k.toNat < x.cps.size := (Array.getElem?_eq_some_iff.mp hx).1
  refine tail_any (T := "str") (typeIs_str _ _ _) F.slot_str_getitem.lookup (P.getItem_str (c := c) ?_ ?_ (K _ s.heap _ am (Pre.refl _) (Gr.refl _) R (.str _ _))) (sub_plain hn _ _)
  · rw [decide_eq_false (by lia), decide_eq_false (by lia)]; rfl
  · have e : seqIndex? k x.length = some k.toNat := by
      unfold seqIndex?
      have h1 : ¬ k < 0 := by lia
      have h2 : k < (x.length : Int) := by unfold Str.length; lia
      simp [h1, h2]
    rw [e]; exact hx
theorem o_lt_str {x y : Str} : V2To C d (.str x) (.str y) (compareOp .Lt) ls (.bool (decide (x.cps.toList < y.cps.toList))) ls := .of fun A s am _ _ Q E _ R ha hb K => by
  cases ha; cases hb; exact PyProof.Rows.lt_str (K _ s.heap s.toks am (Pre.refl _) (Gr.refl _) R (.bool _))
theorem o_in_str {x y : Str} : V2To C d (.str y) (.str x) (compareOp .In) ls (.bool (!(Builtin.Str.occurrences x y 0 x.length 1).isEmpty)) ls := .of fun A s am _ _ Q E _ R ha hb K => by
  cases ha; cases hb; exact PyProof.Rows.in_str (K _ s.heap s.toks am (Pre.refl _) (Gr.refl _) R (.bool _))
theorem c_index {x y : Str} {i : Nat} {rest : List Nat} (h : Builtin.Str.occurrences x y 0 x.length 1 = i :: rest) : CTo C d (.builtin "str.index") [.str x, .str y] [] ls (.int i) ls := c_two <| .of fun A s am a b Q E hr R ha hb K => by
  cases ha; cases hb
  exact call_gives F.slot_str_index (typeIs_str _ _ _) F.entry_str_index (F.args_str_index_2 _ _) (gives_str_index _ _ _ _ i rest h) (K _ s.heap _ am (Pre.refl _) (Gr.refl _) R (.int _ _))
def clp (v : Option Int) (dflt : Int) (n : Nat) : Int := match v with
  | none => dflt
  | some i => max 0 (min (if i < 0 then i + n else i) n)
theorem sub_lem {a b : Nat} (h : a ≤ a - b) (h0 : ¬ a = 0) : b = 0 := by omega
theorem clp_nat (i : Int) (n : Nat) : max 0 (min (if i < 0 then i + n else i) (n : Int)) = (((if i < 0 then n - (-i).toNat else min i.toNat n) : Nat) : Int) := by
  by_cases h : i < 0
  · obtain ⟨k, hk⟩ := Int.eq_ofNat_of_zero_le (Int.neg_nonneg.mpr (Int.le_of_lt h))
    rw [if_pos h, if_pos h, hk, Int.toNat_natCast, Int.min_eq_left (Int.add_le_of_le_sub_right (by rw [Int.sub_self]; exact Int.le_of_lt h)), ← Int.neg_neg i, hk]
    clear hk h
    omega
  · obtain ⟨k, rfl⟩ := Int.eq_ofNat_of_zero_le (Int.not_lt.mp h)
    rw [if_neg h, if_neg h, Int.toNat_natCast, show min (k : Int) (n : Int) = ((min k n : Nat) : Int) by omega]
    exact Int.max_eq_right (Int.natCast_nonneg _)
theorem picked_eq (lo hi : Option Int) (n : Nat) : Builtin.Str.strSliceIndices lo hi 1 n = (List.range (kms_hi hi n - kms_lo lo n)).map fun k => kms_lo lo n + k := by
  have hA : clp lo 0 n = ((kms_lo lo n : Nat) : Int) := by
    unfold kms_lo clp
    cases lo with
    | none => rfl
    | some i => exact clp_nat i n
  have hB : clp hi n n = ((kms_hi hi n : Nat) : Int) := by
    unfold kms_hi clp
    cases hi with
    | none => rfl
    | some i => exact clp_nat i n
  have h : Builtin.Str.strSliceIndices lo hi 1 n = sliceRange (clp lo 0 n) (clp hi n n) 1 := by
    unfold Builtin.Str.strSliceIndices clp
    cases lo <;> cases hi <;> rfl
  rw [h, hA, hB]
  unfold sliceRange
  have hc : (if (1 : Int) > 0 then (if ((kms_lo lo n : Nat) : Int) < ((kms_hi hi n : Nat) : Int) then (((kms_hi hi n : Nat) : Int) - ((kms_lo lo n : Nat) : Int) + 1 - 1) / 1 else 0) else (if ((kms_lo lo n : Nat) : Int) > ((kms_hi hi n : Nat) : Int) then (((kms_lo lo n : Nat) : Int) - ((kms_hi hi n : Nat) : Int) - 1 - 1) / (-1) else 0)).toNat = kms_hi hi n - kms_lo lo n := by
    rw [if_pos (by decide)]
    split <;> lia
  change List.map _ (List.range (Int.toNat (if (1 : Int) > 0 then _ else _))) = _
  rw [hc]
  refine List.map_congr_left fun k _ => ?_
  lia
theorem pick_range {α : Type} (l : List α) (a : Nat) : ∀ m, a + m ≤ l.length → (List.range m).filterMap (fun k => l[a + k]?) = (l.drop a).take m
  | 0, _ => by simp
  | m + 1, h => by
    rw [List.range_succ, List.filterMap_append, pick_range l a m (by lia), List.take_add_one]
    congr 1
    rw [List.getElem?_drop]
    have hlt : a + m < l.length := by lia
    simp [hlt]
theorem kms_hi_le (hi : Option Int) (n : Nat) : kms_hi hi n ≤ n := by
  unfold kms_hi
  split
  · exact Nat.le_refl _
  · split <;> omega
/-- a text's part -/
def pickL (l : List Nat) (lo hi : Option Int) : List Nat := (l.drop (kms_lo lo l.length)).take (kms_hi hi l.length - kms_lo lo l.length)
theorem picked_T (l : List Nat) (lo hi : Option Int) : ((Builtin.Str.strSliceIndices lo hi 1 l.length).filterMap ((T l).cps[·]?)) = pickL l lo hi := by
  rw [picked_eq, List.filterMap_map]
  have hb := kms_hi_le hi l.length
  by_cases h : kms_lo lo l.length ≤ kms_hi hi l.length
  · rw [show ((fun x => (T l).cps[x]?) ∘ fun k => kms_lo lo l.length + k) = fun k => l[kms_lo lo l.length + k]? from by
      funext k; simp [T]]
    rw [pick_range _ _ _ (by lia)]; rfl
  · have e : kms_hi hi l.length - kms_lo lo l.length = 0 := by lia
    unfold pickL
    rw [e]; simp
theorem isPart_opt {v : Value} {k : Option Int} (h : IsPart v k) : ∃ a : Option (Int × Tok), v = partValue a ∧ a.map (·.1) = k := by
  cases h with
  | none => exact ⟨none, rfl, rfl⟩
  | int i t => exact ⟨some (i, t), rfl, rfl⟩
theorem e_sliceS {value : Expr} {lower upper : Option Expr} {pp pos : Pos} {l l' : List Nat} {lo hi : Option Int} (h1 : ETo C env d (eval value env) ρ ls (.str (T l)) ls1) (hlo : PTo C env d ρ lower ls1 lo ls2) (hhi : PTo C env d ρ upper ls2 hi ls3) (hz : l.length ≤ 10000) (e : pickL l lo hi = l')
    (ht : ∀ o r, letTemporaryGo value o r = pure () := by intro _ _; rfl) : ETo C env d (eval (.Subscript value (.Slice lower upper none pp) pos) env) ρ ls (.str (T l')) ls3 := fun A s am Q E hr R F K => by
  have hs : (10000 : Nat) ≤ sizeLine := by decide
  refine wpAny_Subscript_str_slice (h1 A s am _ E hr R F fun o h' tk am' p1 g1 R1 hv => ?_) ht
  refine hlo.run hr R1 (F.mono p1 g1) fun vl h2 tk2 am2 p2 g2 R2 pl => ?_
  refine hhi.run hr R2 (F.mono (p1.trans p2) (g1.trans g2)) fun vu h3 tk3 am3 p3 g3 R3 pu => ?_
  cases hv with
  | str _ t =>
    obtain ⟨a, ea, ha⟩ := isPart_opt pl
    obtain ⟨b, eb, hb⟩ := isPart_opt pu
    refine ⟨T l, t, a, b, rfl, ea, eb, ?_⟩
    have hp : slicePicked (T l) a b none = Builtin.Str.strSliceIndices lo hi 1 l.length := by unfold slicePicked; rw [ha, hb, T_len]; rfl
    have pk := picked_T l lo hi
    have g := Gr.push h3 { cls := .type "slice", data := .fields #[vl, vu, .none] }
    have R4 := R3.keeps (h' := h3.push { cls := .type "slice", data := .fields #[vl, vu, .none] }) fun b o e => Heap.get?_push_of_some _ e
    unfold sliceMade
    rw [hp, pk]
    split
    · rename_i hw
      have hlen : (pickL l lo hi).length = l.length := by
        have h2 := (Bool.and_eq_true_iff.mp hw).2
        rw [beq_iff_eq, T_len, picked_eq, List.length_map, List.length_range] at h2
        have := kms_hi_le hi l.length
        unfold pickL
        rw [List.length_take, List.length_drop, h2]
        exact Nat.min_eq_left (by have z := Nat.sub_le_sub_right this (kms_lo lo l.length); rwa [h2] at z)
      have hall : l' = l := by
        rw [← e]
        have h2 : (pickL l lo hi) <+: l.drop (kms_lo lo l.length) := List.take_prefix _ _
        unfold pickL at hlen ⊢
        rw [List.length_take, List.length_drop] at hlen
        by_cases h0 : l.length = 0
        · rw [List.length_eq_zero_iff] at h0; subst h0; simp
        · have hA : kms_lo lo l.length = 0 := sub_lem (Nat.le_trans (Nat.le_of_eq hlen.symm) (Nat.min_le_right _ _)) h0
          rw [hA] at hlen ⊢
          rw [List.drop_zero, List.take_of_length_le (by lia)]
      exact K (.str (T l) t) _ tk3 am3 (p1.trans (p2.trans p3)) ((g1.trans (g2.trans g3)).trans g) R4 (by rw [hall]; exact .str _ _)
    · refine ⟨?_, ?_⟩
      · show (pickL l lo hi).toArray.size ≤ sizeLine
        have : (pickL l lo hi).length ≤ l.length := by
          unfold pickL
          rw [List.length_take, List.length_drop]; lia
        simp; lia
      · have z := K (.str (T (pickL l lo hi)) tk3) _ (tk3 + 1) am3 (p1.trans (p2.trans p3)) ((g1.trans (g2.trans g3)).trans g) (R4.up (Nat.le_succ _)) (by rw [e]; exact .str _ _)
        exact z
end
end Mine
end
section
open PySem PySem.W PySem.Calls PyProof.Rows PySem.SeqAt
set_option maxRecDepth 100000
set_option linter.unusedVariables false
namespace Mine
section
variable {C : Cx} {env : Env} {d : Nat} {ρ ρ1 ρ2 ρ3 : Loc} {ls ls1 ls2 ls3 : LS} {p q r : PV} {f : PF} {ps qs : List PV}
abbrev txs (l : List (List Nat)) : List PV := l.map fun x => .str (T x)
theorem T_beq (a b : List Nat) : (T a == T b) = decide (a = b) := by
  by_cases h : a = b
  · subst h; simp
  · rw [decide_eq_false h]
    exact beq_false_of_ne fun e => h (T_inj e)
theorem RVs.txs_at {am : Gh} {h : Heap} : ∀ {l : List (List Nat)} {vs : List Value}, RVs am h (txs l) vs → ∀ (j : Nat) (hj : j < vs.length), ∃ t, vs[j] = .str (T (l.getD j [])) t
  | [], _, .nil, j, hj => by simp at hj
  | x :: l, _, .cons a b, 0, hj => by cases a with | str _ t => exact ⟨t, rfl⟩
  | x :: l, _, .cons a b, j + 1, hj => by
    obtain ⟨t, e⟩ := RVs.txs_at b j (by simpa using hj)
    exact ⟨t, by simpa using e⟩
theorem range_txs : ∀ (a b : List (List Nat)), a.length = b.length → (List.range a.length).all (fun j => T (a.getD j []) == T (b.getD j [])) = decide (a = b)
  | [], [], _ => rfl
  | x :: a, y :: b, h => by
    have ih := range_txs a b (by simpa using h)
    rw [List.length_cons, List.range_succ_eq_map, List.all_cons, List.all_map]
    have e : (List.range a.length).all ((fun j => T ((x :: a).getD j []) == T ((y :: b).getD j [])) ∘ Nat.succ) = decide (a = b) := by rw [← ih]; rfl
    rw [e]
    show ((T x == T y) && _) = _
    rw [T_beq, ← Bool.decide_and]
    exact decide_eq_decide.mpr (by simp)
theorem o_eq_txs {n m : Nat} {a b : List (List Nat)} (hn : ls[n]? = some (txs a)) (hm : ls[m]? = some (txs b)) : V2To C d (.lst n) (.lst m) (compareOp .Eq) ls (.bool (decide (a = b))) ls := .of fun A s am v w Q E hr R ha hb K => by
  cases ha with
  | lst h1 => cases hb with
    | lst h2 =>
      obtain ⟨vs, hp, hv⟩ := R.its h1 hn
      obtain ⟨ws, hq, hw⟩ := R.its h2 hm
      have l1 := hv.length
      have l2 := hw.length
      rw [List.length_map] at l1 l2
      by_cases hlen : a.length = b.length
      · have z := RcAt.lists (A := A) (e := fun j => T (a.getD j []) == T (b.getD j [])) hp.isList hq.isList (by simp [l1, l2, hlen]) hr.u.2 (fun j h1 h2 => by
          obtain ⟨t, e1⟩ := hv.txs_at j (by simpa using h1)
          obtain ⟨u, e2⟩ := hw.txs_at j (by simpa using h2)
          simp only [List.getElem_toArray]
          rw [e1, e2]
          exact EqAt.str_str _ _ _ _)
        rw [List.size_toArray, l1, range_txs a b hlen] at z
        exact z C.prog C.w E Q (K _ s.heap s.toks am (Pre.refl _) (Gr.refl _) R (.bool _))
      · have z := RcAt.lists_lengths (A := A) hp.isList hq.isList (by simp [l1, l2, hlen]) hr.u.2
        rw [decide_eq_false (fun e => hlen (by rw [e]))] at K
        exact z C.prog C.w E Q (K _ s.heap s.toks am (Pre.refl _) (Gr.refl _) R (.bool _))
theorem o_ne_txs {n m : Nat} {a b : List (List Nat)} (hn : ls[n]? = some (txs a)) (hm : ls[m]? = some (txs b)) : V2To C d (.lst n) (.lst m) (compareOp .NotEq) ls (.bool (!decide (a = b))) ls := .of fun A s am v w Q E hr R ha hb K => by
  cases ha with
  | lst h1 => cases hb with
    | lst h2 =>
      obtain ⟨vs, hp, hv⟩ := R.its h1 hn
      obtain ⟨ws, hq, hw⟩ := R.its h2 hm
      have l1 := hv.length
      have l2 := hw.length
      rw [List.length_map] at l1 l2
      by_cases hlen : a.length = b.length
      · have z := RcNeAt.lists (A := A) (e := fun j => T (a.getD j []) == T (b.getD j [])) hp.isList hq.isList (by simp [l1, l2, hlen]) hr.u.2 (fun j h1 h2 => by
          obtain ⟨t, e1⟩ := hv.txs_at j (by simpa using h1)
          obtain ⟨u, e2⟩ := hw.txs_at j (by simpa using h2)
          simp only [List.getElem_toArray]
          rw [e1, e2]
          exact EqAt.str_str _ _ _ _)
        rw [List.size_toArray, l1, range_txs a b hlen] at z
        exact z C.prog C.w E Q (K _ s.heap s.toks am (Pre.refl _) (Gr.refl _) R (.bool _))
      · have z := RcNeAt.lists_lengths (A := A) hp.isList hq.isList (by simp [l1, l2, hlen]) hr.u.2
        rw [decide_eq_false (fun e => hlen (by rw [e]))] at K
        exact z C.prog C.w E Q (K _ s.heap s.toks am (Pre.refl _) (Gr.refl _) R (.bool _))
theorem o_eq_lst_none {n : Nat} {l : List PV} (hn : ls[n]? = some l) : V2To C d (.lst n) .none (compareOp .Eq) ls (.bool false) ls := .of fun A s am v w Q E hr R ha hb K => by
  cases hb
  cases ha with
  | lst h1 =>
    obtain ⟨vs, hp, hv⟩ := R.its h1 hn
    exact RcAt.list_none (A := A) hp.isList hr.u.2 C.prog C.w E Q (K _ s.heap s.toks am (Pre.refl _) (Gr.refl _) R (.bool _))
theorem o_ne_ft (ok : C.Ok) {fs : List UInt64} (hN : Nums fs) : V2To C d (ft fs) (ft fs) (compareOp .NotEq) ls (.bool false) ls := .of fun A s am v w Q E hr R ha hb K => by
  cases ha with
  | tup ht hs => cases hb with
    | tup ht2 hs2 =>
      have l1 := hs.length
      have l2 := hs2.length
      rw [List.length_map] at l1 l2
      have z := RcNeAt.tuples (A := A) (e := fun _ => true) ht ht2 hr.u.2 (fun j h1 h2 => by
        obtain ⟨t, z1, e1⟩ := hs.flts j (by simpa using h1)
        obtain ⟨u, z2, e2⟩ := hs2.flts j (by simpa using h2)
        simp only [List.getElem_toArray]
        rw [e1, e2]
        have hj : j < fs.length := by rw [← l1]; simpa using h1
        have hN' : Float64.cmp (fs.getD j 0) (fs.getD j 0) = some .eq := by
          refine hN _ ?_
          rw [List.getD_eq_getElem?_getD, List.getElem?_eq_getElem hj]
          exact List.getElem_mem hj
        have q := eqat_flt (A := A.in1) (ok.bkAt R) (Nat.ne_of_gt (R.tks _ _ z1).1) (Nat.ne_of_gt (R.tks _ _ z2).1) (fun e => rfl) hN'
        rw [hN'] at q
        exact q)
      rw [List.size_toArray, List.size_toArray, l1, l2] at z
      have e : (!((List.range (min fs.length fs.length)).all (fun _ => true) && fs.length == fs.length)) = false := by simp
      rw [e] at z
      exact z C.prog C.w E Q (K _ s.heap s.toks am (Pre.refl _) (Gr.refl _) R (.bool _))
theorem c_extend {n m : Nat} {l k : List PV} (hn : ls[n]? = some l) (hm' : ls[m]? = some k) (hz : l.length + k.length ≤ 10000) : CTo C d (.builtin "list.extend") [.lst n, .lst m] [] ls .none (ls.set n (l ++ k)) := c_two <| .of fun A s am a b Q E hr R ha hb K => by
  have hs : (10000 : Nat) ≤ sizeLine := by decide
  cases ha with
  | lst h1 => cases hb with
    | lst h2 =>
      rename_i x y
      obtain ⟨vs, ⟨c1, hp⟩, hv⟩ := R.its h1 hn
      obtain ⟨ws, ⟨c2, hq⟩, hw⟩ := R.its h2 hm'
      have l1 := hv.length
      have l2 := hw.length
      refine call_meets PySem.F.slot_list_extend ⟨_, hp, rfl⟩ PySem.F.entry_list_extend (PySem.F.args_list_extend_2 _ _) (PySem.AutoSeq1.list_extend_list_list_0 x _ c1 y _ c2 ?_ (by rw [List.size_toArray]; lia) (by rw [List.size_toArray, List.size_toArray]; lia)) ⟨hp, hq, ?_⟩
      · have : Builtin.List.listTooLong (vs.toArray.size + ws.toArray.size) = false := by
          unfold Builtin.List.listTooLong
          rw [List.size_toArray, List.size_toArray]
          exact decide_eq_false (by lia)
        rw [this]; simp
      · have q := PySem.IsL.update hp (fun xs => xs ++ ws.toArray)
        have hsb := (Heap.SameBut.update s.heap x (Obj.mapSeq fun xs => xs ++ ws.toArray)).2
        have hp' : (s.heap.update x (Obj.mapSeq fun xs => xs ++ ws.toArray)).PlainList x (vs ++ ws).toArray := by
          have e' : ∀ n, ({ cls := .type "list", dict := none, data := .seq (vs.toArray ++ ws.toArray) n, slots := #[] } : Obj) = { cls := .type "list", dict := none, data := .seq (vs ++ ws).toArray n, slots := #[] } := fun n => by simp
          exact ⟨_, q.trans (congrArg some (e' _))⟩
        obtain ⟨R', g⟩ := R.put h1 hn (fun z hz => hsb z hz) hp' (hv.append hw)
        exact K .none _ s.toks am (Pre.refl _) g R' .none
theorem c_range3 {a b c : Int} (hc : c ≠ 0) (hb : c.natAbs < 1073741824) : CTo C d (.type "range") [.int a, .int b, .int c] [] ls (.rng a b c) ls := fun A s am vs kv Q E hr R hvs hkv K => by
  cases hkv
  cases hvs with
  | cons h1 hvs => cases hvs with
    | cons h2 hvs => cases hvs with
      | cons h3 hvs =>
        cases hvs; cases h1; cases h2; cases h3
        have k : ∀ o b p, s.heap.get? b = some p → (s.heap.push o).get? b = some p := fun o b p e => Heap.get?_push_of_some _ e
        exact call_range_3 hc (K _ _ _ am (Pre.refl _) (Gr.push _ _) (R.keeps (k _)) (.rng (IsRange.new _ _ _ _ _ _ _))) (.inl (PyProof.noPylong_small hb))
end
end Mine
end
section
open PySem PySem.W PySem.Calls PyProof.Rows
set_option maxRecDepth 100000
set_option linter.unusedVariables false
set_option maxHeartbeats 4000000
namespace Mine
/-- the signs -/
def sgL : List Nat := [10, 13, 46, 97]
def sg (i : Nat) : Nat := sgL.getD i 0
/-- a mail's text -/
def mailF : Nat → Nat → List Nat
  | 0, _ => []
  | f + 1, left => if left = 0 then [] else sg ((left - 1) % 4) :: mailF f ((left - 1) / 4)
def mailK (k : Nat) : List Nat := mailF 85 k
theorem mail_spec {C : Cx} {d : Nat} {ls : LS} (g2 : G2 C) {x : Int} {k : Nat} (hx : x.fmod 85 = k) (hk : k < 85) : CTo C (d + 1) (.ref 96) [.int x] [] ls (.str (T (mailK k))) ls := by
  refine c_def (xs := ["x"]) g2.ok (g2.k _ _ (by with_unfolding_all rfl)) (by with_unfolding_all rfl) ?hcd (by with_unfolding_all rfl) ?hbind (by rfl) ?hkind (by decide) (by rfl) (by rfl) (by rfl) ?_
  case hcd => exact codeRec_of g2.k (by with_unfolding_all rfl)
  case hbind =>
    intro vs hl
    obtain ⟨a, rfl⟩ := vlen1 hl
    rfl
  case hkind => intro L; rfl
  intro L
  generalize he : callEnvC _ L 96 = env
  have e0 : ("" : Str) = T [] := rfl
  have e1 : ("\n\r.a" : Str) = T [10, 13, 46, 97] := by decide +kernel
  refine r_consE (P := fun ρ ls1 => ls = ls1 ∧ LK ρ "left" (.int k)) (XE.of (ρ1 := pset ([("x" : Str)].zip [PV.int x]) "left" (.int (x.fmod 85))) (ls1 := ls) (by walk_at "m") ⟨rfl, by rw [hx]; walk_at "m-look"⟩) ?_
  rintro ρ _ ⟨rfl, l1⟩
  refine r_consE (P := fun ρ ls1 => ls = ls1 ∧ LK ρ "left" (.int k) ∧ LK ρ "text" (.str (T []))) (XE.of (ρ1 := pset ρ "text" (.str (T []))) (ls1 := ls) (by walk_at "m") ⟨rfl, by walk_at "m-look", by walk_at "m-look"⟩) ?_
  rintro ρ _ ⟨rfl, l1, l2⟩
  refine r_consE (P := fun ρ ls1 => ls = ls1 ∧ LK ρ "text" (.str (T (mailK k)))) ?_ ?_
  · refine xe_while (m := k) (fun m ρ ls1 => ls = ls1 ∧ ∃ f t, m ≤ f ∧ t ++ mailF f m = mailK k ∧ t.length + f ≤ 100 ∧ LK ρ "left" (.int m) ∧ LK ρ "text" (.str (T t))) ?_ ⟨rfl, 85, [], by lia, rfl, by simp, l1, l2⟩
    rintro m ρ _ ⟨rfl, f, t, hf, ht, hl, l1, l2⟩
    by_cases h0 : 0 < m
    · right
      have hd0 : decide ((m : Int) > 0) = true := by simpa using h0
      obtain ⟨f, rfl⟩ : ∃ f', f = f' + 1 := ⟨f - 1, by lia⟩
      have em : ((m : Int) - 1) = ((m - 1 : Nat) : Int) := by lia
      have er : ((m - 1 : Nat) : Int).fmod 4 = (((m - 1) % 4 : Nat) : Int) := by rw [Int.fmod_eq_emod_of_nonneg _ (by decide)]; lia
      have eq4 : ((m - 1 : Nat) : Int).fdiv 4 = (((m - 1) / 4 : Nat) : Int) := by rw [Int.fdiv_eq_ediv_of_nonneg _ (by decide)]; lia
      have hlt : (m - 1) % 4 < 4 := Nat.mod_lt _ (by decide)
      have hc : (T [10, 13, 46, 97]).cps[(((m - 1) % 4 : Nat) : Int).toNat]? = some (sg ((m - 1) % 4)) := by
        rw [Int.toNat_natCast]
        generalize (m - 1) % 4 = j at hlt ⊢
        have : j = 0 ∨ j = 1 ∨ j = 2 ∨ j = 3 := by lia
        rcases this with rfl | rfl | rfl | rfl <;> rfl
      have hlast : t ++ [sg ((m - 1) % 4)] ++ mailF f ((m - 1) / 4) = mailK k := by
        rw [← ht, List.append_assoc]
        congr 1
        show _ = (if m = 0 then [] else sg ((m - 1) % 4) :: mailF f ((m - 1) / 4))
        rw [if_neg (by lia)]; rfl
      refine ⟨BTo.to (b := decide ((m : Int) > 0)) (by walk_at "m") hd0, ?_⟩
      refine xe_cons (ρ1 := pset ρ "left" (.int ((m - 1 : Nat) : Int))) (ls1 := ls) (by rw [← em]; walk_at "m") ?_
      refine xe_cons (ρ1 := pset (pset ρ "left" (.int ((m - 1 : Nat) : Int))) "text" (.str (T (t ++ [sg ((m - 1) % 4)])))) (ls1 := ls) ?_ ?_
      · walk_at "m-asg"
        with_reducible apply e_bin
        · walk_at "m"
        · with_reducible apply e_sub
          · exact e_lit e1
          · walk_at "m"
          · rw [er]
            exact t_str trivial (by lia) (by lia) hc
        · exact o_cat (by simp only [List.length_cons, List.length_nil]; lia)
      · refine xe_one (XE.of (ρ1 := pset (pset (pset ρ "left" (.int ((m - 1 : Nat) : Int))) "text" (.str (T (t ++ [sg ((m - 1) % 4)])))) "left" (.int (((m - 1) / 4 : Nat) : Int))) (ls1 := ls) (by rw [← eq4]; walk_at "m") ?_)
        exact ⟨_, by lia, rfl, f, _, by lia, hlast, by simp only [List.length_append, List.length_cons, List.length_nil]; lia, by walk_at "m-look", by walk_at "m-look"⟩
    · left
      have hd0 : decide ((m : Int) > 0) = false := by simpa using h0
      refine ⟨BTo.to (b := decide ((m : Int) > 0)) (by walk_at "m") hd0, rfl, ?_⟩
      have : m = 0 := by lia
      subst this
      have e : t = mailK k := by
        rw [← ht]
        cases f with
        | zero => simp [mailF]
        | succ f => simp [mailF]
      rw [← e]; exact l2
  · rintro ρ _ ⟨rfl, l2⟩
    walk_at "m"
end Mine
end
section
open PySem PySem.W PySem.Calls PyProof.Rows
set_option maxRecDepth 100000
set_option linter.unusedVariables false
set_option maxHeartbeats 4000000
namespace Mine
section
variable {C : Cx} {env : Env} {d : Nat} {ρ : Loc} {ls : LS}
theorem e_negc {i : Int} {k : Nat} {pos pos' : Pos} : ETo C env d (eval (.UnaryOp .USub (.Constant (.int i) k pos) pos') env) ρ ls (.int (-i)) ls :=
  .of fun A s am Q E hr R F K => wpAny_UnaryOp (wpAny_Constant_int (PyProof.Rows.neg_int (K _ s.heap _ am (Pre.refl _) (Gr.refl _) R (.int _ _))))
end
theorem fn89 {C : Cx} (g : G2 C) : Fn C 89 := ⟨_, _, g.k _ _ (by with_unfolding_all rfl), by with_unfolding_all rfl⟩
theorem dots_len : ∀ (b : Bool) (l : List Nat), (dots b l).length ≤ 2 * l.length
  | _, [] => by simp [dots]
  | b, c :: r => by
    have ih := dots_len (c == 10) r
    unfold dots
    rw [List.length_append, List.length_cons]
    split
    · simp only [List.length_cons, List.length_nil]; lia
    · simp only [List.length_cons, List.length_nil]; lia
theorem quoted_len (l : List Nat) : (quoted l).length ≤ 4 * l.length := by
  have h1 := dots_len true (ends l)
  have h2 := ends_len l
  unfold quoted; lia
theorem quote_T {C : Cx} {d : Nat} {ls : LS} (g2 : G2 C) {l : List Nat} (hx : l.length ≤ 100) : CTo C (d + 1) (.ref 89) [.str (T l)] [] ls (.str (T (quoted l))) ls :=
  quote_spec g2 (x := T l) (by simpa [T] using hx)
def endL (l : List Nat) : List Nat := if pickL l (some (-2)) none = [13, 10] then l else l ++ [13, 10]
def strmL (l : List Nat) : List Nat := endL (quoted l) ++ [46, 13, 10]
theorem strmL_len (l : List Nat) : (strmL l).length ≤ 4 * l.length + 5 := by
  have := quoted_len l
  unfold strmL endL
  split
  · simp; lia
  · simp; lia
theorem T_ne (a b : List Nat) : (T a != T b) = !decide (a = b) := by unfold bne; rw [T_beq]
theorem stream_spec {C : Cx} {d : Nat} {ls : LS} (g2 : G2 C) {l : List Nat} (hl : l.length ≤ 100) : CTo C (d + 2) (.ref 103) [.str (T l)] [] ls (.str (T (strmL l))) ls := by
  refine c_def (xs := ["mail"]) g2.ok (g2.k _ _ (by with_unfolding_all rfl)) (by with_unfolding_all rfl) ?hcd (by with_unfolding_all rfl) ?hbind (by rfl) ?hkind (by decide) (by rfl) (by rfl) (by rfl) ?_
  case hcd => exact codeRec_of g2.k (by with_unfolding_all rfl)
  case hbind =>
    intro vs hl
    obtain ⟨a, rfl⟩ := vlen1 hl
    rfl
  case hkind => intro L; rfl
  intro L
  generalize he : callEnvC _ L 103 = env
  have f89 := fn89 g2
  have c1 := quote_T (d := d) (ls := ls) g2 hl
  have hq := quoted_len l
  have e1 : ("\r\n" : Str) = T [13, 10] := by decide +kernel
  have e2 : (".\r\n" : Str) = T [46, 13, 10] := by decide +kernel
  have hs : (10000 : Nat) ≤ sizeLine := by decide
  refine r_consE (P := fun ρ ls1 => ls = ls1 ∧ LK ρ "sent" (.str (T (quoted l)))) (XE.of (ρ1 := pset ([("mail" : Str)].zip [PV.str (T l)]) "sent" (.str (T (quoted l)))) (ls1 := ls) (by walk_at "m") ⟨rfl, by walk_at "m-look"⟩) ?_
  rintro ρ _ ⟨rfl, l1⟩
  refine r_consE (P := fun ρ ls1 => ls = ls1 ∧ LK ρ "sent" (.str (T (endL (quoted l))))) ?_ ?_
  · by_cases h : pickL (quoted l) (some (-2)) none = [13, 10]
    · refine xe_ifF (ls1 := ls) (b := !decide (pickL (quoted l) (some (-2)) none = [13, 10])) ?_ (by simpa using h) (xe_nil ⟨rfl, by unfold endL; rw [if_pos h]; exact l1⟩)
      rw [← T_ne]
      refine b_cmp (ls1 := ls) (ls2 := ls) (e_sliceS (ls1 := ls) (ls2 := ls) (l := quoted l) (lo := some (-2)) (hi := none) (by walk_at "m") (.some e_negc) .none (by lia) rfl (fun _ _ => rfl)) (e_lit e1) o_ne_str rfl
    · refine xe_ifT (ls1 := ls) (b := !decide (pickL (quoted l) (some (-2)) none = [13, 10])) ?_ (by simpa using h) (xe_one (XE.of (ρ1 := pset ρ "sent" (.str (T (quoted l ++ [13, 10])))) (ls1 := ls) ?_ ⟨rfl, by unfold endL; rw [if_neg h]; walk_at "m-look"⟩))
      · rw [← T_ne]
        refine b_cmp (ls1 := ls) (ls2 := ls) (e_sliceS (ls1 := ls) (ls2 := ls) (l := quoted l) (lo := some (-2)) (hi := none) (by walk_at "m") (.some e_negc) .none (by lia) rfl (fun _ _ => rfl)) (e_lit e1) o_ne_str rfl
      · walk_at "m-asg"
        refine e_bin (ls1 := ls) (ls2 := ls) (by walk_at "m") (e_lit e1) (o_cat ?_)
        simp only [List.length_cons, List.length_nil]; lia
  · rintro ρ _ ⟨rfl, l1⟩
    have hE : (endL (quoted l)).length ≤ 4 * l.length + 2 := by
      unfold endL
      split
      · lia
      · simp; lia
    with_reducible apply r_return
    refine e_bin (ls1 := ls) (ls2 := ls) (by walk_at "m") (e_lit e2) (o_cat ?_)
    simp only [List.length_cons, List.length_nil]; lia
end Mine
end
section
open PySem PySem.W PySem.Calls PyProof.Rows
set_option maxRecDepth 100000
set_option linter.unusedVariables false
namespace Mine
section
variable {C : Cx} {env : Env} {d : Nat} {ρ ρ1 ρ2 ρ3 : Loc} {ls ls1 ls2 ls3 : LS} {p q r : PV} {f : PF} {ps qs : List PV}
/-- a text's signs, one by one -/
def signs (l : List Nat) : List PV := l.map fun c => .str (T [c])
theorem itr_str (l : List Nat) (t : Tok) (I : Addr) {target : Expr} : Itr C target (fun _ => True) I [I] (signs l) (fun i am h => h.IsStrIter I "str_ascii_iterator" (T l) t i) where
  item := fun {A d s am ls i p} {Q E} hr R hok st e K => by
    have hlt : i < l.length := by
      have := (List.getElem?_eq_some_iff.mp e).1
      simpa [signs] using this
    have hp : p = .str (T [l[i]]) := by
      have := (List.getElem?_eq_some_iff.mp e).2
      simp [signs] at this
      exact this.symm
    subst hp
    refine wpAny_pyNext_ascii_item (c := l[i]) st (by simp [T, hlt]) fun h' hit' hs => ?_
    have k : ∀ b o, b ∉ [I] → s.heap.get? b = some o → h'.get? b = some o := fun b o hb eo => (hs.2 b (by simpa using hb)).trans eo
    have z := K _ h' (s.toks + 1) (Nat.le_succ _) k hit' (.str (T [l[i]]) s.toks)
    obtain ⟨o, ho, hc, hd⟩ := hit'
    exact letOwned_other ho hc hd (by decide) z
  done := fun {A d s am ls Q E} hr R hok st K =>
    wpAny_pyNext_ascii_end hr.hand st (by simp [T, signs]) fun h' he => K h' s.toks (Nat.le_refl _) fun b o hb eo => he b o (by simpa using hb) eo
  self := fun st h => wpAny_pyIter_striter_ascii st h
  stay := fun st pf k => by
    obtain ⟨o, ho, r⟩ := st
    exact ⟨o, k _ (by simp) o ho, r⟩
  obj := fun st b hb => by
    obtain ⟨o, ho, hc, hd⟩ := st
    have : b = I := by simpa using hb
    subst this
    exact ⟨o, ho, tool_of hc hd (by decide)⟩
theorem src_str {target : Expr} {l : List Nat} (ha : ∀ c ∈ l, c < 128) : Src C target (.str (T l)) ls (fun _ => True) (signs l) := fun A d s am v Q E hr R hv K => by
  cases hv with
  | str _ t =>
    refine wpAny_pyIter_ascii (by simpa [T] using ha) ?_
    refine K s.heap.objs.size [s.heap.objs.size] _ _ s.toks (Nat.le_refl _) (itr_str l t _) (fun b o e => Heap.get?_push_of_some _ e) (fun b hb => ?_) ⟨_, Heap.get?_push_size _ rfl, rfl, rfl⟩
    have : b = s.heap.objs.size := by simpa using hb
    rw [this]; exact get_size
theorem e_callBK {fn : Str} {fp pos : Pos} {e : Expr} {args : List Expr} {kws : List Keyword} {id : String} {xs : List Str} (hf : ETo C env d (eval (.Name fn fp) env) ρ ls (.bi id) ls)
    (ha : LTo C env d (spliced (backTo pos (starEach (e :: args) env))) ρ ls ps ls1) (hk : LTo C env d (evalAll ((backToKw pos (keywordEach kws env)).map (·.2))) ρ ls1 qs ls2) (hx : (backToKw pos (keywordEach kws env)).filterMap (·.1) = xs)
    (hc : CTo C d (.builtin id) ps (xs.zip qs) ls2 p ls3) (he : backTo pos (starEach (e :: args) env) = (false, eval e env) :: backTo pos (starEach args env)) (hplain : (backTo pos (starEach (e :: args) env)).any (·.1) = false)
    (hall : (backToKw pos (keywordEach kws env)).all (·.1.isSome) = true) (hkw : (backToKw pos (keywordEach kws env)).any (·.1.isNone) = false) :
    ETo C env d (eval (.Call (.Name fn fp) (e :: args) kws pos) env) ρ ls p ls3 := fun A s am Q E hr R F K =>
  wpAny_Call_Name_kw (hf A s am _ E hr R F fun v h' tk am' p1 g1 R1 hv => by
    cases hv
    refine PyProof.Rows.callWith_kw ?_ he hplain hall hkw
    exact ha A { s with heap := h', toks := tk } am' _ E hr R1 (F.mono p1 g1) fun vs h2 tk2 am2 p2 g2 R2 hvs => hk A _ am2 _ E hr R2 (F.mono (p1.trans p2) (g1.trans g2)) fun ks h3 tk3 am3 p3 g3 R3 hks => by
      rw [hx]
      refine hc A _ am3 vs _ Q E hr R3 (RVs.mono p3 g3 hvs) (RKs.zip hks) fun v h4 tk4 am4 p4 g4 R4 hv => ?_
      exact K v h4 tk4 am4 (p1.trans (p2.trans (p3.trans p4))) (g1.trans (g2.trans (g3.trans g4))) R4 hv)
end
end Mine
end
section
open PySem PySem.W PySem.Calls PyProof.Rows
set_option maxRecDepth 100000
set_option linter.unusedVariables false
namespace Mine
section
variable {C : Cx} {env : Env} {d : Nat} {ρ ρ1 ρ2 ρ3 : Loc} {ls ls1 ls2 ls3 : LS} {p q r : PV} {f : PF} {ps qs : List PV}
theorem e_replace (ok : C.Ok) {o : Expr} {apos pos pa pb : Pos} {x y z : Str} {ka kb : Nat} (h1 : ETo C env d (eval o env) ρ ls (.str x) ls1) (hb : x.length + (x.length + 1) * z.length ≤ 16777216)
    (hbase : attributeBase o "replace" env (eval o env) = eval o env)
    (hfew : ((backTo pos (starEach [.Constant (.str y) ka pa, .Constant (.str z) kb pb] env)).all (fun x => !x.1) && (backToKw pos (keywordEach [] env)).all (fun x => x.1.isSome) && decide ([Expr.Constant (.str y) ka pa, .Constant (.str z) kb pb].length + ([] : List Keyword).length + (if ([] : List Keyword).isEmpty then 0 else 1) < 30)) = true)
    (hline : (apos.endLine == pos.line) = true) :
    ETo C env d (eval (.Call (.Attribute o "replace" apos) [.Constant (.str y) ka pa, .Constant (.str z) kb pb] [] pos) env) ρ ls (.str (Txt.replace x y z)) ls1 := fun A s am Q E hr R F K =>
  wpAny_Call_method hbase hfew hline PySem.F.plainAttrs_str PySem.F.slot_str_replace PySem.F.type_str_replace (h1 A s am _ E hr R F fun v h' tk am' p1 g1 R1 hv => by
    cases hv with
    | str _ t =>
    refine ⟨typeIs_str _ _ _, (fun _ e => by cases e), ?_⟩
    refine callWith_method1 (e := .Constant (.str y) ka pa) (rest := [.Constant (.str z) kb pb]) ?_ rfl rfl
    refine PyProof.Rows.spliced_more (wpAny_Constant_str ?_) rfl
    refine PyProof.Rows.spliced_more (wpAny_Constant_str ?_) rfl
    refine spliced_nil ?_
    refine toks_up ?_
    have hp := R1.pos
    refine SC.replaceA (Nat.ne_of_gt hp) (Nat.succ_ne_zero _) (Nat.ne_of_lt (Nat.lt_succ_self _)) hb (fun t' k hle => ?_) (ok.bkAt R1)
    refine K _ h' k am' p1 g1 (R1.up (Nat.le_trans ?_ hle)) (.str _ _)
    show tk ≤ tk + 1 + 1
    lia)
end
end Mine
end
section
open PySem PySem.W PySem.Calls PyProof.Rows
set_option maxRecDepth 100000
set_option linter.unusedVariables false
set_option maxHeartbeats 4000000
namespace Mine
/-! rows -/
def replA (m : List Nat) : Str := Txt.replace (T m) "\r\n" "\n"
def replB (m : List Nat) : Str := Txt.replace (replA m) "\r" "\n"
def rows0 (m : List Nat) : List (List Nat) := (Txt.split (replB m) "\n").map fun s => s.cps.toList
def lastE (l : List (List Nat)) : Bool := decide (1 < l.length) && decide (l.getD (l.length - 1) [1] = [])
def rowsL (m : List Nat) : List (List Nat) := if lastE (rows0 m) then (rows0 m).dropLast else rows0 m
theorem T_of (s : Str) : T s.cps.toList = s := by cases s; simp [T]
theorem rows0_T (m : List Nat) : (Txt.split (replB m) "\n").map PV.str = txs (rows0 m) := by
  unfold rows0 txs
  rw [List.map_map]
  refine List.map_congr_left fun s _ => ?_
  show PV.str s = PV.str (T s.cps.toList)
  rw [T_of]
theorem rows_fits : ∀ k, k < 85 → (replA (mailK k)).length ≤ 10 ∧ (replB (mailK k)).length ≤ 10 ∧ (rows0 (mailK k)).length ≤ 10 ∧ 1 ≤ (rows0 (mailK k)).length ∧ (Builtin.Str.partsBetween (replB (mailK k)) (Builtin.Str.occurrences (replB (mailK k)) "\n" 0 (replB (mailK k)).length ((replB (mailK k)).length + 1)) 1).length ≤ 10 ∧ (mailK k).length ≤ 3 := by decide +kernel
section
variable {C : Cx} {env : Env} {d : Nat} {ρ ρ1 ρ2 : Loc} {ls ls1 ls2 ls3 : LS} {p q r : PV} {ps qs : List PV}
theorem e_sliceE {value : Expr} {lower upper : Option Expr} {pp pos : Pos} {n k : Nat} {l l' : List PV} {ls4 : LS} {lo hi : Option Int} (h1 : ETo C env d (eval value env) ρ ls (.lst n) ls1) (hlo : PTo C env d ρ lower ls1 lo ls2) (hhi : PTo C env d ρ upper ls2 hi ls3) (hn : ls3[n]? = some l) (hz : l.length ≤ sizeLine)
    (ek : ls3.length = k) (e4 : pick l lo hi = l') (e5 : ls3 ++ [l'] = ls4) : ETo C env d (eval (.Subscript value (.Slice lower upper none pp) pos) env) ρ ls (.lst k) ls4 := by
  subst ek e4 e5
  exact e_slice h1 hlo hhi hn hz
theorem pick_init {l : List PV} : pick l none (some (-1)) = l.dropLast := by
  unfold pick kms_lo kms_hi
  simp [List.dropLast_eq_take]
end
theorem c_split_nl {C : Cx} {d : Nat} {ls : LS} {k : Nat} (hk : k < 85) : CTo C d (.builtin "str.split") [.str (replB (mailK k)), .str "\n"] [] ls (.lst ls.length) (ls ++ [txs (rows0 (mailK k))]) := by
  have hs : (10000 : Nat) ≤ sizeLine := by decide
  obtain ⟨h1, h2, h3, h4, h5, h6⟩ := rows_fits k hk
  have z := c_split (C := C) (d := d) (ls := ls) (x := replB (mailK k)) (y := "\n") (by decide +kernel) (by lia) (Nat.le_trans h5 (by lia))
  rw [rows0_T] at z
  exact z
theorem dropLast_txs (l : List (List Nat)) : (txs l).dropLast = txs l.dropLast := by
  unfold txs; rw [List.map_dropLast]
theorem rows_spec {C : Cx} {d : Nat} {ls : LS} (g2 : G2 C) (hf : FlatLS ls) {k : Nat} (hk : k < 85) : CTo C (d + 1) (.ref 110) [.str (T (mailK k))] [] ls (.lst ls.length) (ls ++ [txs (rowsL (mailK k))]) := by
  have hs : (10000 : Nat) ≤ sizeLine := by decide
  obtain ⟨f1, f2, f3, f4, f5, f6⟩ := rows_fits k hk
  have fT : (T (mailK k)).length ≤ 3 := by rw [T_len]; exact f6
  have mk : ∀ l : List (List Nat), ∀ x ∈ txs l, Flat x := fun l x hx => by
    obtain ⟨y, _, rfl⟩ := List.mem_map.mp hx
    exact .str _
  have hcd : ∀ n X, (n = ls.length ∧ X = [] ∧ lastE (rows0 (mailK k)) = false ∨ n = ls.length + 1 ∧ X = [txs (rows0 (mailK k)).dropLast] ∧ lastE (rows0 (mailK k)) = true) → CTo C (d + 1) (.ref 110) [.str (T (mailK k))] [] ls (.lst n) (ls ++ [txs (rows0 (mailK k))] ++ X) := by
    intro n X hnX
    refine c_def (xs := ["mail"]) g2.ok (g2.k _ _ (by with_unfolding_all rfl)) (by with_unfolding_all rfl) ?hcd (by with_unfolding_all rfl) ?hbind (by rfl) ?hkind (by decide) (by rfl) (by rfl) (by rfl) ?_
    case hcd => exact codeRec_of g2.k (by with_unfolding_all rfl)
    case hbind =>
      intro vs hl
      obtain ⟨a, rfl⟩ := vlen1 hl
      rfl
    case hkind => intro L; rfl
    intro L
    generalize he : callEnvC _ L 110 = env
    have c0 := c_split_nl (C := C) (d := d) (ls := ls) hk
    have e10 : ("\n" : Str).length = 1 := by decide +kernel
    refine r_consE (P := fun ρ ls1 => ls ++ [txs (rows0 (mailK k))] = ls1 ∧ LK ρ "rows" (.lst ls.length)) (XE.of (ρ1 := pset ([("mail" : Str)].zip [PV.str (T (mailK k))]) "rows" (.lst ls.length)) (ls1 := ls ++ [txs (rows0 (mailK k))]) ?_ ⟨rfl, by walk_at "m-look"⟩) ?_
    · walk_at "m-asg"
      refine e_meth (p := .str (replB (mailK k))) (ps := [.str "\n"]) (ls1 := ls) (ls2 := ls) (T := "str") (id := "str.split") ?_ ty_str PySem.F.plainAttrs_str PySem.F.slot_str_split PySem.F.type_str_split ?_ c0 rfl rfl rfl rfl rfl
      · refine e_replace (x := replA (mailK k)) g2.ok (e_replace (x := T (mailK k)) g2.ok (by walk_at "m") ?_ rfl rfl rfl) ?_ rfl rfl rfl
        · rw [e10]; lia
        · rw [e10]; lia
      · walk_at "m"
    rintro ρ _ ⟨rfl, l1⟩
    have hn0 : (ls ++ [txs (rows0 (mailK k))])[ls.length]? = some (txs (rows0 (mailK k))) := by simp
    have hlen : (txs (rows0 (mailK k))).length = (rows0 (mailK k)).length := by simp
    have hne : (rows0 (mailK k)).length ≠ 0 := by lia
    have hlast : (txs (rows0 (mailK k)))[((-1 : Int) + (txs (rows0 (mailK k))).length).toNat]? = some (.str (T ((rows0 (mailK k)).getD ((rows0 (mailK k)).length - 1) [1]))) := by
      have e : ((-1 : Int) + (txs (rows0 (mailK k))).length).toNat = (rows0 (mailK k)).length - 1 := by rw [hlen]; lia
      rw [e, List.getElem?_map, List.getD_eq_getElem?_getD, List.getElem?_eq_getElem (by lia)]; rfl
    have e0 : ("" : Str) = T [] := rfl
    refine r_if (b := lastE (rows0 (mailK k))) (ls1 := ls ++ [txs (rows0 (mailK k))]) (ρ1 := ρ) ?_ (fun hb => ?_) (fun hb => ?_)
    · refine b_and (BTo.to (b := decide (((rows0 (mailK k)).length : Int) > 1) && (decide ((rows0 (mailK k)).getD ((rows0 (mailK k)).length - 1) [1] = []) && true)) (b_and_cons ?_ fun _ => b_and_cons ?_ fun _ => b_and_nil) ?_)
      · rw [← hlen]
        have c1 := c_len_lst (C := C) (d := d) (ls := ls ++ [txs (rows0 (mailK k))]) hn0 (by lia)
        walk_at "m"
      · rw [← T_beq]
        refine b_cmp (ls1 := ls ++ [txs (rows0 (mailK k))]) (ls2 := ls ++ [txs (rows0 (mailK k))]) (e_sub (ls1 := ls ++ [txs (rows0 (mailK k))]) (ls2 := ls ++ [txs (rows0 (mailK k))]) (by walk_at "m") e_negc (t_lst_neg trivial hn0 (by decide) (by rw [hlen]; lia) (by decide) hlast)) (e_lit e0) o_eq_str rfl
      · unfold lastE
        rw [Bool.and_true]
        congr 1
        exact decide_eq_decide.mpr (by lia)
    · rcases hnX with ⟨rfl, rfl, h⟩ | ⟨rfl, rfl, h⟩
      · rw [h] at hb; cases hb
      · with_reducible apply x_ret
        with_reducible apply x_return
        refine e_sliceE (ls1 := ls ++ [txs (rows0 (mailK k))]) (ls2 := ls ++ [txs (rows0 (mailK k))]) (ls3 := ls ++ [txs (rows0 (mailK k))]) (n := ls.length) (l := txs (rows0 (mailK k))) (l' := txs (rows0 (mailK k)).dropLast) (lo := none) (hi := some (-1)) (by walk_at "m") .none (.some e_negc) hn0 (by rw [hlen]; lia) (by simp) (by rw [pick_init, dropLast_txs]) rfl
    · rcases hnX with ⟨rfl, rfl, h⟩ | ⟨rfl, rfl, h⟩
      · rw [List.append_nil]
        walk_at "m"
      · rw [h] at hb; cases hb
  cases h : lastE (rows0 (mailK k)) with
  | false =>
    have z := hcd ls.length [] (.inl ⟨rfl, rfl, h⟩)
    unfold rowsL
    rw [h]
    simpa using z
  | true =>
    have z := hcd (ls.length + 1) [txs (rows0 (mailK k)).dropLast] (.inr ⟨rfl, rfl, h⟩)
    rw [List.append_assoc] at z
    have z2 := CTo.keep (l := txs (rows0 (mailK k)).dropLast) z hf rfl (by lia) (by simp) (mk _)
    unfold rowsL
    rw [h]
    simpa using z2
end Mine
end
section
open PySem PySem.W PySem.Calls PyProof.Rows
set_option maxRecDepth 100000
set_option linter.unusedVariables false
set_option maxHeartbeats 4000000
namespace Mine
/-! places -/
def ixOf (c : Nat) : Nat := if c = 10 then 0 else if c = 13 then 1 else if c = 46 then 2 else 3
theorem ixOf_lt (c : Nat) : ixOf c < 4 := by unfold ixOf; split <;> (try split) <;> (try split) <;> lia
def numL (l : List Nat) : Nat := l.foldl (fun n c => 4 * n + ixOf c) 0
theorem numL_snoc (l : List Nat) (c : Nat) : numL (l ++ [c]) = 4 * numL l + ixOf c := by unfold numL; simp
theorem fold_lt : ∀ (l : List Nat) (n : Nat), l.foldl (fun n c => 4 * n + ixOf c) n < 4 ^ l.length * (n + 1)
  | [], n => by simp
  | c :: r, n => by
    have ih := fold_lt r (4 * n + ixOf c)
    have h := ixOf_lt c
    rw [List.foldl_cons, List.length_cons]
    refine Nat.lt_of_lt_of_le ih ?_
    rw [Nat.pow_succ, Nat.mul_assoc]
    exact Nat.mul_le_mul_left _ (by lia)
theorem numL_lt (l : List Nat) : numL l < 4 ^ l.length := by have := fold_lt l 0; simpa [numL] using this
def SgAll (l : List Nat) : Prop := ∀ c ∈ l, c = 10 ∨ c = 13 ∨ c = 46 ∨ c = 97
def placeL (l : List Nat) : Nat := numL l * 4 ^ (12 - l.length)
theorem c_sign {C : Cx} {d : Nat} {ls : LS} {c : Nat} (h : c = 10 ∨ c = 13 ∨ c = 46 ∨ c = 97) : CTo C d (.builtin "str.index") [.str "\n\r.a", .str (T [c])] [] ls (.int (ixOf c : Nat)) ls := by
  rcases h with rfl | rfl | rfl | rfl
  · exact c_index (i := 0) (rest := []) (by decide +kernel)
  · exact c_index (i := 1) (rest := []) (by decide +kernel)
  · exact c_index (i := 2) (rest := []) (by decide +kernel)
  · exact c_index (i := 3) (rest := []) (by decide +kernel)
theorem place_spec {C : Cx} {d : Nat} {ls : LS} (g2 : G2 C) {l : List Nat} (hl : l.length ≤ 12) (hs : SgAll l) : CTo C (d + 1) (.ref 122) [.str (T l)] [] ls (.int (placeL l)) ls := by
  refine c_def (xs := ["stream"]) g2.ok (g2.k _ _ (by with_unfolding_all rfl)) (by with_unfolding_all rfl) ?hcd (by with_unfolding_all rfl) ?hbind (by rfl) ?hkind (by decide) (by rfl) (by rfl) (by rfl) ?_
  case hcd => exact codeRec_of g2.k (by with_unfolding_all rfl)
  case hbind =>
    intro vs hl
    obtain ⟨a, rfl⟩ := vlen1 hl
    rfl
  case hkind => intro L; rfl
  intro L
  generalize he : callEnvC _ L 122 = env
  refine r_consE (P := fun ρ ls1 => ls = ls1 ∧ LK ρ "stream" (.str (T l)) ∧ LK ρ "number" (.int 0)) (XE.of (ρ1 := pset ([("stream" : Str)].zip [PV.str (T l)]) "number" (.int 0)) (ls1 := ls) (by walk_at "m") ⟨rfl, by walk_at "m-look", by walk_at "m-look"⟩) ?_
  rintro ρ _ ⟨rfl, l1, l2⟩
  have hp : ∀ i, numL (l.take i) < 4 ^ 12 := fun i => Nat.lt_of_lt_of_le (numL_lt _) (Nat.pow_le_pow_right (by decide) (by rw [List.length_take]; lia))
  refine r_consE (P := fun ρ ls1 => ls = ls1 ∧ LK ρ "stream" (.str (T l)) ∧ LK ρ "number" (.int (numL l : Nat))) ?_ ?_
  · refine XE.mono (xe_for (p := .str (T l)) (ls1 := ls) (items := signs l) (fun i ρ ls1 => ls = ls1 ∧ LK ρ "stream" (.str (T l)) ∧ LK ρ "number" (.int (numL (l.take i) : Nat))) (by walk_at "m") (src_str fun c hc => ?_) ⟨rfl, l1, l2⟩ (fun _ _ _ _ _ => trivial) ?_ (fun _ => rfl)) fun ρ ls1 h => ?_
    · rcases hs c hc with rfl | rfl | rfl | rfl <;> decide
    · rintro i q ρ _ hi ⟨rfl, l1, l2⟩
      unfold signs at hi
      rw [List.getElem?_map, Option.map_eq_some_iff] at hi
      obtain ⟨c, hc, rfl⟩ := hi
      have hcs := hs c (List.mem_of_getElem? hc)
      have ci := c_sign (C := C) (d := d) (ls := ls) hcs
      refine ⟨_, a_loc (by first | exact kind_at2 he1 he rfl | exact kind_at he rfl | exact rel_at he rfl | exact clos_at he rfl | exact swap_at he rfl | exact inter_at he rfl | exact cell_at he rfl | exact kind_atc he rfl), ?_⟩
      have m0 : LK (pset ρ "sign" (.str (T [c]))) "sign" (.str (T [c])) := by walk_at "m-look"
      have m1 : LK (pset ρ "sign" (.str (T [c]))) "stream" (.str (T l)) := by walk_at "m-look"
      have m2 : LK (pset ρ "sign" (.str (T [c]))) "number" (.int (numL (l.take i) : Nat)) := by walk_at "m-look"
      show XE _ _ _ _ (pset ρ "sign" (.str (T [c]))) _ _ _
      generalize pset ρ "sign" (.str (T [c])) = ρ' at m0 m1 m2 ⊢
      have ht : l.take (i + 1) = l.take i ++ [c] := by rw [List.take_add_one, hc]; rfl
      have hn := hp i
      refine xe_one (XE.of (ρ1 := pset ρ' "number" (.int (4 * (numL (l.take i) : Nat) + (ixOf c : Nat)))) (ls1 := ls) ?_ ⟨rfl, by walk_at "m-look", ?_⟩)
      · walk_at "m-asg"
        refine e_bin (ls1 := ls) (ls2 := ls) (e_bin (ls1 := ls) (ls2 := ls) e_int (by walk_at "m") (o_muls (by decide))) ?_ o_add_int
        refine e_meth (p := .str "\n\r.a") (ps := [.str (T [c])]) (ls1 := ls) (ls2 := ls) (T := "str") (id := "str.index") e_str ty_str PySem.F.plainAttrs_str PySem.F.slot_str_index PySem.F.type_str_index ?_ ci rfl rfl rfl rfl rfl
        walk_at "m"
      · rw [ht, numL_snoc]
        have e : (4 * (numL (l.take i) : Nat) + (ixOf c : Nat) : Int) = ((4 * numL (l.take i) + ixOf c : Nat) : Int) := by lia
        rw [e]; walk_at "m-look"
    · obtain ⟨h1, h2, h3⟩ := h
      have e : l.take (signs l).length = l := by unfold signs; simp
      rw [e] at h3
      exact ⟨h1, h2, h3⟩
  · rintro ρ _ ⟨rfl, l1, l2⟩
    have hn := hp 12
    rw [List.take_of_length_le hl] at hn
    have cl := c_len_str (C := C) (d := d) (ls := ls) (x := T l) (by rw [T_len]; lia)
    rw [T_len] at cl
    have e : (placeL l : Int) = (numL l : Int) * 4 ^ ((12 : Int) - (l.length : Int)).toNat := by
      have e2 : ((12 : Int) - (l.length : Int)).toNat = 12 - l.length := by lia
      rw [e2]; unfold placeL; simp
    rw [e]
    with_reducible apply r_return
    refine e_bin (ls1 := ls) (ls2 := ls) (by walk_at "m") ?_ (o_muls (by lia))
    refine e_bin (ls1 := ls) (ls2 := ls) e_int ?_ (o_pow4 (by lia) (by lia))
    walk_at "m"
end Mine
end
section
open PySem PySem.W PySem.Calls PyProof.Rows
set_option maxRecDepth 100000
set_option linter.unusedVariables false
set_option maxHeartbeats 4000000
namespace Mine
/-! marks -/
theorem fn110 {C : Cx} (g : G2 C) : Fn C 110 := ⟨_, _, g.k _ _ (by with_unfolding_all rfl), by with_unfolding_all rfl⟩
def mk1 (c : Nat) : Int := if c = 46 then 2 else 3
def rowM (r : List Nat) : List Int := r.map mk1 ++ [0]
def mkAt (R : List (List Nat)) : List Int := R.flatMap rowM
def marksL (m : List Nat) : List Int := mkAt (rowsL m) ++ [1]
theorem mkAt_snoc (R : List (List Nat)) (r : List Nat) : mkAt (R ++ [r]) = mkAt R ++ rowM r := by unfold mkAt; simp
theorem marks_fits : ∀ k, k < 85 → (∀ r ∈ rowsL (mailK k), (∀ c ∈ r, c < 128) ∧ r.length ≤ 5) ∧ (∀ i, i < 6 → (mkAt ((rowsL (mailK k)).take i)).length ≤ 20) ∧ (rowsL (mailK k)).length ≤ 5 := by decide +kernel
theorem flat_snoc {ls : LS} {l : List PV} (h : FlatLS ls) (k : ∀ x ∈ l, Flat x) : FlatLS (ls ++ [l]) := fun m hm => by
  rcases List.mem_append.mp hm with hm | hm
  · exact h m hm
  · rw [List.mem_singleton.mp hm]; exact k
theorem flat_map {α : Type} {f : α → PV} (l : List α) (h : ∀ a, Flat (f a)) : ∀ x ∈ l.map f, Flat x := fun x hx => by
  obtain ⟨a, _, rfl⟩ := List.mem_map.mp hx
  exact h a
theorem marks_spec {C : Cx} {d : Nat} {ls : LS} (g2 : G2 C) (hf : FlatLS ls) {k : Nat} (hk : k < 85) : CTo C (d + 2) (.ref 115) [.str (T (mailK k))] [] ls (.lst ls.length) (ls ++ [(marksL (mailK k)).map .int]) := by
  have hs : (10000 : Nat) ≤ sizeLine := by decide
  obtain ⟨b1, b2, b3⟩ := marks_fits k hk
  have rs := rows_spec (C := C) (d := d) (ls := ls ++ [[]]) g2 (flat_snoc hf fun _ h => nomatch h) hk
  rw [List.append_assoc, List.singleton_append, List.length_append, List.length_singleton] at rs
  unfold marksL
  generalize rowsL (mailK k) = W at *
  have f110 := fn110 g2
  refine CTo.keep (X := [(mkAt W ++ [1]).map .int, txs W]) (n := ls.length) ?_ hf rfl (by lia) (by simp) (flat_map _ fun a => .int a)
  refine c_def (xs := ["mail"]) g2.ok (g2.k _ _ (by with_unfolding_all rfl)) (by with_unfolding_all rfl) ?hcd (by with_unfolding_all rfl) ?hbind (by rfl) ?hkind (by decide) (by rfl) (by rfl) (by rfl) ?_
  case hcd => exact codeRec_of g2.k (by with_unfolding_all rfl)
  case hbind =>
    intro vs hl
    obtain ⟨a, rfl⟩ := vlen1 hl
    rfl
  case hkind => intro L; rfl
  intro L
  generalize he : callEnvC _ L 115 = env
  refine r_consE (P := fun ρ ls1 => ls ++ [[]] = ls1 ∧ LK ρ "mail" (.str (T (mailK k))) ∧ LK ρ "marks" (.lst ls.length)) (XE.of (ρ1 := pset ([("mail" : Str)].zip [PV.str (T (mailK k))]) "marks" (.lst ls.length)) (ls1 := ls ++ [[]]) (by walk_at "m") ⟨rfl, by walk_at "m-look", by walk_at "m-look"⟩) ?_
  rintro ρ _ ⟨rfl, l1, l2⟩
  have fB : ∀ i, FlatLS (ls ++ [(mkAt (W.take i)).map .int, txs W]) := fun i => by
    have := flat_snoc (flat_snoc hf (flat_map (mkAt (W.take i)) fun a => .int a)) (flat_map W fun x => .str (T x))
    rwa [List.append_assoc] at this
  refine r_consE (P := fun ρ ls1 => ls ++ [(mkAt W).map .int, txs W] = ls1 ∧ LK ρ "marks" (.lst ls.length)) ?_ ?_
  · refine XE.mono (xe_for (p := .lst (ls.length + 1)) (ls1 := ls ++ [[], txs W]) (ok := fun ls1 => ls1[ls.length + 1]? = some (txs W)) (items := txs W) (fun i ρ ls1 => ls ++ [(mkAt (W.take i)).map .int, txs W] = ls1 ∧ LK ρ "marks" (.lst ls.length)) ?_ (src_list (by simp)) ⟨rfl, l2⟩ ?_ ?_ (fun _ => rfl)) fun ρ ls1 h => ?_
    · walk_at "m"
    · rintro i ρ ls1 _ ⟨rfl, _⟩; simp
    · rintro i q ρ _ hi ⟨rfl, l2⟩
      rw [List.getElem?_map, Option.map_eq_some_iff] at hi
      obtain ⟨r, hr, rfl⟩ := hi
      have hrow := b1 r (List.mem_of_getElem? hr)
      have hil : i < W.length := (List.getElem?_eq_some_iff.mp hr).1
      have hb := b2 i (by lia)
      have htk : W.take (i + 1) = W.take i ++ [r] := by rw [List.take_add_one, hr]; rfl
      have fBi := fB i
      rw [htk, mkAt_snoc]
      generalize mkAt (W.take i) = M at *
      refine ⟨_, a_loc (by first | exact kind_at2 he1 he rfl | exact kind_at he rfl | exact rel_at he rfl | exact clos_at he rfl | exact swap_at he rfl | exact inter_at he rfl | exact cell_at he rfl | exact kind_atc he rfl), ?_⟩
      have m0 : LK (pset ρ "row" (.str (T r))) "row" (.str (T r)) := by walk_at "m-look"
      have m1 : LK (pset ρ "row" (.str (T r))) "marks" (.lst ls.length) := by walk_at "m-look"
      show XE _ _ _ _ (pset ρ "row" (.str (T r))) _ _ _
      generalize pset ρ "row" (.str (T r)) = ρ' at m0 m1 ⊢
      have fB2 : FlatLS (ls ++ [(M ++ r.map mk1).map .int, txs W]) := by
        have := flat_snoc (flat_snoc hf (flat_map (M ++ r.map mk1) fun a => .int a)) (flat_map W fun x => .str (T x))
        rwa [List.append_assoc] at this
      refine xe_cons (ρ1 := ρ') (ls1 := ls ++ [(M ++ r.map mk1).map .int, txs W]) ?_ (xe_one (XE.of (ρ1 := ρ') (ls1 := ls ++ [(M ++ rowM r).map .int, txs W]) ?_ ⟨rfl, m1⟩))
      · refine x_expr (ETo.drop (X := [(r.map mk1).map .int]) ?_ fB2.low (by simp) .none) (by first | exact kind_at2 he1 he rfl | exact kind_at he rfl | exact rel_at he rfl | exact clos_at he rfl | exact swap_at he rfl | exact inter_at he rfl | exact cell_at he rfl | exact kind_atc he rfl) rfl
        have hex := c_extend (C := C) (d := d + 1) (ls := ls ++ [M.map .int, txs W] ++ [(r.map mk1).map .int]) (n := ls.length) (m := ls.length + 2) (l := M.map .int) (k := (r.map mk1).map .int) (by simp) (by simp) (by simp; lia)
        have e1 : (ls ++ [M.map PV.int, txs W] ++ [(r.map mk1).map PV.int]).set ls.length (M.map PV.int ++ (r.map mk1).map PV.int) = ls ++ [(M ++ r.map mk1).map PV.int, txs W] ++ [(r.map mk1).map PV.int] := by
          rw [List.map_append, List.append_assoc, List.append_assoc]; simp
        rw [e1] at hex
        refine e_meth (p := .lst ls.length) (ps := [.lst (ls.length + 2)]) (ls1 := ls ++ [M.map .int, txs W]) (ls2 := ls ++ [M.map .int, txs W] ++ [(r.map mk1).map .int]) (T := "list") (id := "list.extend") ?_ (ty_lst (l := M.map .int) (by simp)) PySem.F.plainAttrs_list PySem.F.slot_list_extend PySem.F.type_list_extend ?_ hex rfl rfl rfl rfl rfl
        · walk_at "m"
        · refine l_cons (ls1 := ls ++ [M.map .int, txs W] ++ [(r.map mk1).map .int]) ?_ l_nil rfl
          have ek : (ls ++ [M.map .int, txs W]).length = ls.length + 2 := by simp
          rw [← ek]
          refine e_comp (p := .str (T r)) (ls1 := ls ++ [M.map .int, txs W]) (cl := []) (ρc := []) (items := signs r) (by walk_at "m") (src_str hrow.1) (by first | exact kind_at2 he1 he rfl | exact kind_at he rfl | exact rel_at he rfl | exact clos_at he rfl | exact swap_at he rfl | exact inter_at he rfl | exact cell_at he rfl | exact kind_atc he rfl) .nil .nil ?_ rfl (by decide) (fun _ => rfl)
          intro Lc
          rw [List.map_map]
          refine cp_map0 (fun c => .str (T [c])) (fun c => .int (mk1 c)) (ls ++ [M.map .int, txs W]) (fun ρ => True) rfl (fun l => trivial) r _ trivial (by lia) ?_
          intro c hc ρ1 l _
          generalize he1 : cenvOf _ env Lc _ = env1
          refine ⟨_, a_loc (by first | exact kind_at2 he1 he rfl | exact kind_at he rfl | exact rel_at he rfl | exact clos_at he rfl | exact swap_at he rfl | exact inter_at he rfl | exact cell_at he rfl | exact kind_atc he rfl), ?_, trivial⟩
          have e46 : ("." : Str) = T [46] := by decide +kernel
          refine e_if (b := decide ([c] = [46])) (ls1 := ls ++ [M.map .int, txs W] ++ [l]) ?_ (fun hb => ?_) (fun hb => ?_)
          · rw [← T_beq]; walk_at "m"
          · have : c = 46 := by simpa using hb
            subst this
            exact e_int
          · have : ¬ c = 46 := by simpa using hb
            unfold mk1; rw [if_neg this]
            exact e_int
      · have hap := c_append (C := C) (d := d + 1) (ls := ls ++ [(M ++ r.map mk1).map .int, txs W]) (p := .int 0) (n := ls.length) (l := (M ++ r.map mk1).map .int) (by simp) (by simp; lia)
        have e1 : (ls ++ [(M ++ r.map mk1).map PV.int, txs W]).set ls.length ((M ++ r.map mk1).map .int ++ [.int 0]) = ls ++ [(M ++ rowM r).map .int, txs W] := by unfold rowM; simp
        rw [e1] at hap
        refine x_expr ?_ (by first | exact kind_at2 he1 he rfl | exact kind_at he rfl | exact rel_at he rfl | exact clos_at he rfl | exact swap_at he rfl | exact inter_at he rfl | exact cell_at he rfl | exact kind_atc he rfl) rfl
        refine e_meth (p := .lst ls.length) (ls1 := ls ++ [(M ++ r.map mk1).map .int, txs W]) (ls2 := ls ++ [(M ++ r.map mk1).map .int, txs W]) (T := "list") (id := "list.append") ?_ (ty_lst (l := (M ++ r.map mk1).map .int) (by simp)) PySem.F.plainAttrs_list PySem.F.slot_list_append PySem.F.type_list_append ?_ hap rfl rfl rfl rfl rfl
        · walk_at "m"
        · walk_at "m"
    · obtain ⟨h1, h2⟩ := h
      have e : W.take (txs W).length = W := by simp
      rw [e] at h1
      exact ⟨h1, h2⟩
  · rintro ρ _ ⟨rfl, l2⟩
    have hb := b2 5 (by decide)
    rw [List.take_of_length_le b3] at hb
    have hap := c_append (C := C) (d := d + 1) (ls := ls ++ [(mkAt W).map .int, txs W]) (p := .int 1) (n := ls.length) (l := (mkAt W).map .int) (by simp) (by simp; lia)
    have e1 : (ls ++ [(mkAt W).map PV.int, txs W]).set ls.length ((mkAt W).map .int ++ [.int 1]) = ls ++ [(mkAt W ++ [1]).map .int, txs W] := by simp
    rw [e1] at hap
    refine r_cons (ρ1 := ρ) (ls1 := ls ++ [(mkAt W ++ [1]).map .int, txs W]) (x_expr ?_ (by first | exact kind_at2 he1 he rfl | exact kind_at he rfl | exact rel_at he rfl | exact clos_at he rfl | exact swap_at he rfl | exact inter_at he rfl | exact cell_at he rfl | exact kind_atc he rfl) rfl) (by walk_at "m")
    refine e_meth (p := .lst ls.length) (ls1 := ls ++ [(mkAt W).map .int, txs W]) (ls2 := ls ++ [(mkAt W).map .int, txs W]) (T := "list") (id := "list.append") ?_ (ty_lst (l := (mkAt W).map .int) (by simp)) PySem.F.plainAttrs_list PySem.F.slot_list_append PySem.F.type_list_append ?_ hap rfl rfl rfl rfl rfl
    · walk_at "m"
    · walk_at "m"
end Mine
end
section
open PySem PySem.W PySem.Calls PyProof.Rows
set_option maxRecDepth 100000
set_option linter.unusedVariables false
namespace Mine
section
variable {C : Cx} {env : Env} {d : Nat} {ρ ρ1 ρ2 ρ3 : Loc} {ls ls1 ls2 ls3 : LS} {p q r : PV} {f : PF} {ps qs : List PV}
/-- a walk that may stop with a value -/
def runs {α β : Type} (nx : β → α → β ⊕ PV) : List α → β → β × Option PV
  | [], b => (b, none)
  | a :: as, b => match nx b a with
    | .inl b' => runs nx as b'
    | .inr p => (b, some p)
def flowOf : Option PV → PF
  | none => .next
  | some p => .ret p
theorem lp_fold {α β : Type} {target : Expr} {body : List Stmt} {ok : LS → Prop} (u : α → PV) (nx : β → α → β ⊕ PV) (B : β → LS) (J : Loc → Prop) (G : Nat → β → Prop) (hok : ∀ b, ok (B b)) :
    ∀ (items : List α) (b : β) (ρ : Loc), J ρ → G items.length b →
    (∀ k b a ρ, a ∈ items → G (k + 1) b → J ρ → ∃ ρ1, ATo C env target ρ (u a) ρ1 ∧
      ((∃ b', nx b a = .inl b' ∧ G k b' ∧ ∃ ρ2, XTo C env d (execs body env) ρ1 (B b) .next ρ2 (B b') ∧ J ρ2) ∨ (∃ p, nx b a = .inr p ∧ ∃ ρ2, XTo C env d (execs body env) ρ1 (B b) (.ret p) ρ2 (B b)))) →
    ∃ ρ1, Lp C env d target body ok (items.map u) ρ (B b) (flowOf (runs nx items b).2) ρ1 (B (runs nx items b).1)
  | [], b, ρ, hj, hg, h => ⟨ρ, .nil (hok b)⟩
  | a :: as, b, ρ, hj, hg, h => by
    obtain ⟨ρ1, ha, hb⟩ := h as.length b a ρ (by simp) hg hj
    rcases hb with ⟨b', hn, hg', ρ2, hx, hj'⟩ | ⟨p, hn, ρ2, hx⟩
    · obtain ⟨ρ3, hl⟩ := lp_fold u nx B J G hok as b' ρ2 hj' hg' fun k b a ρ hm => h k b a ρ (List.mem_cons_of_mem _ hm)
      refine ⟨ρ3, ?_⟩
      unfold runs
      rw [hn]
      exact .next (hok b) ha hx hl
    · refine ⟨ρ2, ?_⟩
      unfold runs
      rw [hn]
      exact .ret (hok b) ha hx
theorem r_for {target iter : Expr} {body rest : List Stmt} {pos : Pos} {ok : LS → Prop} {items : List PV} {o : Option PV} (h : ETo C env d (eval iter env) ρ ls p ls1) (S : Src C target p ls1 ok items) (L : ∃ ρ1, Lp C env d target body ok items ρ ls1 (flowOf o) ρ1 ls2)
    (h1 : ∀ x, o = some x → x = r) (h2 : ∀ ρ1, o = none → RTo C env d (execs rest env) ρ1 ls2 r ls2) (hs : ∀ x, foldedSetIterable iter env x = pure x) : RTo C env d (execs (.For target iter body [] pos :: rest) env) ρ ls r ls2 := by
  obtain ⟨ρ1, L⟩ := L
  cases o with
  | none => exact r_cons (x_for h S L hs) (h2 ρ1 rfl)
  | some x =>
    have := h1 x rfl
    subst this
    exact r_xret (x_for h S L hs)
theorem o_in_c {c : Nat} {l : List Nat} : V2To C d (.str (T [c])) (.str (T l)) (compareOp .In) ls (.bool (decide (c ∈ l))) ls := by
  have e := StrLaws.found_one (T l) c
  have e2 : (T l).cps.toList = l := by simp [T]
  rw [e2] at e
  rw [← e]
  exact o_in_str
end
theorem pick_t1 (l : List Nat) (n : Nat) : pickL l none (some (n : Int)) = l.take n := by
  unfold pickL kms_lo kms_hi
  simp only [List.drop_zero, Nat.sub_zero]
  have h : ¬ ((n : Int) < 0) := by lia
  rw [if_neg h]
  rw [Int.toNat_natCast]
  by_cases hl : n ≤ l.length
  · rw [Nat.min_eq_left hl]
  · rw [Nat.min_eq_right (by lia), List.take_of_length_le (Nat.le_refl _), List.take_of_length_le (by lia)]
theorem pick_d1 (l : List Nat) (n : Nat) : pickL l (some (n : Int)) none = l.drop n := by
  unfold pickL kms_lo kms_hi
  have h : ¬ ((n : Int) < 0) := by lia
  simp only
  rw [if_neg h]
  rw [Int.toNat_natCast]
  by_cases hl : n ≤ l.length
  · rw [Nat.min_eq_left hl, List.take_of_length_le (by simp)]
  · rw [Nat.min_eq_right (by lia), List.drop_of_length_le (Nat.le_refl _), List.drop_of_length_le (by lia)]; simp
end Mine
end
section
open PySem PySem.W PySem.Calls PyProof.Rows PySem.StrLaws PySem.Builtin PySem.Builtin.Str
set_option maxRecDepth 100000
set_option linter.unusedVariables false
namespace Mine
/-! the split at both signs of a row's end -/
def spl : List Nat → List Nat → List (List Nat)
  | cur, [] => [cur]
  | cur, 13 :: 10 :: r => cur :: spl [] r
  | cur, c :: r => spl (cur ++ [c]) r
def occs : Nat → List Nat → List Nat
  | _, [] => []
  | i, 13 :: 10 :: r => i :: occs (i + 2) r
  | i, c :: r => occs (i + 1) r
theorem crlf_or (l : List Nat) : (∃ r, l = 13 :: 10 :: r) ∨ l = [] ∨ ∃ c r, l = c :: r ∧ (l.take 2 == [13, 10]) = false ∧ (∀ cur, spl cur l = spl (cur ++ [c]) r) ∧ ∀ i, occs i l = occs (i + 1) r := by
  match l with
  | [] => exact .inr (.inl rfl)
  | 13 :: 10 :: r => exact .inl ⟨r, rfl⟩
  | [c] =>
    refine .inr (.inr ⟨c, [], rfl, by simp, fun cur => ?_, fun i => ?_⟩)
    · simp [spl]
    · simp [occs]
  | c :: e :: r =>
    by_cases h : c = 13 ∧ e = 10
    · obtain ⟨rfl, rfl⟩ := h
      exact .inl ⟨r, rfl⟩
    · refine .inr (.inr ⟨c, e :: r, rfl, ?_, fun cur => ?_, fun i => ?_⟩)
      · simp
        intro h1 h2
        exact h ⟨h1, h2⟩
      · rw [spl]
        intro r' h1 h2
        exact h ⟨h1, (List.cons.inj h2).1⟩
      · rw [occs]
        intro r' h1 h2
        exact h ⟨h1, (List.cons.inj h2).1⟩
theorem occ_run (l : List Nat) : ∀ (n : Nat) (rest pre : List Nat) (st : Array Nat × Nat), rest.length = n → l = pre ++ rest → st.fst.size ≤ pre.length → st.snd ≤ pre.length →
    ((forIn (List.range' pre.length (rest.length + 1)) st (occBody (T l) (T [13, 10]) l.length (l.length + 1))).run.fst).toList = st.fst.toList ++ occs pre.length rest := by
  intro n
  induction n using Nat.strongRecOn with
  | _ n ih =>
    intro rest pre st hn hl hs hf
    have hlen : l.length = pre.length + rest.length := by rw [hl]; simp
    have hdrop : (T l).cps.toList.drop pre.length = rest := by rw [hl]; simp [T]
    rw [List.range'_succ, List.forIn_cons]
    rcases crlf_or rest with ⟨r, rfl⟩ | rfl | ⟨c, r, rfl, hne, _, hocc⟩
    · unfold occBody
      rw [if_pos (by
        refine ⟨⟨⟨by lia, hf⟩, ?_⟩, ?_⟩
        · rw [T_len]; simp at hlen ⊢; lia
        · rw [subAt_eq, hdrop]; simp [T, Str.length])]
      rw [show (13 :: 10 :: r).length = (r.length + 1) + 1 from rfl, List.range'_succ]
      rw [pure_bind]
      dsimp only
      rw [List.forIn_cons]
      rw [if_neg (by
        rintro ⟨⟨⟨_, h⟩, _⟩, _⟩
        rw [T_len] at h; simp at h)]
      have z := ih r.length (by subst hn; simp; lia) r (pre ++ [13, 10]) (st.fst.push pre.length, pre.length + (T [13, 10]).length) rfl (by rw [hl]; simp) (by simp; lia) (by rw [T_len]; simp)
      rw [occs]
      have e : (pre ++ [13, 10]).length = pre.length + 1 + 1 := by simp
      rw [e] at z
      refine Eq.trans z ?_
      simp
    · unfold occBody
      rw [if_neg (by
        rintro ⟨⟨_, h⟩, _⟩
        rw [T_len] at h; simp at h hlen; lia)]
      simp [occs]
    · unfold occBody
      rw [if_neg (by
        rintro ⟨_, h⟩
        rw [subAt_eq, hdrop] at h
        rw [T_len] at h
        have h' : ((c :: r).take 2 == [13, 10]) = true := by simpa [T] using h
        rw [hne] at h'; cases h')]
      have z := ih r.length (by subst hn; simp) r (pre ++ [c]) st rfl (by rw [hl]; simp) (by simp; lia) (by simp; lia)
      rw [hocc]
      have e : (pre ++ [c]).length = pre.length + 1 := by simp
      rw [e] at z
      exact z
theorem occ_T (l : List Nat) : occurrences (T l) (T [13, 10]) 0 l.length (l.length + 1) = occs 0 l := by
  rw [occ_eq]
  have z := occ_run l l.length l [] (#[], 0) rfl (by simp) (by simp) (by simp)
  simpa using z
theorem sub_T (l : List Nat) (i j : Nat) : strSub (T l) i j = T ((l.drop i).take (j - i)) := by
  rw [← T_list (strSub (T l) i j), strSub_toList]; rfl
theorem parts_T (l : List Nat) : ∀ (n : Nat) (rest cur pre : List Nat), rest.length = n → l = pre ++ (cur ++ rest) → partsFrom (T l) 2 pre.length (occs (pre.length + cur.length) rest) = (spl cur rest).map T := by
  intro n
  induction n using Nat.strongRecOn with
  | _ n ih =>
    intro rest cur pre hn hl
    rcases crlf_or rest with ⟨r, rfl⟩ | rfl | ⟨c, r, rfl, _, hspl, hocc⟩
    · rw [occs, spl, partsFrom, sub_T]
      have z := ih r.length (by subst hn; simp; lia) r [] (pre ++ (cur ++ [13, 10])) rfl (by rw [hl]; simp)
      have e : (pre ++ (cur ++ [13, 10])).length = pre.length + cur.length + 2 := by simp; lia
      rw [e] at z
      rw [List.map_cons]
      refine congr (congrArg List.cons ?_) z
      rw [hl]; simp
    · rw [occs, spl, partsFrom, sub_T, T_len, hl]
      simp
    · rw [hspl, hocc]
      have z := ih r.length (by subst hn; simp) r (cur ++ [c]) pre rfl (by rw [hl]; simp)
      have e : pre.length + (cur ++ [c]).length = pre.length + cur.length + 1 := by simp; lia
      rw [e] at z
      exact z
theorem split_T (l : List Nat) : Txt.split (T l) (T [13, 10]) = (spl [] l).map T := by
  have z := parts_T l l.length l [] [] rfl (by simp)
  have hpart : partsBetween (T l) (occurrences (T l) (T [13, 10]) 0 (T l).length ((T l).length + 1)) (T [13, 10]).length = (spl [] l).map T := by
    rw [partsBetween_eq, T_len, T_len, occ_T]
    simpa using z
  unfold Txt.split
  by_cases h1 : (decide ((T l).length < (T [13, 10]).length) || decide (Builtin.Str.strKind (T l) < Builtin.Str.strKind (T [13, 10]))) = true
  · rw [if_pos h1]
    have hk : Builtin.Str.strKind (T [13, 10]) = 1 := by decide +kernel
    have h2 : l.length < 2 := by
      rw [hk, T_len, T_len] at h1
      have : ¬ Builtin.Str.strKind (T l) < 1 := by unfold Builtin.Str.strKind; split <;> (try split) <;> lia
      simpa [this] using h1
    match l, h2 with
    | [], _ => rfl
    | [c], _ =>
      have : spl [] [c] = [[c]] := by rw [spl]; simp [spl]; simp
      rw [this]; rfl
  · rw [if_neg h1]
    by_cases h2 : (occurrences (T l) (T [13, 10]) 0 (T l).length ((T l).length + 1)).isEmpty = true
    · rw [if_pos h2]
      have : occurrences (T l) (T [13, 10]) 0 (T l).length ((T l).length + 1) = [] := by simpa using h2
      rw [this, partsBetween_eq, partsFrom, sub_whole] at hpart
      exact hpart
    · rw [if_neg h2]; exact hpart
theorem spl_len : ∀ (n : Nat) (l cur : List Nat), l.length = n → (spl cur l).length ≤ l.length + 1 := by
  intro n
  induction n using Nat.strongRecOn with
  | _ n ih =>
    intro l cur hn
    rcases crlf_or l with ⟨r, rfl⟩ | rfl | ⟨c, r, rfl, _, hspl, _⟩
    · rw [spl]
      have := ih r.length (by subst hn; simp; lia) r [] rfl
      simp; lia
    · simp [spl]
    · rw [hspl]
      have := ih r.length (by subst hn; simp) r (cur ++ [c]) rfl
      simp; lia
theorem c_split_T {C : Cx} {d : Nat} {ls : LS} {l : List Nat} (h : l.length ≤ 1000) : CTo C d (.builtin "str.split") [.str (T l), .str (T [13, 10])] [] ls (.lst ls.length) (ls ++ [(spl [] l).map fun r => .str (T r)]) := by
  have hs : (10000 : Nat) ≤ sizeLine := by decide
  have z := c_split (C := C) (d := d) (ls := ls) (x := T l) (y := T [13, 10]) (by rw [T_len]; rfl) (by rw [T_len]; lia) (by
    rw [partsBetween_eq, T_len, T_len, occ_T]
    have := parts_T l l.length l [] [] rfl (by simp)
    simp at this
    have e : ([13, 10] : List Nat).length = 2 := rfl
    rw [e, this]
    have := spl_len l.length l [] rfl
    simp; lia)
  rw [split_T, List.map_map] at z
  exact z
end Mine
end
section
open PySem PySem.W PySem.Calls PyProof.Rows
set_option maxRecDepth 100000
set_option linter.unusedVariables false
set_option maxHeartbeats 4000000
namespace Mine
/-! heard -/
theorem glue_cat : ∀ (l : List (List Nat)) (a : List Nat), (⟨(l.map T).foldl (fun acc p => acc ++ (T []).cps ++ p.cps) (T a).cps⟩ : Str) = T (a ++ l.flatten)
  | [], a => by simp
  | b :: l, a => by
    rw [List.map_cons, List.foldl_cons]
    have e : (T a).cps ++ (T []).cps ++ (T b).cps = (T (a ++ b)).cps := by unfold T; simp
    rw [e, glue_cat l (a ++ b)]; simp
theorem glued_T (l : List (List Nat)) : Builtin.Str.glued (T []) (l.map T) = T l.flatten := by
  unfold Builtin.Str.glued
  cases l with
  | nil => simp; rfl
  | cons a l =>
    have := glue_cat l a
    simpa using this
theorem raw_fold : ∀ (l : List (List Nat)) (a : Nat), (l.map T).foldl (fun (a : Nat) (p : Str) => a + p.length + (T []).length) a = a + l.flatten.length
  | [], a => by simp
  | x :: l, a => by
    rw [List.map_cons, List.foldl_cons, raw_fold l, T_len, T_len]
    simp; lia
/-- a number's figures, as signs -/
def dgN (N i : Nat) : Nat := sg (N / 4 ^ (11 - i) % 4)
def textL (N : Nat) : List Nat := (List.range 12).map (dgN N)
theorem textL_len (N : Nat) : (textL N).length = 12 := by simp [textL]
/-- a row, as a receiver takes it -/
def hearS (acc : List (List Nat)) (r : List Nat) : List (List Nat) ⊕ Bool :=
  if r = [46] then .inr true else if 13 ∈ r ∨ 10 ∈ r then .inr false else if r.take 1 = [46] ∧ r.take 2 ≠ [46, 46] then .inr false else .inl (acc ++ [if r.take 1 = [46] then r.drop 1 else r])
def hearG : List (List Nat) → List (List Nat) → List (List Nat) × Bool
  | [], acc => (acc, false)
  | r :: rs, acc => match hearS acc r with
    | .inl acc' => hearG rs acc'
    | .inr b => (acc, b)
def heardL (N : Nat) : Option (List (List Nat)) := if (hearG (spl [] (textL N)).dropLast []).2 then some (hearG (spl [] (textL N)).dropLast []).1 else none
theorem spl_row : ∀ (n : Nat) (l cur : List Nat), l.length = n → ∀ r ∈ spl cur l, r.length ≤ cur.length + l.length := by
  intro n
  induction n using Nat.strongRecOn with
  | _ n ih =>
    intro l cur hn r hr
    rcases crlf_or l with ⟨q, rfl⟩ | rfl | ⟨c, q, rfl, hne, hspl, _⟩
    · rw [spl] at hr
      rcases List.mem_cons.mp hr with rfl | hr
      · simp
      · have := ih q.length (by subst hn; simp; lia) q [] rfl r hr
        simp at this ⊢; lia
    · simp [spl] at hr
      subst hr; simp
    · rw [hspl] at hr
      have := ih q.length (by subst hn; simp) q (cur ++ [c]) rfl r hr
      simp at this ⊢; lia
theorem join_dg {C : Cx} {d : Nat} {ls : LS} {n N : Nat} (hn : ls[n]? = some ((List.range 12).map fun i => .str (T [dgN N i]))) : CTo C d (.builtin "str.join") [.str (T []), .lst n] [] ls (.str (T (textL N))) ls := by
  have hs : (10000 : Nat) ≤ sizeLine := by decide
  have ef : ((List.range 12).map fun i => [dgN N i]).flatten = textL N := by
    unfold textL
    generalize List.range 12 = l
    induction l with
    | nil => rfl
    | cons a l ih => simp [ih]
  have e : ((List.range 12).map fun i => PV.str (T [dgN N i])) = (((List.range 12).map fun i => [dgN N i]).map T).map .str := by rw [List.map_map, List.map_map]; rfl
  rw [e] at hn
  have z := c_join (C := C) (d := d) (sep := T []) hn (by
    rw [List.foldl_toArray, raw_fold, ef, textL_len]
    unfold Builtin.Str.tooLong
    exact decide_eq_false (by lia)) (by rw [glued_T, ef, T_len, textL_len]; lia)
  rw [glued_T, ef] at z
  exact z
theorem rng_11 : rngItems 11 (-1) (-1) = (List.range 12).map fun (i : Nat) => PV.int (11 + (i : Int) * (-1)) := by
  unfold rngItems
  have e : (Builtin.Range.rangeSize 11 (-1) (-1)).toNat = 12 := by decide
  rw [e]
/-- what the walk says at a row -/
def hearP (n : Nat) (acc : List (List Nat)) (r : List Nat) : List (List Nat) ⊕ PV :=
  match hearS acc r with
  | .inl a => .inl a
  | .inr b => .inr (if b then .lst n else .none)
def hearO (n : Nat) : Bool → PV
  | true => .lst n
  | false => .none
theorem runs_hear (n : Nat) : ∀ (rs acc : List (List Nat)), (runs (hearP n) rs acc).1 = (hearG rs acc).1 ∧ ((runs (hearP n) rs acc).2 = none → (hearG rs acc).2 = false) ∧ ∀ x, (runs (hearP n) rs acc).2 = some x → x = hearO n (hearG rs acc).2
  | [], acc => ⟨rfl, fun _ => rfl, fun x e => nomatch e⟩
  | r :: rs, acc => by
    unfold runs hearG hearP
    cases hearS acc r with
    | inl a => exact runs_hear n rs a
    | inr b => cases b <;> exact ⟨rfl, fun e => by simp at e, fun x e => by simpa [hearO] using e.symm⟩
theorem heard_core {C : Cx} {d : Nat} {ls : LS} (g2 : G2 C) {N : Nat} (hN : N < 4 ^ 12) : ∃ a b c, CTo C (d + 1) (.ref 127) [.int N] [] ls (hearO (ls.length + 1) (hearG (spl [] (textL N)).dropLast []).2) (ls ++ [a, txs (hearG (spl [] (textL N)).dropLast []).1, b, c]) := by
  refine ⟨(List.range 12).map fun i => .str (T [dgN N i]), txs (spl [] (textL N)), txs (spl [] (textL N)).dropLast, ?_⟩
  have hs : (10000 : Nat) ≤ sizeLine := by decide
  have e0 : ("" : Str) = T [] := rfl
  have e1 : ("\n\r.a" : Str) = T [10, 13, 46, 97] := by decide +kernel
  have e2 : ("\r\n" : Str) = T [13, 10] := by decide +kernel
  have e3 : ("." : Str) = T [46] := by decide +kernel
  have e4 : (".." : Str) = T [46, 46] := by decide +kernel
  have e5 : ("\r" : Str) = T [13] := by decide +kernel
  have e6 : ("\n" : Str) = T [10] := by decide +kernel
  refine c_def (xs := ["number"]) g2.ok (g2.k _ _ (by with_unfolding_all rfl)) (by with_unfolding_all rfl) ?hcd (by with_unfolding_all rfl) ?hbind (by rfl) ?hkind (by decide) (by rfl) (by rfl) (by rfl) ?_
  case hcd => exact codeRec_of g2.k (by with_unfolding_all rfl)
  case hbind =>
    intro vs hl
    obtain ⟨a, rfl⟩ := vlen1 hl
    rfl
  case hkind => intro L; rfl
  intro L
  generalize he : callEnvC _ L 127 = env
  have hcel : env.cells.lookup ("number" : Str) = some (L + 1) := by first | exact kind_at2 he1 he rfl | exact kind_at he rfl | exact rel_at he rfl | exact clos_at he rfl | exact swap_at he rfl | exact inter_at he rfl | exact cell_at he rfl | exact kind_atc he rfl
  have hj := join_dg (C := C) (d := d) (ls := ls ++ [(List.range 12).map fun i => .str (T [dgN N i])]) (n := ls.length) (N := N) (by simp)
  refine r_consE (P := fun ρ ls1 => ls ++ [(List.range 12).map fun i => .str (T [dgN N i])] = ls1 ∧ LK ρ "text" (.str (T (textL N)))) (XE.of (ρ1 := pset ([("number" : Str)].zip [PV.int N]) "text" (.str (T (textL N)))) (ls1 := ls ++ [(List.range 12).map fun i => .str (T [dgN N i])]) ?_ ⟨rfl, by walk_at "m-look"⟩) ?_
  · walk_at "m-asg"
    refine e_meth (p := .str (T [])) (ps := [.lst ls.length]) (ls1 := ls) (ls2 := ls ++ [(List.range 12).map fun i => .str (T [dgN N i])]) (T := "str") (id := "str.join") (e_lit e0) ty_str PySem.F.plainAttrs_str PySem.F.slot_str_join PySem.F.type_str_join (l_cons (ls1 := ls ++ [(List.range 12).map fun i => .str (T [dgN N i])]) ?_ l_nil rfl) hj rfl rfl rfl rfl rfl
    refine e_comp (p := .rng 11 (-1) (-1)) (ls1 := ls) (cl := [("number", L + 1)]) (ρc := [("number", .int N)]) (items := rngItems 11 (-1) (-1)) ?_ (src_range (by decide)) (by first | exact kind_at2 he1 he rfl | exact kind_at he rfl | exact rel_at he rfl | exact clos_at he rfl | exact swap_at he rfl | exact inter_at he rfl | exact cell_at he rfl | exact kind_atc he rfl) (ClOk.one hcel) (Cl.one (k := .cell) (k' := .cell) (by walk_at "m-look") (by first | exact kind_at2 he1 he rfl | exact kind_at he rfl | exact rel_at he rfl | exact clos_at he rfl | exact swap_at he rfl | exact inter_at he rfl | exact cell_at he rfl | exact kind_atc he rfl) hcel (by first | exact kind_at2 he1 he rfl | exact kind_at he rfl | exact rel_at he rfl | exact clos_at he rfl | exact swap_at he rfl | exact inter_at he rfl | exact cell_at he rfl | exact kind_atc he rfl) (fun _ => rfl) (by decide) (by decide)) ?_ rfl (by decide) (fun _ => rfl)
    · have cr := c_range3 (C := C) (d := d) (ls := ls) (a := 11) (b := -1) (c := -1) (by decide) (by decide)
      refine e_callT (ls1 := ls) (ps := [.int 11, .int (-1), .int (-1)]) (by walk_at "m-name") (l_cons (ls1 := ls) e_int (l_cons (ls1 := ls) e_negc (l_cons (ls1 := ls) e_negc l_nil rfl) rfl) rfl) cr rfl rfl
    · intro Lc
      rw [rng_11]
      refine cp_map0 (fun (i : Nat) => PV.int (11 + (i : Int) * (-1))) (fun i => .str (T [dgN N i])) ls (fun ρ => LK ρ "number" (.int N)) rfl (fun l => trivial) (List.range 12) _ (by walk_at "m-look") (by decide) ?_
      intro i hi ρ1 l hd
      have hi12 : i < 12 := List.mem_range.mp hi
      generalize he1 : cenvOf _ env Lc _ = env1
      refine ⟨_, a_loc (by first | exact kind_at2 he1 he rfl | exact kind_at he rfl | exact rel_at he rfl | exact clos_at he rfl | exact swap_at he rfl | exact inter_at he rfl | exact cell_at he rfl | exact kind_atc he rfl), ?_, by walk_at "m-look"⟩
      have ep : (11 + (i : Int) * (-1)).toNat = 11 - i := by lia
      have hpos : (0 : Int) < 4 ^ (11 - i) := by exact_mod_cast Nat.pow_pos (n := 11 - i) (by decide : 0 < 4)
      have hle : (4 : Nat) ^ (11 - i) ≤ 4 ^ 11 := Nat.pow_le_pow_right (by decide) (by lia)
      have efd : ((N : Int).fdiv (4 ^ (11 - i))).fmod 4 = ((N / 4 ^ (11 - i) % 4 : Nat) : Int) := by
        rw [Int.fdiv_eq_ediv_of_nonneg _ (by lia), Int.fmod_eq_emod_of_nonneg _ (by decide)]
        simp
      have hlt : N / 4 ^ (11 - i) % 4 < 4 := Nat.mod_lt _ (by decide)
      have hc : (T [10, 13, 46, 97]).cps[(((N / 4 ^ (11 - i) % 4 : Nat)) : Int).toNat]? = some (dgN N i) := by
        rw [Int.toNat_natCast]
        unfold dgN
        generalize N / 4 ^ (11 - i) % 4 = j at hlt ⊢
        have : j = 0 ∨ j = 1 ∨ j = 2 ∨ j = 3 := by lia
        rcases this with rfl | rfl | rfl | rfl <;> rfl
      have hab : ((4 : Int) ^ (11 - i)).natAbs = 4 ^ (11 - i) := by rw [Int.natAbs_pow]; rfl
      refine e_sub (q := .int (((N / 4 ^ (11 - i) % 4 : Nat)) : Int)) (ls1 := ls ++ [l]) (ls2 := ls ++ [l]) (e_lit e1) ?_ (t_str trivial (by lia) (by lia) hc)
      rw [← efd]
      refine e_bin (ls1 := ls ++ [l]) (ls2 := ls ++ [l]) (e_bin (ls1 := ls ++ [l]) (ls2 := ls ++ [l]) (by walk_at "m") ?_ (o_fdiv_int (b := 4 ^ (11 - i)) (by lia) (by rw [hab]; lia))) e_int (o_mod_int (by decide))
      rw [← ep]
      exact e_bin (ls1 := ls ++ [l]) (ls2 := ls ++ [l]) e_int (by walk_at "m") (o_pow4 (by lia) (by lia))
  rintro ρ _ ⟨rfl, l1⟩
  generalize hA : (List.range 12).map (fun i => PV.str (T [dgN N i])) = A at hj ⊢
  refine r_consE (P := fun ρ ls1 => ls ++ [A, []] = ls1 ∧ LK ρ "text" (.str (T (textL N))) ∧ LK ρ "rows" (.lst (ls.length + 1))) (XE.of (ρ1 := pset ρ "rows" (.lst (ls.length + 1))) (ls1 := ls ++ [A, []]) ?_ ⟨rfl, by walk_at "m-look", by walk_at "m-look"⟩) ?_
  · have eB : ls ++ [A, []] = (ls ++ [A]) ++ [[]] := by simp
    have eL : ls.length + 1 = (ls ++ [A]).length := by simp
    rw [eB, eL]
    walk_at "m"
  rintro ρ _ ⟨rfl, l1, l2⟩
  have htl := textL_len N
  have hrow : ∀ r ∈ (spl [] (textL N)).dropLast, r.length ≤ 12 := fun r hr => by
    have := spl_row _ (textL N) [] rfl r ((List.dropLast_sublist _).subset hr)
    rw [htl] at this; simpa using this
  have hcnt : (spl [] (textL N)).length ≤ 13 := by
    have := spl_len _ (textL N) [] rfl
    rw [htl] at this; exact this
  have hsp := c_split_T (C := C) (d := d) (ls := ls ++ [A, []]) (l := textL N) (by lia)
  obtain ⟨q1, q2, q3⟩ := runs_hear (ls.length + 1) (spl [] (textL N)).dropLast []
  generalize spl [] (textL N) = W at *
  generalize textL N = tx at *
  rw [← q1]
  have ek : (ls ++ [A, []] : LS).length = ls.length + 2 := by simp
  have eap : ∀ (x : List PV), ls ++ [A, []] ++ [x] = ls ++ [A, [], x] := fun x => by simp
  rw [ek, eap] at hsp
  refine r_for (p := .lst (ls.length + 3)) (ls1 := ls ++ [A, [], txs W, txs W.dropLast]) (ok := fun l => l[ls.length + 3]? = some (txs W.dropLast)) (items := W.dropLast.map fun r => .str (T r)) (o := (runs (hearP (ls.length + 1)) W.dropLast []).2) ?_ (src_list (by simp)) ?_ q3 ?_ (fun _ => rfl)
  · refine e_sliceE (ls1 := ls ++ [A, [], txs W]) (ls2 := ls ++ [A, [], txs W]) (ls3 := ls ++ [A, [], txs W]) (n := ls.length + 2) (l := txs W) (l' := txs W.dropLast) (lo := none) (hi := some (-1)) ?_ .none (.some e_negc) (by simp) (by rw [List.length_map]; lia) (by simp) (by rw [pick_init, dropLast_txs]) (by simp)
    refine e_meth (p := .str (T tx)) (ps := [.str (T [13, 10])]) (ls1 := ls ++ [A, []]) (ls2 := ls ++ [A, []]) (T := "str") (id := "str.split") (by walk_at "m") ty_str PySem.F.plainAttrs_str PySem.F.slot_str_split PySem.F.type_str_split ?_ hsp rfl rfl rfl rfl rfl
    walk_at "m"
  · refine lp_fold (fun r => .str (T r)) (hearP (ls.length + 1)) (fun acc => ls ++ [A, txs acc, txs W, txs W.dropLast]) (fun ρ => LK ρ "rows" (.lst (ls.length + 1))) (fun k acc => acc.length + k ≤ 20) (fun b => by simp) W.dropLast [] ρ l2 (by rw [List.length_dropLast]; simp; lia) ?_
    intro k acc r ρ hr hk l2
    have hrl := hrow r hr
    refine ⟨_, a_loc (by first | exact kind_at2 he1 he rfl | exact kind_at he rfl | exact rel_at he rfl | exact clos_at he rfl | exact swap_at he rfl | exact inter_at he rfl | exact cell_at he rfl | exact kind_atc he rfl), ?_⟩
    have m0 : LK (pset ρ "row" (.str (T r))) "row" (.str (T r)) := by walk_at "m-look"
    have m1 : LK (pset ρ "row" (.str (T r))) "rows" (.lst (ls.length + 1)) := by walk_at "m-look"
    generalize pset ρ "row" (.str (T r)) = ρ' at m0 m1 ⊢
    generalize hB : ls ++ [A, txs acc, txs W, txs W.dropLast] = B
    have hBn : B[ls.length + 1]? = some (txs acc) := by rw [← hB]; simp
    by_cases c1 : r = [46]
    · right
      refine ⟨.lst (ls.length + 1), by unfold hearP hearS; rw [if_pos c1]; rfl, ρ', ?_⟩
      refine x_ret (x_if (b := decide (r = [46])) (ls1 := B) ?_ (fun _ => x_ret ?_) (fun hb => absurd c1 (by simpa using hb)))
      · rw [← T_beq]; walk_at "m"
      · walk_at "m"
    have n1 : decide (r = [46]) = false := by simpa using c1
    by_cases c2 : 13 ∈ r ∨ 10 ∈ r
    · right
      refine ⟨.none, by unfold hearP hearS; rw [if_neg c1, if_pos c2]; rfl, ρ', ?_⟩
      refine x_cons (ls1 := B) (ρ1 := ρ') (x_if (b := decide (r = [46])) (ls1 := B) (by rw [← T_beq]; walk_at "m") (fun hb => by rw [n1] at hb; cases hb) fun _ => x_nil) ?_
      refine x_ret (x_if (b := decide (13 ∈ r) || (decide (10 ∈ r) || false)) (ls1 := B) ?_ (fun _ => x_ret (x_return e_none)) (fun hb => ?_))
      · exact b_or (b_or_cons (b_cmp (ls1 := B) (ls2 := B) (e_lit e5) (by walk_at "m") o_in_c rfl) fun _ => b_or_cons (b_cmp (ls1 := B) (ls2 := B) (e_lit e6) (by walk_at "m") o_in_c rfl) fun _ => b_or_nil)
      · exfalso
        rcases c2 with c | c <;> simp [c] at hb
    have n2 : (decide (13 ∈ r) || (decide (10 ∈ r) || false)) = false := by
      have h1 : 13 ∉ r := fun h => c2 (.inl h)
      have h2 : 10 ∉ r := fun h => c2 (.inr h)
      simp [h1, h2]
    by_cases c3 : r.take 1 = [46] ∧ r.take 2 ≠ [46, 46]
    · right
      refine ⟨.none, by unfold hearP hearS; rw [if_neg c1, if_neg c2, if_pos c3]; rfl, ρ', ?_⟩
      refine x_cons (ls1 := B) (ρ1 := ρ') (x_if (b := decide (r = [46])) (ls1 := B) (by rw [← T_beq]; walk_at "m") (fun hb => by rw [n1] at hb; cases hb) fun _ => x_nil) ?_
      refine x_cons (ls1 := B) (ρ1 := ρ') (x_if (b := decide (13 ∈ r) || (decide (10 ∈ r) || false)) (ls1 := B) ?_ (fun hb => by rw [n2] at hb; cases hb) fun _ => x_nil) ?_
      · exact b_or (b_or_cons (b_cmp (ls1 := B) (ls2 := B) (e_lit e5) (by walk_at "m") o_in_c rfl) fun _ => b_or_cons (b_cmp (ls1 := B) (ls2 := B) (e_lit e6) (by walk_at "m") o_in_c rfl) fun _ => b_or_nil)
      refine x_ret (x_if (b := decide (r.take 1 = [46]) && (!decide (r.take 2 = [46, 46]) && true)) (ls1 := B) ?_ (fun _ => x_ret (x_return e_none)) (fun hb => ?_))
      · rw [← T_beq, ← T_ne]
        exact b_and (b_and_cons (b_cmp (ls1 := B) (ls2 := B) (e_sliceS (ls1 := B) (ls2 := B) (l := r) (lo := none) (hi := some 1) (by walk_at "m") .none (.some e_int) (by lia) (pick_t1 r 1) (fun _ _ => rfl)) (e_lit e3) o_eq_str rfl) fun _ => b_and_cons (b_cmp (ls1 := B) (ls2 := B) (e_sliceS (ls1 := B) (ls2 := B) (l := r) (lo := none) (hi := some 2) (by walk_at "m") .none (.some e_int) (by lia) (pick_t1 r 2) (fun _ _ => rfl)) (e_lit e4) o_ne_str rfl) fun _ => b_and_nil)
      · exfalso
        simp [c3.1, c3.2] at hb
    have n3 : (decide (r.take 1 = [46]) && (!decide (r.take 2 = [46, 46]) && true)) = false := by
      by_cases h1 : r.take 1 = [46]
      · have h2 : r.take 2 = [46, 46] := Classical.byContradiction fun h => c3 ⟨h1, h⟩
        simp [h2]
      · simp [h1]
    left
    refine ⟨_, by unfold hearP hearS; rw [if_neg c1, if_neg c2, if_neg c3], by rw [List.length_append]; simp; lia, ρ', ?_, m1⟩
    refine x_cons (ls1 := B) (ρ1 := ρ') (x_if (b := decide (r = [46])) (ls1 := B) (by rw [← T_beq]; walk_at "m") (fun hb => by rw [n1] at hb; cases hb) fun _ => x_nil) ?_
    refine x_cons (ls1 := B) (ρ1 := ρ') (x_if (b := decide (13 ∈ r) || (decide (10 ∈ r) || false)) (ls1 := B) ?_ (fun hb => by rw [n2] at hb; cases hb) fun _ => x_nil) ?_
    · exact b_or (b_or_cons (b_cmp (ls1 := B) (ls2 := B) (e_lit e5) (by walk_at "m") o_in_c rfl) fun _ => b_or_cons (b_cmp (ls1 := B) (ls2 := B) (e_lit e6) (by walk_at "m") o_in_c rfl) fun _ => b_or_nil)
    refine x_cons (ls1 := B) (ρ1 := ρ') (x_if (b := decide (r.take 1 = [46]) && (!decide (r.take 2 = [46, 46]) && true)) (ls1 := B) ?_ (fun hb => by rw [n3] at hb; cases hb) fun _ => x_nil) ?_
    · rw [← T_beq, ← T_ne]
      exact b_and (b_and_cons (b_cmp (ls1 := B) (ls2 := B) (e_sliceS (ls1 := B) (ls2 := B) (l := r) (lo := none) (hi := some 1) (by walk_at "m") .none (.some e_int) (by lia) (pick_t1 r 1) (fun _ _ => rfl)) (e_lit e3) o_eq_str rfl) fun _ => b_and_cons (b_cmp (ls1 := B) (ls2 := B) (e_sliceS (ls1 := B) (ls2 := B) (l := r) (lo := none) (hi := some 2) (by walk_at "m") .none (.some e_int) (by lia) (pick_t1 r 2) (fun _ _ => rfl)) (e_lit e4) o_ne_str rfl) fun _ => b_and_nil)
    have hap := c_append (C := C) (d := d) (ls := B) (p := .str (T (if r.take 1 = [46] then r.drop 1 else r))) (n := ls.length + 1) (l := txs acc) hBn (by rw [List.length_map]; lia)
    have e9 : B.set (ls.length + 1) (txs acc ++ [.str (T (if r.take 1 = [46] then r.drop 1 else r))]) = ls ++ [A, txs (acc ++ [if r.take 1 = [46] then r.drop 1 else r]), txs W, txs W.dropLast] := by
      rw [← hB]; unfold txs; rw [List.map_append]; simp
    rw [e9] at hap
    refine x_cons (ρ1 := ρ') (x_expr ?_ (by first | exact kind_at2 he1 he rfl | exact kind_at he rfl | exact rel_at he rfl | exact clos_at he rfl | exact swap_at he rfl | exact inter_at he rfl | exact cell_at he rfl | exact kind_atc he rfl) rfl) x_nil
    refine e_meth (p := .lst (ls.length + 1)) (ls1 := B) (ls2 := B) (T := "list") (id := "list.append") (by walk_at "m") (ty_lst hBn) PySem.F.plainAttrs_list PySem.F.slot_list_append PySem.F.type_list_append (l_cons (ls1 := B) ?_ l_nil rfl) hap rfl rfl rfl rfl rfl
    refine e_if (b := decide (r.take 1 = [46])) (ls1 := B) ?_ (fun hb => ?_) (fun hb => ?_)
    · rw [← T_beq]
      exact b_cmp (ls1 := B) (ls2 := B) (e_sliceS (ls1 := B) (ls2 := B) (l := r) (lo := none) (hi := some 1) (by walk_at "m") .none (.some e_int) (by lia) (pick_t1 r 1) (fun _ _ => rfl)) (e_lit e3) o_eq_str rfl
    · rw [if_pos (by simpa using hb)]
      exact e_sliceS (ls1 := B) (ls2 := B) (l := r) (lo := some 1) (hi := none) (by walk_at "m") (.some e_int) .none (by lia) (pick_d1 r 1) (fun _ _ => rfl)
    · rw [if_neg (by simpa using hb)]
      walk_at "m"
  · intro ρ1 hn
    rw [q2 hn]
    with_reducible apply r_return
    exact e_none
end Mine
end
section
open PySem PySem.W PySem.Calls PyProof.Rows
set_option maxRecDepth 100000
set_option linter.unusedVariables false
namespace Mine
/-! law 2 in plain: rows -/
/-! sorted -/
end Mine
end
section
open PySem PySem.W PySem.Calls PyProof.Rows PySem.Float64
set_option maxRecDepth 100000
set_option linter.unusedVariables false
namespace Mine
/-! places in order -/
def cntLt (x : Int) : List Int → Nat
  | [] => 0
  | q :: r => if q < x then cntLt x r + 1 else 0
def cntLe (x : Int) : List Int → Nat
  | [] => 0
  | q :: r => if q ≤ x then cntLe x r + 1 else 0
theorem cntLt_le (x : Int) : ∀ m, cntLt x m ≤ m.length
  | [] => Nat.le_refl _
  | q :: r => by have := cntLt_le x r; unfold cntLt; split <;> simp <;> lia
theorem cntLe_le (x : Int) : ∀ m, cntLe x m ≤ m.length
  | [] => Nat.le_refl _
  | q :: r => by have := cntLe_le x r; unfold cntLe; split <;> simp <;> lia
theorem cntLt_at (x : Int) : ∀ (m : List Int), m.Pairwise (· ≤ ·) → ∀ i q, m[i]? = some q → decide (i < cntLt x m) = decide (q < x)
  | [], _, i, q, h => by simp at h
  | p :: r, hs, i, q, h => by
    rw [List.pairwise_cons] at hs
    unfold cntLt
    cases i with
    | zero =>
      have : p = q := by simpa using h
      subst this
      by_cases hp : p < x
      · rw [if_pos hp, decide_eq_true hp]; simp
      · rw [if_neg hp, decide_eq_false hp]; simp
    | succ i =>
      have h' : r[i]? = some q := by simpa using h
      have ih := cntLt_at x r hs.2 i q h'
      by_cases hp : p < x
      · rw [if_pos hp, ← ih]
        exact decide_eq_decide.mpr (by lia)
      · rw [if_neg hp]
        have := hs.1 q (List.mem_of_getElem? h')
        rw [decide_eq_false (by lia : ¬ q < x)]; simp
theorem cntLe_at (x : Int) : ∀ (m : List Int), m.Pairwise (· ≤ ·) → ∀ i q, m[i]? = some q → decide (cntLe x m ≤ i) = decide (x < q)
  | [], _, i, q, h => by simp at h
  | p :: r, hs, i, q, h => by
    rw [List.pairwise_cons] at hs
    unfold cntLe
    cases i with
    | zero =>
      have : p = q := by simpa using h
      subst this
      by_cases hp : p ≤ x
      · rw [if_pos hp, decide_eq_false (by lia : ¬ x < p)]; simp
      · rw [if_neg hp, decide_eq_true (by lia : x < p)]; simp
    | succ i =>
      have h' : r[i]? = some q := by simpa using h
      have ih := cntLe_at x r hs.2 i q h'
      by_cases hp : p ≤ x
      · rw [if_pos hp, ← ih]
        exact decide_eq_decide.mpr (by lia)
      · rw [if_neg hp]
        have := hs.1 q (List.mem_of_getElem? h')
        rw [decide_eq_true (by lia : x < q)]; simp
theorem ins_sorted (x : Int) : ∀ (m : List Int), m.Pairwise (· ≤ ·) → (m.take (cntLe x m) ++ x :: m.drop (cntLe x m)).Pairwise (· ≤ ·)
  | [], _ => by simp [cntLe]
  | p :: r, hs => by
    have hs' := hs
    rw [List.pairwise_cons] at hs
    unfold cntLe
    by_cases hp : p ≤ x
    · rw [if_pos hp, List.take_succ_cons, List.drop_succ_cons, List.cons_append, List.pairwise_cons]
      refine ⟨fun a ha => ?_, ins_sorted x r hs.2⟩
      rcases List.mem_append.mp ha with ha | ha
      · exact hs.1 a (List.mem_of_mem_take ha)
      · rcases List.mem_cons.mp ha with rfl | ha
        · exact hp
        · exact hs.1 a (List.mem_of_mem_drop ha)
    · rw [if_neg hp]
      show (x :: p :: r).Pairwise _
      rw [List.pairwise_cons]
      refine ⟨fun a ha => ?_, hs'⟩
      rcases List.mem_cons.mp ha with rfl | ha
      · lia
      · have := hs.1 a ha; lia
/-! a place's colour -/
/-! the rows of what is due -/
theorem spl_plain : ∀ (a cur r : List Nat), (∀ c ∈ a, c ≠ 13) → spl cur (a ++ r) = spl (cur ++ a) r
  | [], cur, r, _ => by simp
  | c :: a, cur, r, h => by
    have hc : c ≠ 13 := h c (by simp)
    have e : spl cur (c :: (a ++ r)) = spl (cur ++ [c]) (a ++ r) := by
      rw [spl]
      intro r' e1 _
      exact hc e1
    rw [List.cons_append, e, spl_plain a (cur ++ [c]) r (fun x hx => h x (by simp [hx]))]
    simp
end Mine
end
section
open PySem PySem.W PySem.Calls PyProof.Rows
set_option maxRecDepth 100000
set_option linter.unusedVariables false
set_option maxHeartbeats 4000000
namespace Mine
theorem flat_txs (l : List (List Nat)) : ∀ x ∈ txs l, Flat x := flat_map l fun x => .str (T x)
theorem heard_none {C : Cx} {d : Nat} {ls : LS} (g2 : G2 C) (hf : FlatLS ls) {N : Nat} (hN : N < 4 ^ 12) (h : heardL N = none) : CTo C (d + 1) (.ref 127) [.int N] [] ls .none ls := by
  obtain ⟨a, b, c, z⟩ := heard_core (d := d) (ls := ls) g2 hN
  unfold heardL at h
  cases q : (hearG (spl [] (textL N)).dropLast []).2 with
  | true => rw [q, if_pos rfl] at h; cases h
  | false => rw [q] at z; exact CTo.drop z hf rfl .none
theorem heard_some {C : Cx} {d : Nat} {ls : LS} (g2 : G2 C) (hf : FlatLS ls) {N : Nat} (hN : N < 4 ^ 12) {R : List (List Nat)} (h : heardL N = some R) : CTo C (d + 1) (.ref 127) [.int N] [] ls (.lst ls.length) (ls ++ [txs R]) := by
  obtain ⟨a, b, c, z⟩ := heard_core (d := d) (ls := ls) g2 hN
  unfold heardL at h
  cases q : (hearG (spl [] (textL N)).dropLast []).2 with
  | false => rw [q, if_neg (by decide)] at h; cases h
  | true =>
    rw [q, if_pos rfl] at h
    rw [q, Option.some.inj h] at z
    exact CTo.keep (l := txs R) z hf rfl (by lia) (by simp) (flat_txs R)
/-! the wheel's colours -/
abbrev BP (n : Int) : Prop := 0 ≤ n ∧ n < 16777216
theorem okB {n a b : Int} (h : BP n) (ha : 1 ≤ a ∧ a ≤ 4) (hb : 1 ≤ b ∧ b ≤ 4) : ColOk 24 n a b := ⟨by decide, h.1, h.2, ha, hb⟩
theorem one_fl2 : (0x3ff0000000000000 : UInt64) = fl 4 2 := up_one (j := 2) (by decide)
abbrev colB (n : Int) : List UInt64 := colF 24 n 4 4
theorem hue_B {C : Cx} {d : Nat} {ls : LS} (g2 : G2 C) {n : Int} (h : BP n) : CTo C (d + 2) (.ref 134) [ft (colB n)] [] ls (.flt (fl n 24)) ls := by
  have ok := okB (a := 4) (b := 4) h (by decide) (by decide)
  obtain ⟨x, y, z, hx⟩ := colI_three 24 n 4 4
  obtain ⟨h1, h2, _, _⟩ := ok.back hx
  have e : colB n = [fl x (cE 24), fl y (cE 24), fl z (cE 24)] := by show (colI 24 n 4 4).map _ = _; rw [hx]; rfl
  rw [e, ← h2]
  exact hue_spec g2 h1
theorem lt_fl {C : Cx} {d : Nat} {ls : LS} {p q : Int} {c : Nat} (hp : p.natAbs < 2 ^ 50) (hq : q.natAbs < 2 ^ 50) (hc : c ≤ 100) : V2To C d (.flt (fl p c)) (.flt (fl q c)) (compareOp .Lt) ls (.bool (decide (p < q))) ls :=
  o_lt_flt.to (by rw [fl_cmp (fitS hp hc) (fitS hq hc), cmp_lt])
theorem ge_fl {C : Cx} {d : Nat} {ls : LS} {p q : Int} {c : Nat} (hp : p.natAbs < 2 ^ 50) (hq : q.natAbs < 2 ^ 50) (hc : c ≤ 100) : V2To C d (.flt (fl p c)) (.flt (fl q c)) (compareOp .GtE) ls (.bool (decide (p ≥ q))) ls :=
  o_ge_flt.to (by
    rw [fl_cmp (fitS hp hc) (fitS hq hc), cmp_gt]
    rcases Int.lt_trichotomy p q with h | h | h
    · rw [Int.compare_eq_lt.mpr h, decide_eq_false (by lia), decide_eq_false (by lia)]; rfl
    · rw [Int.compare_eq_eq.mpr h, decide_eq_false (by lia), decide_eq_true (by lia)]; rfl
    · rw [decide_eq_true h, decide_eq_true (by lia)]; rfl)
theorem fl_fin {k : Int} {c : Nat} (f : Fit k c) : Float64.isInf (fl k c) = false := by
  obtain ⟨m, e, h, _⟩ := fl_dec f
  unfold Float64.isInf
  rw [h]
theorem div_24 {C : Cx} {d : Nat} {ls : LS} {p : Int} (hp : p.natAbs < 2 ^ 50) : V2To C d (.int p) (.int (4 ^ (12 : Int).toNat)) (binaryOp .Div) ls (.flt (fl p 24)) ls := by
  have e : Float64.ofFrac (decide (p < 0) != decide (((4 : Int) ^ (12 : Int).toNat) < 0)) p.natAbs ((4 : Int) ^ (12 : Int).toNat).natAbs = fl p 24 := by
    unfold fl
    have e1 : decide (((4 : Int) ^ (12 : Int).toNat) < 0) = false := by decide
    have e2 : ((4 : Int) ^ (12 : Int).toNat).natAbs = 2 ^ 24 := by decide
    rw [e1, e2]; simp
  have z := o_div_int (C := C) (d := d) (ls := ls) (a := p) (b := (4 : Int) ^ (12 : Int).toNat) (by decide) (by rw [e]; exact fl_fin (fitS hp (by decide)))
  rw [e] at z
  exact z
theorem fn134 {C : Cx} (g : G2 C) : Fn C 134 := ⟨_, _, g.k _ _ (by with_unfolding_all rfl), by with_unfolding_all rfl⟩
abbrev colsB (ps : List Int) : List PV := ps.map fun p => ft (colB p)
theorem bisR_B {C : Cx} {d : Nat} {ls : LS} (g2 : G2 C) {n : Nat} {ps : List Int} {x : Int} (hn : ls[n]? = some (colsB ps)) (hs : ps.Pairwise (· ≤ ·)) (hb : ∀ p ∈ ps, BP p) (hx : BP x) (hz : ps.length ≤ 1000) :
    CTo C (d + 3) (.ref 49) [.lst n, .flt (fl x 24)] [("key", .ref 134)] ls (.int (cntLe x ps : Nat)) ls := by
  refine bisR_core (d := d + 2) g2 (fn134 g2) hn (by rw [List.length_map]; exact cntLe_le x ps) (by rw [List.length_map]; lia) (fun i q hq => ?_) (.inl rfl)
  rw [List.getElem?_map, Option.map_eq_some_iff] at hq
  obtain ⟨p, hp, rfl⟩ := hq
  have hbp := hb p (List.mem_of_getElem? hp)
  refine ⟨.flt (fl p 24), hue_B g2 hbp, ?_⟩
  rw [cntLe_at x ps hs i p hp]
  exact lt_fl (by lia) (by lia) (by decide)
theorem bisL_B {C : Cx} {d : Nat} {ls : LS} (g2 : G2 C) {n : Nat} {ps : List Int} {x : Int} (hn : ls[n]? = some (colsB ps)) (hs : ps.Pairwise (· ≤ ·)) (hb : ∀ p ∈ ps, BP p) (hx : BP x) (hz : ps.length ≤ 1000) :
    CTo C (d + 3) (.ref 58) [.lst n, .flt (fl x 24)] [("key", .ref 134)] ls (.int (cntLt x ps : Nat)) ls := by
  refine bisL_core (d := d + 2) g2 (fn134 g2) hn (by rw [List.length_map]; exact cntLt_le x ps) (by rw [List.length_map]; lia) (fun i q hq => ?_) (.inl rfl)
  rw [List.getElem?_map, Option.map_eq_some_iff] at hq
  obtain ⟨p, hp, rfl⟩ := hq
  have hbp := hb p (List.mem_of_getElem? hp)
  refine ⟨.flt (fl p 24), hue_B g2 hbp, ?_⟩
  rw [cntLt_at x ps hs i p hp]
  exact lt_fl (by lia) (by lia) (by decide)
end Mine
end
section
open PySem PySem.W PySem.Calls PyProof.Rows
set_option maxRecDepth 100000
set_option linter.unusedVariables false
set_option maxHeartbeats 4000000
namespace Mine
/-- what the wheel says at a hue -/
def toldL (S : List (List Nat)) (ps rs : List Int) (n : Int) : List (List Nat) :=
  if cntLe n ps = 0 then [] else
  if n ≥ ps.getD (cntLe n ps - 1) 0 + rs.getD (cntLe n ps - 1) 0 then [] else
  (S.drop (cntLt (ps.getD (cntLe n ps - 1) 0) ps)).take (cntLe n ps - cntLt (ps.getD (cntLe n ps - 1) 0) ps)
theorem pick_txs (S : List (List Nat)) (i j : Nat) (hi : i ≤ S.length) (hj : j ≤ S.length) : pick (txs S) (some (i : Int)) (some (j : Int)) = txs ((S.drop i).take (j - i)) := by
  unfold pick kms_lo kms_hi txs
  have h1 : ¬ ((i : Int) < 0) := by lia
  have h2 : ¬ ((j : Int) < 0) := by lia
  simp only [List.length_map]
  rw [if_neg h1, if_neg h2, Int.toNat_natCast, Int.toNat_natCast, Nat.min_eq_left hi, Nat.min_eq_left hj, List.map_take, List.map_drop]
theorem told_spec {C : Cx} {d : Nat} {ls : LS} (g2 : G2 C) {a b c : Nat} {S : List (List Nat)} {ps rs : List Int} {n : Int} (ha : ls[a]? = some (txs S)) (hb : ls[b]? = some (colsB ps)) (hc : ls[c]? = some (rs.map .int)) (hs : ps.Pairwise (· ≤ ·)) (hp : ∀ p ∈ ps, BP p)
    (hr : ∀ r ∈ rs, 0 ≤ r ∧ r ≤ 16777216) (hn : BP n) (hz : ps.length ≤ 1000) (hl1 : S.length = ps.length) (hl2 : rs.length = ps.length) :
    CTo C (d + 4) (.ref 141) [.lst a, .lst b, .lst c, .flt (fl n 24)] [] ls (.lst ls.length) (ls ++ [txs (toldL S ps rs n)]) := by
  have hz1 : (10000 : Nat) ≤ sizeLine := by decide
  refine c_def (xs := ["shelf", "starts", "rooms", "hue"]) g2.ok (g2.k _ _ (by with_unfolding_all rfl)) (by with_unfolding_all rfl) ?hcd (by with_unfolding_all rfl) ?hbind (by rfl) ?hkind (by decide) (by rfl) (by rfl) (by rfl) ?_
  case hcd => exact codeRec_of g2.k (by with_unfolding_all rfl)
  case hbind =>
    intro vs hl
    obtain ⟨a, b, c, e, rfl⟩ := vlen4 hl
    rfl
  case hkind => intro L; rfl
  intro L
  generalize he : callEnvC _ L 141 = env
  have f134 := fn134 g2
  have f49 := fn49 g2
  have f58 := fn58 g2
  have cR := bisR_B (d := d) (ls := ls) g2 hb hs hp hn hz
  have hk := cntLe_le n ps
  refine r_consE (P := fun ρ ls1 => ls = ls1 ∧ LK ρ "shelf" (.lst a) ∧ LK ρ "starts" (.lst b) ∧ LK ρ "rooms" (.lst c) ∧ LK ρ "hue" (.flt (fl n 24)) ∧ LK ρ "stop" (.int (cntLe n ps : Nat))) (XE.of (ρ1 := pset ([("shelf" : Str), "starts", "rooms", "hue"].zip [PV.lst a, .lst b, .lst c, .flt (fl n 24)]) "stop" (.int (cntLe n ps : Nat))) (ls1 := ls) ?_ ⟨rfl, by walk_at "m-look", by walk_at "m-look", by walk_at "m-look", by walk_at "m-look", by walk_at "m-look"⟩) ?_
  · walk_at "m-asg"
    refine e_callKF (xs := ["key"]) (qs := [.ref 134]) (ps := [.lst b, .flt (fl n 24)]) (ls1 := ls) (ls2 := ls) ?hf f49 ?ha ?hk rfl rfl cR rfl
    case hf => walk_at "m-name"
    case ha => walk_at "m"
    case hk => exact k_cons (ls1 := ls) (by walk_at "m") k_nil
  rintro ρ _ ⟨rfl, l1, l2, l3, l4, l5⟩
  unfold toldL
  by_cases h0 : cntLe n ps = 0
  · rw [if_pos h0, show txs ([] : List (List Nat)) = [] from rfl]
    with_reducible apply r_ifT
    · walk_at "m"
    · simp [h0]
    · walk_at "m"
  rw [if_neg h0]
  have hi : cntLe n ps - 1 < ps.length := by lia
  have hpi : ps[cntLe n ps - 1]? = some (ps.getD (cntLe n ps - 1) 0) := by rw [List.getD_eq_getElem?_getD, List.getElem?_eq_getElem hi]; rfl
  have hri : rs[cntLe n ps - 1]? = some (rs.getD (cntLe n ps - 1) 0) := by rw [List.getD_eq_getElem?_getD, List.getElem?_eq_getElem (by lia)]; rfl
  have hps := hp _ (List.mem_of_getElem? hpi)
  have hrs := hr _ (List.mem_of_getElem? hri)
  generalize ps.getD (cntLe n ps - 1) 0 = st at hpi hps ⊢
  generalize rs.getD (cntLe n ps - 1) 0 = rm at hri hrs ⊢
  have cL := bisL_B (d := d) (ls := ls) g2 hb hs hp hps hz
  have hl := cntLt_le st ps
  have chs := hue_B (d := d + 1) (ls := ls) g2 hps
  have ei : ((cntLe n ps : Nat) : Int) - 1 = ((cntLe n ps - 1 : Nat) : Int) := by lia
  have hbi : (colsB ps)[cntLe n ps - 1]? = some (ft (colB st)) := by rw [List.getElem?_map, hpi]; rfl
  have hci : (rs.map PV.int)[cntLe n ps - 1]? = some (.int rm) := by rw [List.getElem?_map, hri]; rfl
  with_reducible apply r_ifF
  · walk_at "m"
  · simpa using h0
  refine r_consE (P := fun ρ ls1 => ls = ls1 ∧ LK ρ "shelf" (.lst a) ∧ LK ρ "starts" (.lst b) ∧ LK ρ "rooms" (.lst c) ∧ LK ρ "hue" (.flt (fl n 24)) ∧ LK ρ "stop" (.int (cntLe n ps : Nat)) ∧ LK ρ "start" (.flt (fl st 24))) (XE.of (ρ1 := pset ρ "start" (.flt (fl st 24))) (ls1 := ls) ?_ ⟨rfl, by walk_at "m-look", by walk_at "m-look", by walk_at "m-look", by walk_at "m-look", by walk_at "m-look", by walk_at "m-look"⟩) ?_
  · walk_at "m-asg"
    refine e_callF (ls1 := ls) (ps := [ft (colB st)]) (by walk_at "m-name") f134 (l_cons (ls1 := ls) ?_ l_nil rfl) chs rfl
    refine e_sub (q := .int ((cntLe n ps - 1 : Nat) : Int)) (ls1 := ls) (ls2 := ls) (by walk_at "m") (by rw [← ei]; walk_at "m") ?_
    exact t_lstN (j := cntLe n ps - 1) trivial hb (by lia) hbi
  rintro ρ _ ⟨rfl, l1, l2, l3, l4, l5, l6⟩
  refine r_if (b := decide (n ≥ st + rm)) (ls1 := ls) (ρ1 := ρ) ?_ (fun h => ?_) (fun h => ?_)
  · refine b_cmp (ls1 := ls) (ls2 := ls) (q := .flt (fl (st + rm) 24)) (by walk_at "m") ?_ (ge_fl (by lia) (by lia) (by decide)) rfl
    refine e_bin (q := .flt (fl rm 24)) (ls1 := ls) (ls2 := ls) (by walk_at "m") ?_ (o_add_flt.to (by rw [fl_add (fitS (by lia) (by decide)) (fitS (by lia) (by decide)) (fitS (by lia) (by decide))]))
    refine e_bin (p := .int rm) (q := .int (4 ^ (12 : Int).toNat)) (ls1 := ls) (ls2 := ls) ?_ (e_bin (ls1 := ls) (ls2 := ls) e_int e_int (o_pow4 (by decide) (by decide))) (div_24 (by lia))
    refine e_sub (q := .int ((cntLe n ps - 1 : Nat) : Int)) (ls1 := ls) (ls2 := ls) (by walk_at "m") (by rw [← ei]; walk_at "m") ?_
    exact t_lstN (j := cntLe n ps - 1) trivial hc (by lia) hci
  · rw [if_pos (by simpa using h), show txs ([] : List (List Nat)) = [] from rfl]
    walk_at "m"
  · rw [if_neg (by simpa using h)]
    with_reducible apply r_return
    refine e_sliceE (ls1 := ls) (ls2 := ls) (ls3 := ls) (n := a) (l := txs S) (lo := some (cntLt st ps : Nat)) (hi := some (cntLe n ps : Nat)) (by walk_at "m") (.some ?_) (.some (by walk_at "m")) ha (by rw [List.length_map]; lia) rfl (pick_txs S _ _ (by lia) (by lia)) rfl
    refine e_callKF (xs := ["key"]) (qs := [.ref 134]) (ps := [.lst b, .flt (fl st 24)]) (ls1 := ls) (ls2 := ls) ?hf f58 ?ha ?hk rfl rfl cL rfl
    case hf => walk_at "m-name"
    case ha => walk_at "m"
    case hk => exact k_cons (ls1 := ls) (by walk_at "m") k_nil
end Mine
end
section
open PySem PySem.W PySem.Calls PyProof.Rows
set_option maxRecDepth 100000
set_option linter.unusedVariables false
namespace Mine
/-! what is heard -/
def stuff (r : List Nat) : List Nat := if r.take 1 = [46] then 46 :: r else r
def enc : List (List Nat) → List Nat
  | [] => [46, 13, 10]
  | r :: rs => stuff r ++ 13 :: 10 :: enc rs
theorem spl_ne : ∀ (n : Nat) (l cur : List Nat), l.length = n → spl cur l ≠ [] := by
  intro n
  induction n using Nat.strongRecOn with
  | _ n ih =>
    intro l cur hn
    rcases crlf_or l with ⟨q, rfl⟩ | rfl | ⟨c, q, rfl, hne, hspl, _⟩
    · rw [spl]; simp
    · simp [spl]
    · rw [hspl]; exact ih q.length (by subst hn; simp) q _ rfl
/-- a text's first row -/
theorem spl_first : ∀ (n : Nat) (l cur : List Nat), l.length = n → (spl cur l = [cur ++ l]) ∨ ∃ a b, l = a ++ 13 :: 10 :: b ∧ spl cur l = (cur ++ a) :: spl [] b := by
  intro n
  induction n using Nat.strongRecOn with
  | _ n ih =>
    intro l cur hn
    rcases crlf_or l with ⟨q, rfl⟩ | rfl | ⟨c, q, rfl, hne, hspl, _⟩
    · exact .inr ⟨[], q, rfl, by rw [spl]; simp⟩
    · exact .inl (by simp [spl])
    · rcases ih q.length (by subst hn; simp) q (cur ++ [c]) rfl with h | ⟨a, b, rfl, h⟩
      · exact .inl (by rw [hspl, h]; simp)
      · exact .inr ⟨c :: a, b, rfl, by rw [hspl, h]; simp⟩
theorem dropLast_cons_ne {α : Type} (a : α) {l : List α} (h : l ≠ []) : (a :: l).dropLast = a :: l.dropLast := by
  cases l with
  | nil => exact absurd rfl h
  | cons b l => rfl
theorem heard_enc : ∀ (n : Nat) (t : List Nat) (acc R : List (List Nat)), t.length = n → hearG (spl [] t).dropLast acc = (R, true) → ∃ Q, R = acc ++ Q ∧ enc Q <+: t := by
  intro n
  induction n using Nat.strongRecOn with
  | _ n ih =>
    intro t acc R hn h
    rcases spl_first _ t [] rfl with e | ⟨a, b, rfl, e⟩
    · rw [e] at h
      simp [hearG] at h
    · rw [e, List.nil_append, dropLast_cons_ne _ (spl_ne _ b [] rfl)] at h
      unfold hearG hearS at h
      by_cases c1 : a = [46]
      · rw [if_pos c1] at h
        subst c1
        refine ⟨[], ?_, ⟨b, rfl⟩⟩
        have := (Prod.mk.inj h).1
        rw [List.append_nil]; exact this.symm
      · rw [if_neg c1] at h
        by_cases c2 : 13 ∈ a ∨ 10 ∈ a
        · rw [if_pos c2] at h
          exact absurd (Prod.mk.inj h).2 (by decide)
        · rw [if_neg c2] at h
          by_cases c3 : a.take 1 = [46] ∧ a.take 2 ≠ [46, 46]
          · rw [if_pos c3] at h
            exact absurd (Prod.mk.inj h).2 (by decide)
          · rw [if_neg c3] at h
            obtain ⟨Q, h1, h2⟩ := ih b.length (by subst hn; simp; lia) b _ R rfl h
            refine ⟨(if a.take 1 = [46] then a.drop 1 else a) :: Q, by rw [h1]; simp, ?_⟩
            have hs : stuff (if a.take 1 = [46] then a.drop 1 else a) = a := by
              by_cases q : a.take 1 = [46]
              · rw [if_pos q]
                have q2 : a.take 2 = [46, 46] := Classical.byContradiction fun x => c3 ⟨q, x⟩
                match a, q2 with
                | x :: y :: s, q2 =>
                  simp at q2
                  obtain ⟨rfl, rfl⟩ := q2
                  simp [stuff]
              · rw [if_neg q]; unfold stuff; rw [if_neg q]
            show stuff _ ++ 13 :: 10 :: enc Q <+: _
            rw [hs]
            obtain ⟨w, rfl⟩ := h2
            exact ⟨w, by simp⟩
theorem heard_of : ∀ (Q : List (List Nat)) (acc : List (List Nat)) (rest : List Nat), (∀ r ∈ Q, 13 ∉ r ∧ 10 ∉ r) → hearG (spl [] (enc Q ++ rest)).dropLast acc = (acc ++ Q, true)
  | [], acc, rest, _ => by
    show hearG (spl [] (46 :: 13 :: 10 :: rest)).dropLast acc = _
    have e : spl [] (46 :: 13 :: 10 :: rest) = [46] :: spl [] rest := by
      have z := spl_plain [46] [] (13 :: 10 :: rest) (by decide)
      simp only [List.cons_append, List.nil_append] at z
      rw [z, spl]
    rw [e, dropLast_cons_ne _ (spl_ne _ rest [] rfl)]
    unfold hearG hearS
    rw [if_pos rfl]; simp
  | r :: Q, acc, rest, h => by
    have h1 := h r (by simp)
    have hs : 13 ∉ stuff r ∧ 10 ∉ stuff r := by
      unfold stuff
      split
      · simp [h1.1, h1.2]
      · exact h1
    have e : spl [] (enc (r :: Q) ++ rest) = stuff r :: spl [] (enc Q ++ rest) := by
      show spl [] (stuff r ++ 13 :: 10 :: enc Q ++ rest) = _
      rw [List.append_assoc, spl_plain _ _ _ (fun c hc e => hs.1 (e ▸ hc))]
      show spl ([] ++ stuff r) (13 :: 10 :: (enc Q ++ rest)) = _
      rw [spl, List.nil_append]
    rw [e, dropLast_cons_ne _ (spl_ne _ _ [] rfl)]
    unfold hearG hearS
    have c1 : stuff r ≠ [46] := by
      unfold stuff
      split
      · rename_i q
        intro x
        simp at x
        subst x; simp at q
      · rename_i q
        intro x
        subst x; simp at q
    rw [if_neg c1, if_neg (by rintro (x | x); exact hs.1 x; exact hs.2 x)]
    have c3 : ¬ ((stuff r).take 1 = [46] ∧ (stuff r).take 2 ≠ [46, 46]) := by
      unfold stuff
      split
      · rename_i q
        rintro ⟨_, x⟩
        apply x
        match r, q with
        | y :: s, q => simp at q; subst q; rfl
      · rename_i q
        exact fun x => q x.1
    rw [if_neg c3]
    have e2 : (if (stuff r).take 1 = [46] then (stuff r).drop 1 else stuff r) = r := by
      unfold stuff
      split
      · simp
      · rename_i q; first | rfl | rw [if_neg q]
    have ih := heard_of Q (acc ++ [r]) rest fun x hx => h x (by simp [hx])
    show hearG _ (acc ++ [if (stuff r).take 1 = [46] then (stuff r).drop 1 else stuff r]) = _
    rw [e2, ih]; simp
theorem enc_mail : ∀ k, k < 85 → enc (rowsL (mailK k)) = strmL (mailK k) ∧ (∀ r ∈ rowsL (mailK k), 13 ∉ r ∧ 10 ∉ r) ∧ (strmL (mailK k)).length ≤ 12 ∧ ∀ c ∈ strmL (mailK k), c = 10 ∨ c = 13 ∨ c = 46 ∨ c = 97 := by decide +kernel
theorem enc_inj_heard {N k : Nat} (hk : k < 85) : heardL N = some (rowsL (mailK k)) ↔ strmL (mailK k) <+: textL N := by
  obtain ⟨h1, h2, _⟩ := enc_mail k hk
  unfold heardL
  constructor
  · intro h
    cases q : (hearG (spl [] (textL N)).dropLast []).2 with
    | false => rw [q] at h; simp at h
    | true =>
      rw [q, if_pos rfl] at h
      obtain ⟨Q, e1, e2⟩ := heard_enc _ (textL N) [] (hearG (spl [] (textL N)).dropLast []).1 rfl (by rw [← q])
      rw [Option.some.inj h, List.nil_append] at e1
      rw [← e1, h1] at e2
      exact e2
  · rintro ⟨rest, h⟩
    have z := heard_of (rowsL (mailK k)) [] rest h2
    rw [h1, h] at z
    rw [z]; simp
end Mine
end
section
open PySem PySem.W PySem.Calls PyProof.Rows
set_option maxRecDepth 100000
set_option linter.unusedVariables false
namespace Mine
/-! a stream is an arc of the wheel -/
def strK (k : Nat) : List Nat := strmL (mailK k)
def plc1 (k : Nat) : Nat := placeL (strK k)
def rmK (k : Nat) : Nat := 4 ^ (12 - (strK k).length)
theorem ixOf_sg {j : Nat} (h : j < 4) : ixOf (sg j) = j := by
  have : j = 0 ∨ j = 1 ∨ j = 2 ∨ j = 3 := by lia
  rcases this with rfl | rfl | rfl | rfl <;> rfl
theorem sg_sign {j : Nat} (h : j < 4) : sg j = 10 ∨ sg j = 13 ∨ sg j = 46 ∨ sg j = 97 := by
  have : j = 0 ∨ j = 1 ∨ j = 2 ∨ j = 3 := by lia
  rcases this with rfl | rfl | rfl | rfl <;> simp [sg, sgL]
theorem take_textL (N n : Nat) (h : n < 12) : (textL N).take (n + 1) = (textL N).take n ++ [dgN N n] := by
  have e : (textL N)[n]? = some (dgN N n) := by
    unfold textL
    rw [List.getElem?_map, List.getElem?_range h]; rfl
  rw [List.take_add_one, e]; rfl
theorem numL_take {N : Nat} (hN : N < 4 ^ 12) : ∀ n, n ≤ 12 → numL ((textL N).take n) = N / 4 ^ (12 - n)
  | 0, _ => by
    rw [List.take_zero, Nat.div_eq_of_lt hN]; rfl
  | n + 1, h => by
    rw [take_textL N n (by lia), numL_snoc, numL_take hN n (by lia)]
    unfold dgN
    rw [ixOf_sg (Nat.mod_lt _ (by decide))]
    have e : 12 - n = (11 - n) + 1 := by lia
    have e2 : 12 - (n + 1) = 11 - n := by lia
    rw [e, e2, Nat.pow_succ, ← Nat.div_div_eq_div_mul]
    lia
theorem textL_signs (N : Nat) : SgAll (textL N) := by
  intro c hc
  unfold textL at hc
  obtain ⟨i, _, rfl⟩ := List.mem_map.mp hc
  exact sg_sign (Nat.mod_lt _ (by decide))
theorem ixOf_inj {a b : Nat} (ha : a = 10 ∨ a = 13 ∨ a = 46 ∨ a = 97) (hb : b = 10 ∨ b = 13 ∨ b = 46 ∨ b = 97) (h : ixOf a = ixOf b) : a = b := by
  rcases ha with rfl | rfl | rfl | rfl <;> rcases hb with rfl | rfl | rfl | rfl <;> first | rfl | (revert h; decide)
theorem numL_inj : ∀ (n : Nat) (a b : List Nat), a.length = n → b.length = n → SgAll a → SgAll b → numL a = numL b → a = b
  | 0, a, b, ha, hb, _, _, _ => by
    rw [List.length_eq_zero_iff.mp ha, List.length_eq_zero_iff.mp hb]
  | n + 1, a, b, ha, hb, sa, sb, h => by
    have ea : a ≠ [] := fun e => by subst e; simp at ha
    have eb : b ≠ [] := fun e => by subst e; simp at hb
    rw [← List.dropLast_concat_getLast ea, ← List.dropLast_concat_getLast eb] at h ⊢
    rw [numL_snoc, numL_snoc] at h
    have h1 := ixOf_lt (a.getLast ea)
    have h2 := ixOf_lt (b.getLast eb)
    have h3 : ixOf (a.getLast ea) = ixOf (b.getLast eb) := by lia
    have h4 : numL a.dropLast = numL b.dropLast := by lia
    rw [numL_inj n a.dropLast b.dropLast (by rw [List.length_dropLast]; lia) (by rw [List.length_dropLast]; lia) (fun c hc => sa c ((List.dropLast_sublist _).subset hc)) (fun c hc => sb c ((List.dropLast_sublist _).subset hc)) h4,
      ixOf_inj (sa _ (List.getLast_mem ea)) (sb _ (List.getLast_mem eb)) h3]
theorem pre_arc {N : Nat} (hN : N < 4 ^ 12) {l : List Nat} (hl : l.length ≤ 12) (hs : SgAll l) : l <+: textL N ↔ placeL l ≤ N ∧ N < placeL l + 4 ^ (12 - l.length) := by
  have e := numL_take hN l.length hl
  have hpos : 0 < 4 ^ (12 - l.length) := Nat.pow_pos (by decide)
  have key : l <+: textL N ↔ numL l = N / 4 ^ (12 - l.length) := by
    constructor
    · intro h
      rw [← e, ← List.prefix_iff_eq_take.mp h]
    · intro h
      rw [List.prefix_iff_eq_take]
      refine numL_inj l.length l _ rfl ?_ hs (fun c hc => textL_signs N c (List.mem_of_mem_take hc)) (h.trans e.symm)
      rw [List.length_take, textL_len]; lia
  rw [key]
  unfold placeL
  generalize 4 ^ (12 - l.length) = M at hpos ⊢
  constructor
  · intro h
    have h1 := Nat.div_mul_le_self N M
    have h2 := Nat.lt_div_mul_add hpos (a := N)
    rw [h]
    exact ⟨h1, h2⟩
  · rintro ⟨h1, h2⟩
    refine (Nat.div_eq_of_lt_le h1 ?_).symm
    rw [Nat.succ_mul]; exact h2
theorem heard_iff {N k : Nat} (hk : k < 85) (hN : N < 4 ^ 12) : heardL N = some (rowsL (mailK k)) ↔ plc1 k ≤ N ∧ N < plc1 k + rmK k := by
  obtain ⟨_, _, h3, h4⟩ := enc_mail k hk
  rw [enc_inj_heard hk]
  exact pre_arc hN h3 h4
end Mine
end
section
open PySem PySem.W PySem.Calls PyProof.Rows
set_option maxRecDepth 100000
set_option linter.unusedVariables false
namespace Mine
/-! the sort, stable -/
/-- in order by rank, like ones as they came -/
def lx (r : Nat → Nat) (a b : Nat) : Prop := r a < r b ∨ (r a = r b ∧ a < b)
theorem lx.trans {r : Nat → Nat} {a b c : Nat} (h : lx r a b) (k : lx r b c) : lx r a c := by unfold lx at *; lia
theorem lx.le {r : Nat → Nat} {a b : Nat} (h : lx r a b) : r a ≤ r b := by unfold lx at h; lia
/-- what stands where: place i holds what came at σ i -/
structure SI (a₀ : Array Keyed) (st : SortSt) (σ : Nat → Nat) : Prop where
  base : SBase a₀ st
  lt : ∀ i, i < a₀.size → σ i < a₀.size
  is : ∀ i, i < a₀.size → (arrOf st)[i]? = a₀[σ i]?
def So (r σ : Nat → Nat) (k : Nat) : Prop := ∀ i j, i < j → j < k → lx r (σ i) (σ j)
def De (r σ : Nat → Nat) (k : Nat) : Prop := ∀ i j, i < j → j < k → lx r (σ j) (σ i)
/-- the first k hold the first k, the rest stands -/
structure Up (σ : Nat → Nat) (k n : Nat) : Prop where
  lo : ∀ i, i < k → σ i < k
  hi : ∀ i, k ≤ i → i < n → σ i = i
theorem Up.more {σ : Nat → Nat} {k m n : Nat} (h : Up σ k n) (hm : k ≤ m) (hn : m ≤ n) : Up σ m n := by
  refine ⟨fun i hi => ?_, fun i h1 h2 => h.hi i (by lia) h2⟩
  by_cases q : i < k
  · have := h.lo i q; lia
  · rw [h.hi i (by lia) (by lia)]; exact hi
theorem Up.below {σ : Nat → Nat} {k n i x : Nat} (h : Up σ k n) (hk : k ≤ x) (hx : x < n) (hi : i < x) : σ i < σ x := by
  rw [h.hi x hk hx]
  by_cases q : i < k
  · have := h.lo i q; lia
  · rw [h.hi i (by lia) (by lia)]; exact hi
section
variable {prog : Program} {w : World} {A : Around} {E : Value → Shared → Prop} {s : Shared} {a₀ : Array Keyed} {r : Nat → Nat}
def CmpAt (prog : Program) (w : World) (s : Shared) (a₀ : Array Keyed) (r : Nat → Nat) : Prop := ∀ (A : Around) (E : Value → Shared → Prop) (i j : Nat) (p q : Keyed) (Q : Bool → Shared → Prop), A.units < cLine → a₀[i]? = some p → a₀[j]? = some q → Q (decide (r i < r j)) s → wpAny (model prog w) A (oneLt' true p.1 q.1) Q E s
theorem ss_lt {st : SortSt} {σ : Nat → Nat} {i j : Nat} {Q : Option Bool → SortSt → Prop} (hc : CmpAt prog w s a₀ r) (hu : A.units < cLine) (hS : SI a₀ st σ) (hi : i < a₀.size) (hj : j < a₀.size) (h : Q (some (decide (r (σ i) < r (σ j)))) st) : wpS (model prog w) A E s (ltAt' i j) Q st := by
  have e1 := hS.is i hi
  have e2 := hS.is j hj
  have l1 := hS.lt i hi
  have l2 := hS.lt j hj
  have f1 := getElem?_pos a₀ (σ i) l1
  have f2 := getElem?_pos a₀ (σ j) l2
  rw [f1] at e1
  rw [f2] at e2
  rw [ltAt'_eq]
  refine wpS_bind (wpS_get ?_)
  show wpS _ _ _ _ (do let x ← elem' (arrOf st) i; let y ← elem' (arrOf st) j; lt' x y) Q st
  rw [elem'_eq, elem'_eq, e1, e2]
  refine wpS_bind (wpS_pure (wpS_bind (wpS_pure ?_)))
  rw [lt'_eq]
  refine wpS_bind (wpS_get ?_)
  rw [hS.base.kind, keyLt'_oneType]
  refine wpS_bind (wpS_lift (wpAny_attempt (hc _ _ _ _ _ _ _ hu f1 f2 ⟨rfl, ?_⟩)))
  exact wpS_pure h
theorem SI.bub {st : SortSt} {σ : Nat → Nat} {k l : Nat} (hS : SI a₀ st σ) (hk : k < a₀.size) (hl : l ≤ k) : SI a₀ (setArr st (bubble (arrOf st) k (k - l))) (fun i => if i = l then σ k else if l < i ∧ i ≤ k then σ (i - 1) else σ i) := by
  refine ⟨hS.base.setArr (bubble_perm _ _ _), fun i hi => ?_, fun i hi => ?_⟩
  · (try dsimp only)
    split
    · exact hS.lt _ hk
    · split
      · exact hS.lt _ (by lia)
      · exact hS.lt _ hi
  · show (bubble (arrOf st) k (k - l))[i]? = _
    rw [getElem?_bubble (by rw [hS.base.size]; exact hk) _ (by lia), show k - (k - l) = l by lia]
    (try dsimp only)
    split
    · exact hS.is _ hk
    · split
      · exact hS.is _ (by lia)
      · exact hS.is _ hi
theorem SI.mir {st : SortSt} {σ : Nat → Nat} {a b : Nat} (hS : SI a₀ st σ) (hb : b ≤ a₀.size) : SI a₀ (setArr st (mirror (arrOf st) a b ((b - a) / 2))) (fun i => if a ≤ i ∧ i < b then σ (a + b - 1 - i) else σ i) := by
  refine ⟨hS.base.setArr (mirror_perm _ _ _ _), fun i hi => ?_, fun i hi => ?_⟩
  · (try dsimp only)
    split
    · exact hS.lt _ (by lia)
    · exact hS.lt _ hi
  · show (mirror (arrOf st) a b ((b - a) / 2))[i]? = _
    rw [getElem?_mirror_all (by rw [hS.base.size]; exact hb)]
    (try dsimp only)
    split
    · exact hS.is _ (by lia)
    · exact hS.is _ hi
theorem Up.mir {σ : Nat → Nat} {k n a b : Nat} (h : Up σ k n) (hb : b ≤ k) : Up (fun i => if a ≤ i ∧ i < b then σ (a + b - 1 - i) else σ i) k n := by
  refine ⟨fun i hi => ?_, fun i h1 h2 => ?_⟩
  · (try dsimp only)
    split
    · exact h.lo _ (by omega)
    · exact h.lo _ hi
  · (try dsimp only)
    rw [if_neg (by omega)]; exact h.hi i h1 h2
theorem ss_binary {st : SortSt} {σ : Nat → Nat} {ok : Nat} {Q : Bool → SortSt → Prop} (hc : CmpAt prog w s a₀ r) (hu : A.units < cLine) (h1 : 1 ≤ ok) (hok : ok ≤ a₀.size) (hS : SI a₀ st σ) (hs : So r σ ok) (hup : Up σ ok a₀.size)
    (h : ∀ st' σ', SI a₀ st' σ' → So r σ' a₀.size → Q true st') : wpS (model prog w) A E s (binarySort' 0 a₀.size ok) Q st := by
  rw [binarySort'_eq]
  simp only [Nat.zero_add]
  refine wpS_bind (wpS_mono (wpS_forRange (I := fun k c st' => c = (none, ()) ∧ ∃ σ, SI a₀ st' σ ∧ So r σ k ∧ Up σ k a₀.size)
    (Q := fun c st' => c = (none, ()) ∧ ∃ σ, SI a₀ st' σ ∧ So r σ a₀.size) ?step ?fin ?init) ?post)
  case post =>
    rintro c st' ⟨rfl, σ', hS', hs'⟩
    exact wpS_pure (h st' σ' hS' hs')
  case init =>
    refine ⟨rfl, σ, hS, ?_, ?_⟩
    · rw [show max ok 1 = ok by lia]; exact hs
    · rw [show max ok 1 = ok by lia]; exact hup
  case fin =>
    rintro c st' ⟨hc, σ', hS', hs', hup'⟩
    rw [show max (max ok 1) a₀.size = a₀.size by lia] at hs'
    exact ⟨hc, σ', hS', hs'⟩
  case step =>
    rintro k c st' hak hk ⟨rfl, σ', hS', hs', hup'⟩
    have hkk : σ' k = k := hup'.hi k (Nat.le_refl _) hk
    refine wpS_bind (wpS_mono (wpS_forRange (I := fun x c st'' => st'' = st' ∧ ∃ l u, c = (none, l, u) ∧ l ≤ u ∧ u ≤ k ∧ u - l ≤ k - x ∧
        (∀ i, i < l → lx r (σ' i) (σ' k)) ∧ (∀ i, u ≤ i → i < k → lx r (σ' k) (σ' i)))
      (Q := fun c st'' => st'' = st' ∧ ∃ l u, c = (none, l, u) ∧ l ≤ k ∧
        (∀ i, i < l → lx r (σ' i) (σ' k)) ∧ (∀ i, l ≤ i → i < k → lx r (σ' k) (σ' i))) ?istep ?ifin ?iinit) ?ipost)
    case iinit => exact ⟨rfl, 0, k, rfl, by lia, by lia, by lia, fun i hi => by lia, fun i h1 h2 => by lia⟩
    case ifin =>
      rintro c st'' ⟨rfl, l, u, rfl, hlr, hrk, hm, hlo, hhi⟩
      have : l = u := by lia
      subst this
      exact ⟨rfl, l, l, rfl, hrk, hlo, hhi⟩
    case istep =>
      rintro x c st'' _ hxk ⟨rfl, l, u, rfl, hlr, hrk, hm, hlo, hhi⟩
      (try dsimp only)
      by_cases hge : l ≥ u
      · rw [if_pos hge]
        have : l = u := by lia
        subst this
        exact wpS_pure ⟨rfl, l, l, rfl, hrk, hlo, hhi⟩
      · rw [if_neg hge]
        have ma : l ≤ (l + u) / 2 := by lia
        have mb : (l + u) / 2 < u := by lia
        have mk : (l + u) / 2 < k := Nat.lt_of_lt_of_le mb hrk
        refine wpS_bind (ss_lt hc hu hS' hk (Nat.lt_trans mk hk) ?_)
        have hml := hup'.lo ((l + u) / 2) mk
        by_cases hless : r (σ' k) < r (σ' ((l + u) / 2))
        · simp only [hless, decide_true, if_true]
          refine wpS_pure ⟨rfl, l, (l + u) / 2, rfl, ma, Nat.le_of_lt mk, Nat.le_trans (Nat.le_pred_of_lt (Nat.sub_lt_sub_right ma mb)) (Nat.sub_le_sub_right hm 1), hlo, fun i h1 h2 => ?_⟩
          by_cases hi : i = (l + u) / 2
          · subst hi; exact .inl hless
          · exact lx.trans (.inl hless) (hs' _ _ (by lia) h2)
        · simp only [hless, decide_false, Bool.false_eq_true, if_false]
          have hmk : lx r (σ' ((l + u) / 2)) (σ' k) := by unfold lx; lia
          refine wpS_pure ⟨rfl, (l + u) / 2 + 1, u, rfl, mb, hrk, Nat.sub_le_sub_right (Nat.le_trans (Nat.sub_le_sub_left ma u) hm) 1, fun i h1 => ?_, hhi⟩
          by_cases hi : i = (l + u) / 2
          · subst hi; exact hmk
          · exact (hs' i ((l + u) / 2) (by lia) (by lia)).trans hmk
    case ipost =>
      rintro c st'' ⟨rfl, l, u, rfl, hlk, hlo, hhi⟩
      show wpS _ _ _ _ (do moveDown' k l; pure (ForInStep.yield (none, ()))) _ _
      rw [moveDown'_eq]
      refine wpS_bind (wpS_modify (wpS_pure ⟨rfl, _, hS'.bub hk hlk, ?_, ?_⟩))
      · intro i j hij hj
        (try dsimp only)
        repeat' split
        all_goals first
          | (exfalso; lia)
          | exact hlo _ (by lia)
          | exact hhi _ (by lia) (by lia)
          | exact hs' _ _ (by lia) (by lia)
      · refine ⟨fun i hi => ?_, fun i h1 h2 => ?_⟩
        · (try dsimp only)
          repeat' split
          · lia
          · have := hup'.lo (i - 1) (by lia); lia
          · have := hup'.lo i (by lia); lia
        · (try dsimp only)
          rw [if_neg (by lia), if_neg (by lia)]
          exact hup'.hi i (by lia) h2
end
end Mine
end
section
open PySem PySem.W PySem.Calls PyProof.Rows
set_option maxRecDepth 100000
set_option linter.unusedVariables false
namespace Mine
section
variable {prog : Program} {w : World} {A : Around} {E : Value → Shared → Prop} {s : Shared} {a₀ : Array Keyed} {r : Nat → Nat}
theorem So.more {r σ : Nat → Nat} {x : Nat} (h : So r σ x) (hx : 1 ≤ x) (hl : lx r (σ (x - 1)) (σ x)) : So r σ (x + 1) := by
  intro i j hij hj
  by_cases hjx : j < x
  · exact h i j hij hjx
  · have hj' : j = x := by lia
    subst hj'
    by_cases hi : i = j - 1
    · subst hi; exact hl
    · exact (h i (j - 1) (by lia) (by lia)).trans hl
theorem ss_asc {st : SortSt} {σ : Nat → Nat} {a nrem : Nat} {Q : AscSt → SortSt → Prop} (hc : CmpAt prog w s a₀ r) (hu : A.units < cLine) (hn : nrem ≤ a₀.size) (ha : 1 ≤ a) (han : a ≤ nrem) (hS : SI a₀ st σ) (hs : So r σ a) (hup : Up σ a a₀.size)
    (h : ∀ n, a ≤ n → n ≤ nrem → So r σ n → (n = nrem ∨ r (σ n) < r (σ (n - 1))) → Q (none, n) st) : wpS (model prog w) A E s (ascLoop a nrem) Q st := by
  unfold ascLoop
  refine wpS_forRange (I := fun x c st' => st' = st ∧ c = (none, x) ∧ So r σ x) ?step ?fin ⟨rfl, rfl, hs⟩
  case fin =>
    rintro c st' ⟨rfl, rfl, hs'⟩
    rw [show max a nrem = nrem by lia] at hs' ⊢
    exact h nrem han (Nat.le_refl _) hs' (.inl rfl)
  case step =>
    rintro x c st' hax hxn ⟨rfl, rfl, hs'⟩
    (try dsimp only)
    refine wpS_bind (ss_lt hc hu hS (by lia) (by lia) ?_)
    by_cases hless : r (σ x) < r (σ (x - 1))
    · simp only [hless, decide_true, if_true]
      exact wpS_pure (h x hax (by lia) hs' (.inr hless))
    · simp only [hless, decide_false, Bool.false_eq_true, if_false]
      refine wpS_pure ⟨rfl, rfl, hs'.more (by lia) ?_⟩
      have hb := hup.below (x := x) (i := x - 1) hax (by lia) (by lia)
      unfold lx; lia
theorem ss_tail3 {st : SortSt} {σ : Nat → Nat} {n nrem : Nat} {Q : Option Nat → SortSt → Prop} (hc : CmpAt prog w s a₀ r) (hu : A.units < cLine) (hn : nrem ≤ a₀.size) (h1 : 1 ≤ n) (hnn : n ≤ nrem) (hS : SI a₀ st σ) (hs : De r σ n) (hup : Up σ n a₀.size)
    (h : ∀ m st' σ', SI a₀ st' σ' → 1 ≤ m → m ≤ nrem → So r σ' m → Up σ' m a₀.size → Q (some m) st') : wpS (model prog w) A E s (tail3 n nrem) Q st := by
  unfold tail3
  refine wpS_bind (wpS_reverse ?_)
  have hS' := hS.mir (a := 0) (b := n) (by lia)
  have hup' := hup.mir (a := 0) (b := n) (Nat.le_refl _)
  refine wpS_bind (ss_asc hc hu hn h1 hnn hS' ?_ hup' fun m hm1 hm2 hsm _ => wpS_pure (h m _ _ hS' (by lia) hm2 hsm (hup'.more hm1 (by lia))))
  intro i j hij hj
  show lx r (if 0 ≤ i ∧ i < n then σ (0 + n - 1 - i) else σ i) (if 0 ≤ j ∧ j < n then σ (0 + n - 1 - j) else σ j)
  rw [if_pos (by lia), if_pos (by lia)]
  exact hs _ _ (by lia) (by lia)
/-- going down, the last q + 1 alike and as they came -/
structure Dn (r σ : Nat → Nat) (x q : Nat) : Prop where
  le : q + 1 ≤ x
  a : ∀ i j, i < j → j < x - (q + 1) → lx r (σ j) (σ i)
  b : ∀ i j, i < x - (q + 1) → x - (q + 1) ≤ j → j < x → r (σ j) < r (σ i)
  c : ∀ i j, x - (q + 1) ≤ i → i < j → j < x → r (σ i) = r (σ j) ∧ σ i < σ j
theorem Dn.rev {σ : Nat → Nat} {x q : Nat} (h : Dn r σ x q) : De r (fun i => if x - (q + 1) ≤ i ∧ i < x then σ (x - (q + 1) + x - 1 - i) else σ i) x := by
  intro i j hij hj
  have hq := h.le
  show lx r (if x - (q + 1) ≤ j ∧ j < x then σ (x - (q + 1) + x - 1 - j) else σ j) (if x - (q + 1) ≤ i ∧ i < x then σ (x - (q + 1) + x - 1 - i) else σ i)
  by_cases h1 : x - (q + 1) ≤ i
  · rw [if_pos (by omega), if_pos (by omega)]
    have := h.c (x - (q + 1) + x - 1 - j) (x - (q + 1) + x - 1 - i) (by omega) (by omega) (by omega)
    exact .inr ⟨this.1, this.2⟩
  · rw [if_neg (by omega : ¬ (x - (q + 1) ≤ i ∧ i < x))]
    by_cases h2 : x - (q + 1) ≤ j
    · rw [if_pos (by omega)]
      exact .inl (h.b i _ (by omega) (by omega) (by omega))
    · rw [if_neg (by omega)]
      exact h.a i j hij (by omega)
theorem Dn.plain {σ : Nat → Nat} {x : Nat} (h : Dn r σ x 0) : De r σ x := by
  intro i j hij hj
  have hq := h.le
  by_cases h2 : x - (0 + 1) ≤ j
  · exact .inl (h.b i j (by lia) h2 hj)
  · exact h.a i j hij (by lia)
theorem De.dn {σ : Nat → Nat} {x : Nat} (h : De r σ x) (hx : ∀ i, i < x → r (σ x) < r (σ i)) : Dn r σ (x + 1) 0 := by
  refine ⟨by lia, fun i j hij hj => h i j hij (by lia), fun i j hi hj hj2 => ?_, fun i j h1 h2 h3 => by lia⟩
  have : j = x := by lia
  subst this
  exact hx i (by lia)
theorem ss_desc {st : SortSt} {σ : Nat → Nat} {n nrem : Nat} {Q : DescSt → SortSt → Prop} (hc : CmpAt prog w s a₀ r) (hu : A.units < cLine) (hn : nrem ≤ a₀.size) (h1 : 1 ≤ n) (hnn : n ≤ nrem) (hS : SI a₀ st σ) (hs : Dn r σ n 0) (hup : Up σ n a₀.size)
    (h : ∀ m q st' σ', SI a₀ st' σ' → n ≤ m → m ≤ nrem → Dn r σ' m q → Up σ' m a₀.size → Q (none, m, q) st') : wpS (model prog w) A E s (descLoop n nrem) Q st := by
  unfold descLoop
  refine wpS_forRange (I := fun x c st' => ∃ q σ', c = (none, x, q) ∧ SI a₀ st' σ' ∧ Dn r σ' x q ∧ Up σ' x a₀.size) ?step ?fin ⟨0, σ, rfl, hS, hs, hup⟩
  case fin =>
    rintro c st' ⟨q, σ', rfl, hS', hs', hup'⟩
    rw [show max n nrem = nrem by lia] at hs' hup' ⊢
    exact h nrem q st' σ' hS' hnn (Nat.le_refl _) hs' hup'
  case step =>
    rintro x c st' hax hxn ⟨q, σ', rfl, hS', hs', hup'⟩
    have hq := hs'.le
    have hup1 := hup'.more (m := x + 1) (by lia) (by lia)
    have hb := hup'.below (x := x) (i := x - 1) (Nat.le_refl _) (by lia) (by lia)
    (try dsimp only)
    refine wpS_bind (ss_lt hc hu hS' (by lia) (by lia) ?_)
    by_cases hless : r (σ' x) < r (σ' (x - 1))
    · simp only [hless, decide_true, if_true]
      have hall : ∀ i, i < x → r (σ' x) < r (σ' i) := fun i hi => by
        by_cases h2 : x - (q + 1) ≤ i
        · by_cases h3 : i = x - 1
          · subst h3; exact hless
          · have := (hs'.c i (x - 1) h2 (by lia) (by lia)).1; lia
        · have := hs'.b i (x - 1) (by lia) (by lia) (by lia); lia
      by_cases hneq : q > 0
      · rw [if_pos hneq]
        refine wpS_bind (wpS_reverse (wpS_pure ⟨0, _, rfl, hS'.mir (by lia), De.dn hs'.rev fun i hi => ?_, hup1.mir (by lia)⟩))
        show r (if x - (q + 1) ≤ x ∧ x < x then _ else σ' x) < r (if x - (q + 1) ≤ i ∧ i < x then σ' (x - (q + 1) + x - 1 - i) else σ' i)
        rw [if_neg (by lia : ¬ (x - (q + 1) ≤ x ∧ x < x))]
        split
        · exact hall _ (by lia)
        · exact hall _ hi
      · rw [if_neg hneq]
        have hq0 : q = 0 := by lia
        subst hq0
        exact wpS_pure ⟨0, σ', rfl, hS', De.dn hs'.plain hall, hup1⟩
    · simp only [hless, decide_false, Bool.false_eq_true, if_false]
      refine wpS_bind (ss_lt hc hu hS' (by lia) (by lia) ?_)
      by_cases hlarger : r (σ' (x - 1)) < r (σ' x)
      · simp only [hlarger, decide_true, if_true]
        exact wpS_pure (h x q st' σ' hS' hax (by lia) hs' hup')
      · simp only [hlarger, decide_false, Bool.false_eq_true, if_false]
        have heq : r (σ' x) = r (σ' (x - 1)) := by lia
        refine wpS_pure ⟨q + 1, σ', rfl, hS', ⟨by lia, fun i j hij hj => hs'.a i j hij (by lia), fun i j hi hj hj2 => ?_, fun i j h2 hij hj2 => ?_⟩, hup1⟩
        · by_cases hjx : j = x
          · subst hjx
            rw [heq]
            exact hs'.b i (j - 1) (by lia) (by lia) (by lia)
          · exact hs'.b i j (by lia) (by lia) (by lia)
        · by_cases hjx : j = x
          · subst hjx
            have hb2 := hup'.below (x := j) (i := i) (Nat.le_refl _) (by lia) (by lia)
            refine ⟨?_, hb2⟩
            by_cases hi : i = j - 1
            · subst hi; exact heq.symm
            · rw [heq]; exact (hs'.c i (j - 1) (by lia) (by lia) (by lia)).1
          · exact hs'.c i j (by lia) hij (by lia)
theorem ss_descPart {st : SortSt} {σ : Nat → Nat} {n nrem : Nat} {Q : Option Nat → SortSt → Prop} (hc : CmpAt prog w s a₀ r) (hu : A.units < cLine) (hn : nrem ≤ a₀.size) (hnn : n + 1 ≤ nrem) (hS : SI a₀ st σ) (hs : Dn r σ (n + 1) 0) (hup : Up σ (n + 1) a₀.size)
    (h : ∀ m st' σ', SI a₀ st' σ' → 1 ≤ m → m ≤ nrem → So r σ' m → Up σ' m a₀.size → Q (some m) st') : wpS (model prog w) A E s (descPart n nrem) Q st := by
  unfold descPart
  refine wpS_bind (wpS_lift (wpAny_rule ⟨rfl, ?_⟩))
  refine wpS_bind (ss_desc hc hu hn (by lia) hnn hS hs hup fun m q st' σ' hS' hm1 hm2 hs' hup' => ?_)
  (try dsimp only)
  have hq := hs'.le
  by_cases hneq : q > 0
  · rw [if_pos hneq]
    exact wpS_bind (wpS_reverse (ss_tail3 hc hu hn (by lia) hm2 (hS'.mir (by lia)) hs'.rev (hup'.mir (Nat.le_refl _)) h))
  · rw [if_neg hneq]
    have hq0 : q = 0 := by lia
    subst hq0
    exact ss_tail3 hc hu hn (by lia) hm2 hS' hs'.plain hup' h
theorem ss_count {st : SortSt} {σ : Nat → Nat} {nrem : Nat} {Q : Option Nat → SortSt → Prop} (hc : CmpAt prog w s a₀ r) (hu : A.units < cLine) (hn : nrem ≤ a₀.size) (h1 : 1 ≤ nrem) (hS : SI a₀ st σ) (hup : Up σ 1 a₀.size)
    (h : ∀ m st' σ', SI a₀ st' σ' → 1 ≤ m → m ≤ nrem → So r σ' m → Up σ' m a₀.size → Q (some m) st') : wpS (model prog w) A E s (countRun' 0 nrem) Q st := by
  rw [countRun0_eq]
  refine wpS_bind (ss_asc hc hu hn (Nat.le_refl 1) h1 hS (fun i j hij hj => by lia) hup fun n hn1 hn2 hsn hor => ?_)
  (try dsimp only)
  by_cases hnn : n = nrem
  · rw [if_pos (by simpa using hnn)]
    exact wpS_pure (h n st σ hS hn1 hn2 hsn (hup.more hn1 (by lia)))
  · rw [if_neg (by simpa using hnn)]
    have hlt : r (σ n) < r (σ (n - 1)) := hor.resolve_left hnn
    have hupn := hup.more hn1 (by lia : n ≤ a₀.size)
    have hup1 := hup.more (m := n + 1) (by lia) (by lia)
    by_cases hgt : n > 1
    · rw [if_pos hgt]
      refine wpS_bind (ss_lt hc hu hS (by lia) (by lia) ?_)
      by_cases hrose : r (σ 0) < r (σ (n - 1))
      · simp only [hrose, decide_true, if_true]
        exact wpS_pure (h n st σ hS hn1 hn2 hsn hupn)
      · simp only [hrose, decide_false, Bool.false_eq_true, if_false]
        have hall : ∀ k, k < n → r (σ k) = r (σ (n - 1)) := by
          intro k hk
          have a1 : r (σ 0) ≤ r (σ k) := by
            by_cases k0 : k = 0
            · subst k0; exact Nat.le_refl _
            · exact (hsn 0 k (by lia) hk).le
          have a2 : r (σ k) ≤ r (σ (n - 1)) := by
            by_cases k0 : k = n - 1
            · subst k0; exact Nat.le_refl _
            · exact (hsn k (n - 1) (by lia) (by lia)).le
          lia
        refine wpS_bind (wpS_reverse (ss_descPart hc hu hn (by lia) (hS.mir (by lia)) (De.dn ?_ fun i hi => ?_) (hup1.mir (by lia)) h))
        · intro i j hij hj
          show lx r (if 0 ≤ j ∧ j < n then σ (0 + n - 1 - j) else σ j) (if 0 ≤ i ∧ i < n then σ (0 + n - 1 - i) else σ i)
          rw [if_pos (by lia), if_pos (by lia)]
          exact hsn _ _ (by lia) (by lia)
        · show r (if 0 ≤ n ∧ n < n then _ else σ n) < r (if 0 ≤ i ∧ i < n then σ (0 + n - 1 - i) else σ i)
          rw [if_neg (by lia : ¬ (0 ≤ n ∧ n < n)), if_pos (by lia)]
          have := hall (0 + n - 1 - i) (by lia)
          lia
    · rw [if_neg hgt]
      have hn1' : n = 1 := by lia
      subst hn1'
      refine ss_descPart hc hu hn (by lia) hS (De.dn (fun i j hij hj => by lia) fun i hi => ?_) hup1 h
      have : i = 0 := by lia
      subst this; exact hlt
/-- the end of a sort -/
structure SEnd (a₀ : Array Keyed) (r : Nat → Nat) (st : SortSt) (σ : Nat → Nat) : Prop where
  perm : (arrOf st).Perm a₀
  failed : failedOf st = none
  so : So r σ a₀.size
  lt : ∀ i, i < a₀.size → σ i < a₀.size
  is : ∀ i, i < a₀.size → (arrOf st)[i]? = a₀[σ i]?
theorem SI.fin {st : SortSt} {σ : Nat → Nat} (hS : SI a₀ st σ) (hs : So r σ a₀.size) : SEnd a₀ r (setPending st ((pendingOf st).push (0, a₀.size, 0))) σ ∧ pendingOf (setPending st ((pendingOf st).push (0, a₀.size, 0))) = #[(0, a₀.size, 0)] :=
  ⟨⟨hS.base.perm, hS.base.failed, hs, hS.lt, hS.is⟩, by show (pendingOf st).push _ = _; rw [hS.base.pend]; rfl⟩
theorem ss_runs {st : SortSt} {σ0 : Nat → Nat} {Q : Unit → SortSt → Prop} (hc : CmpAt prog w s a₀ r) (hu : A.units < cLine) (hS : SI a₀ st σ0) (hup : Up σ0 1 a₀.size) (h2 : 2 ≤ a₀.size) (h64 : a₀.size < 64)
    (h : ∀ st' σ, SEnd a₀ r st' σ → Q () st') : wpS (model prog w) A E s sortRuns' Q st := by
  rw [sortRuns'_eq]
  refine wpS_bind (wpS_get ?_)
  (try dsimp only)
  have hmr : minRun' a₀.size a₀.size 0 = a₀.size := by
    obtain ⟨f, hf⟩ : ∃ f, a₀.size = f + 1 := ⟨a₀.size - 1, by lia⟩
    have : minRun' (f + 1) a₀.size 0 = a₀.size := by rw [minRun'_succ, if_pos h64]; rfl
    rwa [← hf] at this
  simp only [hS.base.size, hmr]
  refine wpS_bind (wpS_mono (wpS_forRange
    (I := fun x c st' => (x = 0 ∧ c = (none, 0) ∧ st' = st) ∨ (1 ≤ x ∧ c = (none, a₀.size) ∧ ∃ σ, SEnd a₀ r st' σ ∧ pendingOf st' = #[(0, a₀.size, 0)]))
    (Q := fun c st' => c = (none, a₀.size) ∧ ∃ σ, SEnd a₀ r st' σ ∧ pendingOf st' = #[(0, a₀.size, 0)]) ?step ?fin (.inl ⟨rfl, rfl, rfl⟩)) ?post)
  case fin =>
    rintro c st' (⟨hx, _, _⟩ | ⟨_, hc, hD⟩)
    · lia
    · exact ⟨hc, hD⟩
  case step =>
    rintro x c st' _ hx (⟨rfl, rfl, rfl⟩ | ⟨hx1, rfl, hD⟩)
    · (try dsimp only)
      rw [if_neg (by lia)]
      simp only [Nat.sub_zero, Nat.min_self, Nat.zero_add]
      refine wpS_bind (ss_count hc hu (Nat.le_refl _) (by lia) hS hup fun m st2 σ2 hS2 hm1 hm2 hs2 hup2 => ?_)
      (try dsimp only)
      by_cases hlt : m < a₀.size
      · rw [if_pos hlt]
        refine wpS_bind (wpS_lift (wpAny_rule ⟨rfl, ?_⟩))
        refine wpS_bind (ss_binary hc hu hm1 hm2 hS2 hs2 hup2 fun st3 σ3 hS3 hs3 => ?_)
        simp only [Bool.not_true, Bool.false_eq_true, if_false]
        refine wpS_bind (wpS_get ?_)
        have hb : (pendingOf st3).back? = none := by rw [hS3.base.pend]; rfl
        rw [hb]
        (try dsimp only)
        exact wpS_bind (wpS_modify (wpS_pure (.inr ⟨by lia, rfl, σ3, hS3.fin hs3⟩)))
      · rw [if_neg hlt]
        have hm : m = a₀.size := by lia
        subst hm
        refine wpS_bind (wpS_get ?_)
        have hb : (pendingOf st2).back? = none := by rw [hS2.base.pend]; rfl
        rw [hb]
        (try dsimp only)
        exact wpS_bind (wpS_modify (wpS_pure (.inr ⟨by lia, rfl, σ2, hS2.fin hs2⟩)))
    · (try dsimp only)
      rw [if_pos (Nat.le_refl _)]
      exact wpS_pure ⟨rfl, hD⟩
  case post =>
    rintro c st' ⟨rfl, σ, hD, hp⟩
    (try dsimp only)
    refine wpS_bind (wpS_mono (wpS_forRange (I := fun _ c st'' => st'' = st' ∧ c = (none, ())) (Q := fun c st'' => st'' = st' ∧ c = (none, ())) ?_ (fun _ _ hh => hh) ⟨rfl, rfl⟩) ?_)
    · rintro x c st'' _ _ ⟨rfl, rfl⟩
      refine wpS_bind (wpS_get ?_)
      rw [if_pos (by rw [hp]; exact Nat.le_refl 1)]
      exact wpS_pure ⟨rfl, rfl⟩
    · rintro c st'' ⟨rfl, rfl⟩
      exact wpS_pure (h _ σ hD)
end
end Mine
end
section
open PySem PySem.W PySem.Calls PyProof.Rows PySem.SeqAt PySem.MeetsSeq PySem.MeetsSeq2 PySem.MeetsSeq3
set_option maxRecDepth 100000
set_option linter.unusedVariables false
namespace Mine
/-! a list of ints below another -/
def lexB : List Int → List Int → Bool
  | [], [] => false
  | [], _ :: _ => true
  | _ :: _, [] => false
  | a :: as, b :: bs => if a = b then lexB as bs else decide (a < b)
theorem lexB_end : ∀ (xs ys : List Int), xs = [] ∨ ys = [] → lexB xs ys = decide (xs.length < ys.length)
  | [], [], _ => rfl
  | [], _ :: _, _ => by simp [lexB]
  | _ :: _, [], _ => by simp [lexB]
  | _ :: _, _ :: _, h => by simp at h
theorem ints_get : ∀ {vs : List Value} {ns : List Int}, IntsAre vs ns → ∀ (i : Nat) (h1 : i < vs.length) (h2 : i < ns.length), ∃ t, vs[i] = .int ns[i] t
  | _, _, .cons n t h, 0, _, _ => ⟨t, rfl⟩
  | _, _, .cons n t h, i + 1, h1, h2 => by
    obtain ⟨u, e⟩ := ints_get h i (by simpa using h1) (by simpa using h2)
    exact ⟨u, by simpa using e⟩
open PySem.AutoSeq1 (wpAny_loadPart')
theorem lt_loop (l b : Addr) (xs ys : List Int) (vs ws : List Value) (n n2 : Nat) (hx : IntsAre vs xs) (hy : IntsAre ws ys) (k : Nat) :
    ∀ i : Nat, min xs.length ys.length - i = k → i ≤ min xs.length ys.length → Meets (Builtin.«list.__eq__.loop» ⟨[.ref l, .ref b, rawInt i, rawInt 0], []⟩)
      (fun A R s => s.heap.get? l = some { cls := .type "list", dict := none, data := .seq vs.toArray n, slots := #[] } ∧ s.heap.get? b = some { cls := .type "list", dict := none, data := .seq ws.toArray n2, slots := #[] } ∧
        R (.ok (.ret (.bool (lexB (xs.drop i) (ys.drop i))))) s) := by
  have l1 := hx.length
  have l2 := hy.length
  induction k with
  | zero =>
    intro i hk hi prog w A R s h
    obtain ⟨hp, g, d, tk, os⟩ := s; obtain ⟨hl, hb, h⟩ := h
    rw [lexB_end _ _ (by
      by_cases q : i < xs.length
      · exact .inr (by simp; omega)
      · exact .inl (by simp; omega))] at h
    wp_walk using wpAny_loadPart' hl, wpAny_loadPart' hb
    have fin : R (.ok (.ret (.bool (decide (vs.toArray.size < ws.toArray.size))))) ⟨hp, g, d, tk, os⟩ := by
      have e : decide (vs.toArray.size < ws.toArray.size) = decide ((xs.drop i).length < (ys.drop i).length) := decide_eq_decide.mpr (by rw [List.size_toArray, List.size_toArray, l1, l2, List.length_drop, List.length_drop]; exact (Nat.sub_lt_sub_iff_right (Nat.le_trans hi (Nat.min_le_left ..))).symm)
      rw [e]; exact h
    by_cases q : i < xs.length
    · have hi1 : vs.toArray[((i : Nat) : Int).toNat]? = some (vs[i]'(by omega)) := by simp
      have hi2 : ws.toArray[((i : Nat) : Int).toNat]? = none := by simp; omega
      rw [hi1, hi2]
      wp_walk using wpAny_loadPart' hl, wpAny_loadPart' hb
      exact fin
    · have hi1 : vs.toArray[((i : Nat) : Int).toNat]? = none := by simp; omega
      rw [hi1]
      wp_walk using wpAny_loadPart' hl, wpAny_loadPart' hb
      exact fin
  | succ k ih =>
    intro i hk hi prog w A R s h
    obtain ⟨hp, g, d, tk, os⟩ := s; obtain ⟨hl, hb, h⟩ := h
    wp_walk using wpAny_loadPart' hl, wpAny_loadPart' hb
    have hlt : i < vs.length := by omega
    have hlt2 : i < ws.length := by omega
    have hi1 : vs.toArray[((i : Nat) : Int).toNat]? = some vs[i] := by simp [hlt]
    have hi2 : ws.toArray[((i : Nat) : Int).toNat]? = some ws[i] := by simp [hlt2]
    obtain ⟨t, e1⟩ := ints_get hx i hlt (by omega)
    obtain ⟨u, e2⟩ := ints_get hy i hlt2 (by omega)
    rw [e1] at hi1
    rw [e2] at hi2
    have hc : ((i : Int) + 1) = ((i + 1 : Nat) : Int) := by push_cast; rfl
    have d1 : xs.drop i = xs[i] :: xs.drop (i + 1) := List.drop_eq_getElem_cons (by omega)
    have d2 : ys.drop i = ys[i] :: ys.drop (i + 1) := List.drop_eq_getElem_cons (by omega)
    rw [d1, d2, lexB] at h
    rw [hi1, hi2]
    refine wpAny_bind (EqAt.int_int _ t _ u prog w _ _ ?_)
    by_cases he : xs[i] = ys[i]
    · rw [if_pos he] at h
      have hb' : (xs[i] == ys[i]) = true := by simpa using he
      rw [hb']
      wp_walk
      rw [hc]
      exact ⟨plainId_quiet plain_eq_loop _, codeAny_builtin entry_eq_loop (by
        rw [Around.under_plainId plain_eq_loop _]
        exact ih (i + 1) (congrArg Nat.pred hk) (by omega) prog w A R _ ⟨hl, hb, h⟩)⟩
    · rw [if_neg he] at h
      have hb' : (xs[i] == ys[i]) = false := by simpa using he
      rw [hb']
      wp_walk using wpAny_loadPart' hl, wpAny_loadPart' hb
      rw [hi1, hi2]
      refine wpAny_bind ?_
      have z := PyProof.Rows.lt_int (prog := prog) (w := w) (A := A.in1) (a := xs[i]) (b := ys[i]) (t := t) (u := u) (s := ⟨hp, g, d, tk, os⟩) (E := fun e s' => R (.error e) s') (Q := fun v s' => wpAny (model prog w) A.in1 (ret v) (fun fin s' => match fin with | .done f => R (.ok f) s' | .again c' => c'.quiet = true ∧ codeAny (model prog w) A c' R s') (fun e s' => R (.error e) s') s') (wpAny_pure h)
      exact z
theorem list_lt (l b : Addr) (xs ys : List Int) (vs ws : List Value) (n n2 : Nat) (hx : IntsAre vs xs) (hy : IntsAre ws ys) :
    Meets (Builtin.«list.__lt__» ⟨[.ref l, .ref b], []⟩)
      (fun A R s => s.heap.get? l = some { cls := .type "list", dict := none, data := .seq vs.toArray n, slots := #[] } ∧ s.heap.get? b = some { cls := .type "list", dict := none, data := .seq ws.toArray n2, slots := #[] } ∧
        R (.ok (.ret (.bool (lexB xs ys)))) s) := by
  intro prog w A R s h
  obtain ⟨hp, g, d, tk, os⟩ := s; obtain ⟨hl, hb, h⟩ := h
  have f3 := AutoSeq1.sub_list_list
  wp_walk using wpAny_loadPart' hl, wpAny_loadPart' hb
  exact ⟨plainId_quiet plain_eq_loop _, codeAny_builtin entry_eq_loop (by
    rw [Around.under_plainId plain_eq_loop _]
    exact lt_loop l b xs ys vs ws n n2 hx hy _ 0 rfl (Nat.zero_le _) prog w A R _ ⟨hl, hb, h⟩)⟩
theorem oneLt_list {prog : Program} {w : World} {A : Around} {E : Value → Shared → Prop} {s : Shared} {x y : Addr} {xs ys : List Int} {vs ws : List Value} {Q : Bool → Shared → Prop} (hu : A.units < cLine) (hp : s.heap.PlainList x vs.toArray) (hq : s.heap.PlainList y ws.toArray) (hx : IntsAre vs xs) (hy : IntsAre ws ys)
    (h : Q (lexB xs ys) s) : wpAny (model prog w) A (oneLt' true (.ref x) (.ref y)) Q E s := by
  obtain ⟨n, hp⟩ := hp
  obtain ⟨n2, hq⟩ := hq
  rw [oneLt'_eq]
  simp only [if_true]
  refine wpAny_bind (wpAny_cRoomFor hu ?_)
  have hT : s.TypeIs (.ref x) "list" := ⟨_, hp, rfl⟩
  refine wpAny_bind (wpAny_callSpecialIfBound?_slot hT F.slot_list_lt (call_meets F.slot_list_lt hT F.entry_list_lt (F.args_list_lt_2 _ _) (list_lt x y xs ys vs ws n n2 hx hy) ⟨hp, hq, ?_⟩))
  exact wpAny_truthy_bool h
end Mine
end
section
open PySem PySem.W PySem.Calls PyProof.Rows
set_option maxRecDepth 100000
set_option linter.unusedVariables false
set_option maxHeartbeats 1000000
namespace Mine
/-! a base with more in it -/
def frd : Obj := { cls := .none, data := .freed }
def hbx (hb h : Heap) (S : Addr → Bool) : Heap := { objs := (Array.range h.objs.size).map fun b => if S b then h.objs[b]?.getD frd else hb.objs[b]?.getD frd, life := h.life }
theorem hbx_get {hb h : Heap} {S : Addr → Bool} (k : ∀ b o, hb.get? b = some o → h.get? b = some o) (b : Addr) : (hbx hb h S).get? b = if S b then h.get? b else hb.get? b := by
  by_cases hlt : b < h.objs.size
  · have e : (hbx hb h S).objs[b]? = some (if S b then h.objs[b]?.getD frd else hb.objs[b]?.getD frd) := by
      unfold hbx
      simp [hlt]
    unfold Heap.get?
    rw [e]
    cases S b with
    | true =>
      simp only [if_true]
      have e2 : h.objs[b]? = some h.objs[b] := by simp [hlt]
      rw [e2]; rfl
    | false =>
      simp only [Bool.false_eq_true, if_false]
      cases q : hb.objs[b]? with
      | none => rfl
      | some o => rfl
  · have e : (hbx hb h S).objs[b]? = none := by
      unfold hbx
      simp
      exact Nat.not_lt.mp hlt
    have h1 : h.get? b = none := Heap.get?_none_of_le (Nat.not_lt.mp hlt)
    have h2 : hb.get? b = none := by
      cases q : hb.get? b with
      | none => rfl
      | some o => rw [k b o q] at h1; cases h1
    rw [h1, h2]
    unfold Heap.get?
    rw [e]
    cases S b <;> rfl
def Cx.more (C : Cx) (h : Heap) (S : Addr → Bool) : Cx := ⟨C.prog, C.w, hbx C.hb h S, C.mg, C.mb⟩
theorem Cx.more_sub {C : Cx} {h : Heap} {S : Addr → Bool} (k : ∀ b o, C.hb.get? b = some o → h.get? b = some o) : ∀ b o, C.hb.get? b = some o → (C.more h S).hb.get? b = some o := fun b o e => by
  show (hbx C.hb h S).get? b = some o
  rw [hbx_get k]
  split
  · exact k b o e
  · exact e
section
variable {C : Cx} {d : Nat} {am am' : Gh} {ls ls1 : LS} {h h' : Heap} {tk : Nat}
/-- the same lists over a base with more in it -/
theorem Rep.base {S : Addr → Bool} (R : Rep C am ls h tk) (hS : ∀ b, S b = true → b ∉ am.l) : Rep (C.more h S) am ls h tk := by
  refine ⟨R.pos, R.tks, fun b o e => ?_, R.len, R.nd, fun a ha => ?_, R.its⟩
  · have e : (hbx C.hb h S).get? b = some o := e
    rw [hbx_get R.old] at e
    split at e
    · exact e
    · exact R.old b o e
  · show (hbx C.hb h S).get? a = none
    rw [hbx_get R.old]
    split
    · rename_i hs
      exact absurd ha (hS a hs)
    · exact R.new a ha
theorem Rep.unbase {S : Addr → Bool} {h0 : Heap} (k0 : ∀ b o, C.hb.get? b = some o → h0.get? b = some o) (R : Rep (C.more h0 S) am ls h tk) : Rep C am ls h tk ∧ (∀ b o, S b = true → h0.get? b = some o → h.get? b = some o) ∧ ∀ b o, S b = true → h0.get? b = some o → b ∉ am.l := by
  refine ⟨⟨R.pos, R.tks, fun b o e => R.old b o (Cx.more_sub k0 b o e), R.len, R.nd, fun a ha => ?_, R.its⟩, fun b o hs e => R.old b o ?_, fun b o hs e hb => ?_⟩
  · cases q : C.hb.get? a with
    | none => rfl
    | some o =>
      have := R.new a ha
      rw [Cx.more_sub k0 a o q] at this; cases this
  · show (hbx C.hb h0 S).get? b = some o
    rw [hbx_get k0, if_pos hs]; exact e
  · have := R.new b hb
    have e2 : (hbx C.hb h0 S).get? b = none := this
    rw [hbx_get k0, if_pos hs, e] at e2; cases e2
/-- a list at hand is taken in -/
theorem Rep.adopt (R : Rep C am ls h tk) {D : Addr} {l : List PV} {vs : List Value} (hD : D ∉ am.l) (hb : C.hb.get? D = none) (hl : h.PlainList D vs.toArray) (hv : RVs am h l vs) : Rep C (am.add D) (ls ++ [l]) h tk := by
  have pf : Pre am (am.add D) := Pre.add am D
  refine ⟨R.pos, R.tks, R.old, by show (am.l ++ [D]).length = _; simp [R.len], ?_, fun a ha => ?_, fun {i a m} ha hm => ?_⟩
  · refine List.nodup_append.mpr ⟨R.nd, by simp, fun a ha b hb e => ?_⟩
    have : b = D := by simpa using hb
    subst this; subst e
    exact hD ha
  · have ha : a ∈ am.l ++ [D] := ha
    rcases List.mem_append.mp ha with h1 | h1
    · exact R.new a h1
    · have : a = D := by simpa using h1
      subst this; exact hb
  · have ha : (am.l ++ [D])[i]? = some a := ha
    by_cases q : i < am.l.length
    · rw [List.getElem?_append_left q] at ha
      rw [List.getElem?_append_left (by rw [← R.len]; exact q)] at hm
      obtain ⟨vs, hp, hr⟩ := R.its ha hm
      exact ⟨vs, hp, RVs.mono pf (Gr.refl _) hr⟩
    · have hi : i < (am.l ++ [D]).length := (List.getElem?_eq_some_iff.mp ha).1
      have : i = am.l.length := by simp at hi; lia
      subst this
      rw [List.getElem?_append_right (Nat.le_refl _)] at ha
      rw [R.len, List.getElem?_append_right (Nat.le_refl _)] at hm
      simp at ha hm
      subst ha hm
      exact ⟨vs, hl, RVs.mono pf (Gr.refl _) hv⟩
end
end Mine
end
section
open PySem PySem.W PySem.Calls PyProof.Rows
set_option maxRecDepth 100000
set_option linter.unusedVariables false
set_option maxHeartbeats 1000000
namespace Mine
section
variable {C : Cx} {d : Nat} {ls : LS} {α : Type} {xs : List α} {u : α → PV} {mk : α → List Int} {ka a kS : Addr} {r : Nat → Nat} {A : Around} {s : Shared} {am : Gh} {vs : List Value} {e1 : Nat} {P : PySem.Fin → Shared → Prop} {E : Value → Shared → Prop}
abbrev mks (mk : α → List Int) (xs : List α) : LS := xs.map fun x => (mk x).map .int
theorem not_val_list {o : Obj} (h : o.cls = .type "list") : ¬ Val o := fun v => by
  rcases v with ⟨c, _⟩ | ⟨c, _⟩ <;> (rw [h] at c; exact absurd c (by decide))
/-- a list aside is turned -/
theorem Rep.aside {h h' : Heap} {tk : Nat} {x : Addr} {o : Obj} (R : Rep C am ls h tk) (hb : C.hb.get? x = none) (hx : x ∉ am.l) (ho : h.get? x = some o) (hc : o.cls = .type "list") (hs : ∀ b, b ≠ x → h'.get? b = h.get? b) : Rep C am ls h' tk :=
  R.change (X := fun b => b = x) (fun b o hb e => (hs b hb).trans e) (fun b e => by rw [e]; exact hb) (fun b e => by rw [e]; exact hx) fun b o' e q => by
    subst e
    rw [ho] at q; cases q; exact not_val_list hc
theorem Gr.aside {h0 h h' : Heap} {x : Addr} (g : Gr h0 h) (h0x : ∀ o, h0.get? x = some o → IsLst o) (hs : ∀ b, b ≠ x → h'.get? b = h.get? b) : Gr h0 h' := fun b o e n => by
  by_cases q : b = x
  · subst q; exact absurd (h0x o e) n
  · rw [hs b q]; exact g b o e n
theorem isLst_seq (xs : Array Value) (n : Nat) : IsLst (seqObj "list" xs n) := ⟨rfl, _, _, rfl⟩
/-- the end of the sort -/
def SKEnd (C : Cx) (ls : LS) (mk : α → List Int) (xs : List α) (r : Nat → Nat) (a : Addr) (vs : List Value) (s : Shared) (am : Gh) (P : PySem.Fin → Shared → Prop) : Prop :=
  ∀ h' tk am' σ out c, Pre am am' → Gr s.heap h' → Rep C am' (ls ++ mks mk xs) h' tk → a ∉ am'.l → h'.get? a = some (seqObj "list" out c) → So r σ xs.length → (∀ i, i < xs.length → σ i < xs.length) → out.size = xs.length → (∀ i, i < xs.length → out[i]? = vs[σ i]?) →
    P (.done (.ret .none)) { s with heap := h', toks := tk }
theorem sk_tail {st : SortSt} {σ : Nat → Nat} {keys : Array Value} {e : Nat} (hk : s.heap.get? kS = some (seqObj "list" keys e)) (ha : s.heap.get? a = some (seqObj "list" #[] e1)) (hka : kS ≠ a) (hak : a ∉ am.l) (hkk : kS ∉ am.l) (ba : C.hb.get? a = none) (bk : C.hb.get? kS = none)
    (hsz : keys.size = xs.length) (hvl : vs.length = xs.length) (h64 : xs.length < 64) (R : Rep C am (ls ++ mks mk xs) s.heap s.toks) (hend : SEnd (keys.zip vs.toArray) r st σ) (K : SKEnd C ls mk xs r a vs s am P) :
    wpAny (model C.prog C.w) A (ksk_tail a false e1 (.ref kS) st) P E s := by
  have hs : (10000 : Nat) ≤ sizeLine := by decide
  have hz : (keys.zip vs.toArray).size = xs.length := by rw [Array.size_zip, hsz, List.size_toArray, hvl, Nat.min_self]
  have hsz2 : (arrOf st).size = xs.length := by rw [hend.perm.size_eq, hz]
  have hout : ((arrOf st).map (·.2)).size = xs.length := by rw [Array.size_map]; exact hsz2
  have s1 := Heap.SameBut.update s.heap kS (Obj.mapSeq fun _ => (#[] : Array Value))
  have na1 : (s.heap.update kS (Obj.mapSeq fun _ => (#[] : Array Value))).get? a = some (seqObj "list" #[] e1) := (s1.2 a hka.symm).trans ha
  have s2 := Heap.SameBut.update (s.heap.update kS (Obj.mapSeq fun _ => (#[] : Array Value))) a (Obj.mapSeq fun _ => (arrOf st).map (·.2))
  obtain ⟨c2, hc2⟩ : ∃ c2, ((s.heap.update kS (Obj.mapSeq fun _ => (#[] : Array Value))).update a (Obj.mapSeq fun _ => (arrOf st).map (·.2))).get? a = some (seqObj "list" ((arrOf st).map (·.2)) c2) :=
    ⟨_, get?_update_seq na1 fun _ => (arrOf st).map (·.2)⟩
  have R1 := R.aside bk hkk hk rfl (h' := s.heap.update kS (Obj.mapSeq fun _ => (#[] : Array Value))) s1.2
  have R2 := R1.aside ba hak na1 rfl (h' := (s.heap.update kS (Obj.mapSeq fun _ => (#[] : Array Value))).update a (Obj.mapSeq fun _ => (arrOf st).map (·.2))) s2.2
  have g1 : Gr s.heap (s.heap.update kS (Obj.mapSeq fun _ => (#[] : Array Value))) := (Gr.refl _).aside (fun o e => by rw [hk] at e; cases e; exact isLst_seq _ _) s1.2
  have g2 : Gr s.heap ((s.heap.update kS (Obj.mapSeq fun _ => (#[] : Array Value))).update a (Obj.mapSeq fun _ => (arrOf st).map (·.2))) := g1.aside (fun o e => by rw [ha] at e; cases e; exact isLst_seq _ _) s2.2
  unfold ksk_tail
  (try dsimp only)
  refine wpAny_bind (listUpdate_at hk rfl ?_ (by rw [hsz]; lia) (Nat.zero_le _))
  refine wpAny_bind (wpAny_letGo ?_)
  refine wpAny_bind (seqEpoch_at na1 rfl ?_)
  refine wpAny_bind (listUpdate_at na1 rfl ?_ (Nat.zero_le _) (by simp only [Bool.false_eq_true, if_false]; rw [hout]; lia))
  rw [hend.failed]
  simp only [bne_self_eq_false, Bool.false_eq_true, if_false]
  refine wpAny_pure (K _ _ am σ _ c2 (Pre.refl _) g2 R2 hak hc2 (by rw [← hz]; exact hend.so) (fun i hi => by rw [← hz]; exact hend.lt i (by rw [hz]; exact hi)) hout fun i hi => ?_)
  have hl := hend.lt i (by rw [hz]; exact hi)
  rw [hz] at hl
  have hi2 := hend.is i (by rw [hz]; exact hi)
  rw [Array.getElem?_map, hi2]
  have e2 : (keys.zip vs.toArray)[σ i]? = some (keys[σ i]'(by lia), vs[σ i]'(by lia)) := by
    rw [getElem?_pos _ _ (by rw [hz]; exact hl)]
    simp
  rw [e2]
  have hl2 : σ i < vs.length := by lia
  simp [hl2]
end
end Mine
end
section
open PySem PySem.W PySem.Calls PyProof.Rows
set_option maxRecDepth 100000
set_option linter.unusedVariables false
set_option maxHeartbeats 1000000
namespace Mine
section
variable {C : Cx} {d : Nat} {ls : LS} {α : Type} {xs : List α} {u : α → PV} {mk : α → List Int} {ka a kS : Addr} {r : Nat → Nat} {A : Around} {s : Shared} {am : Gh} {vs : List Value} {e1 : Nat} {P : PySem.Fin → Shared → Prop} {E : Value → Shared → Prop}
theorem SKEnd.step {s' : Shared} {am' : Gh} {h' : Heap} {tk : Nat} (K : SKEnd C ls mk xs r a vs s am P) (p : Pre am am') (g : Gr s.heap h') : SKEnd C ls mk xs r a vs { s with heap := h', toks := tk } am' P :=
  fun h2 tk2 am2 σ out c p2 g2 R2 n2 o2 so lt sz is => K h2 tk2 am2 σ out c (p.trans p2) (g.trans g2) R2 n2 o2 so lt sz is
/-- keys that are lists of ours -/
def KeysAt (am : Gh) (L n : Nat) (keys : Array Value) : Prop := keys.size = n ∧ ∀ i, i < n → ∃ x, am.l[L + i]? = some x ∧ keys[i]? = some (.ref x)
theorem sk_end {keys : Array Value} {e : Nat} (hu : A.units + 64 < cLine) (hk : s.heap.get? kS = some (seqObj "list" keys e)) (ha : s.heap.get? a = some (seqObj "list" #[] e1)) (hka : kS ≠ a) (hak : a ∉ am.l) (hkk : kS ∉ am.l) (ba : C.hb.get? a = none) (bk : C.hb.get? kS = none)
    (hks : KeysAt am ls.length xs.length keys) (hvl : vs.length = xs.length) (h2 : 2 ≤ xs.length) (h64 : xs.length < 64) (R : Rep C am (ls ++ mks mk xs) s.heap s.toks)
    (hr : ∀ i j a b, xs[i]? = some a → xs[j]? = some b → lexB (mk a) (mk b) = decide (r i < r j)) (K : SKEnd C ls mk xs r a vs s am P) :
    wpAny (model C.prog C.w) A (ksk_end a false vs.toArray e1 (.ref kS) keys) P E s := by
  obtain ⟨hsz, hat⟩ := hks
  have hz : (keys.zip vs.toArray).size = xs.length := by rw [Array.size_zip, hsz, List.size_toArray, hvl, Nat.min_self]
  have obj : ∀ i x, i < xs.length → xs[i]? = some x → ∃ y ws, keys[i]? = some (.ref y) ∧ s.heap.PlainList y ws.toArray ∧ IntsAre ws (mk x) := fun i x hi hx => by
    obtain ⟨y, h1, h2⟩ := hat i hi
    have hl : (ls ++ mks mk xs)[ls.length + i]? = some ((mk x).map .int) := by
      rw [List.getElem?_append_right (by lia), Nat.add_sub_cancel_left, List.getElem?_map, hx]; rfl
    obtain ⟨ws, hp, hw⟩ := R.its h1 hl
    exact ⟨y, ws, h2, hp, hw.ints⟩
  have hxat : ∀ i, i < xs.length → ∃ x, xs[i]? = some x := fun i hi => ⟨xs[i], List.getElem?_eq_getElem hi⟩
  unfold ksk_end
  (try dsimp only)
  simp only [Bool.false_eq_true, if_false]
  rw [if_neg (by rw [List.size_toArray]; lia), if_neg (by rw [List.size_toArray]; lia)]
  have hkl : keys = keys.toList.toArray := by simp
  refine wpAny_bind ?_
  rw [hkl]
  refine kas_kind (T := .type "list") (by rw [Array.length_toList]; lia) (fun v hv => ?_) (by decide) (by decide) ?_
  · obtain ⟨i, hi, ei⟩ := List.getElem_of_mem hv
    have hi2 : i < xs.length := by rw [Array.length_toList] at hi; lia
    obtain ⟨x, hx⟩ := hxat i hi2
    obtain ⟨y, ws, h1, ⟨c, hp⟩, _⟩ := obj i x hi2 hx
    have : v = .ref y := by
      rw [← ei]
      have := getElem?_pos keys i (by lia)
      rw [h1] at this
      simpa using (Option.some.inj this).symm
    rw [this]
    exact (Looks.ld hp).andThen .now
  rw [← hkl]
  have hn : (if 2 ≤ 1 then (pure () : StateT SortSt Sem Unit) else sortRuns') = sortRuns' := rfl
  have hS : SI (keys.zip vs.toArray) (SortSt.mk' oneType' (keys.zip vs.toArray) #[] 7 none) id := ⟨⟨Array.Perm.refl _, rfl, rfl, rfl⟩, fun i hi => hi, fun i hi => rfl⟩
  have hc : CmpAt C.prog C.w s (keys.zip vs.toArray) r := by
    intro A E i j p q Q hu hi hj h
    have li : i < xs.length := by rw [← hz]; exact (Array.getElem?_eq_some_iff.mp hi).1
    have lj : j < xs.length := by rw [← hz]; exact (Array.getElem?_eq_some_iff.mp hj).1
    obtain ⟨x, hx⟩ := hxat i li
    obtain ⟨y, hy⟩ := hxat j lj
    obtain ⟨x1, ws, h1, p1, w1⟩ := obj i x li hx
    obtain ⟨x2, ws2, h2, p2, w2⟩ := obj j y lj hy
    have e1 : p.1 = .ref x1 := by
      have e := (Array.getElem?_eq_some_iff.mp hi).2
      rw [Array.getElem_zip] at e
      rw [← e]
      have := getElem?_pos keys i (by lia)
      rw [h1] at this
      exact (Option.some.inj this).symm
    have e2 : q.1 = .ref x2 := by
      have e := (Array.getElem?_eq_some_iff.mp hj).2
      rw [Array.getElem_zip] at e
      rw [← e]
      have := getElem?_pos keys j (by lia)
      rw [h2] at this
      exact (Option.some.inj this).symm
    rw [e1, e2]
    refine oneLt_list hu p1 p2 w1 w2 ?_
    rw [hr i j x y hx hy]
    exact h
  refine wpAny_bind (wpAny_mono (ss_runs (E := E) (Q := fun _ st' => ∃ σ, SEnd (keys.zip vs.toArray) r st' σ) hc (by lia) hS ⟨fun i hi => hi, fun i h1 h2 => rfl⟩ (by lia) (by lia) fun st' σ h => ⟨σ, h⟩) ?_ fun _ _ e => e)
  rintro ⟨⟨⟩, st'⟩ s' ⟨rfl, σ, hend⟩
  (try dsimp only)
  exact sk_tail hk ha hka hak hkk ba bk hsz hvl h64 R hend K
end
end Mine
end
section
open PySem PySem.W PySem.Calls PyProof.Rows
set_option maxRecDepth 100000
set_option linter.unusedVariables false
set_option maxHeartbeats 1000000
namespace Mine
section
variable {C : Cx} {d : Nat} {ls : LS} {α : Type} {xs : List α} {u : α → PV} {mk : α → List Int} {ka a kS : Addr} {r : Nat → Nat} {A : Around} {s : Shared} {am : Gh} {vs : List Value} {e1 : Nat} {P : PySem.Fin → Shared → Prop} {E : Value → Shared → Prop}
/-- the key's contract, over whatever base holds more -/
def KeyTo (C : Cx) (d : Nat) (ka : Addr) (xs : List α) (u : α → PV) (mk : α → List Int) : Prop :=
  ∀ h S, (∀ b o, C.hb.get? b = some o → h.get? b = some o) → ∀ x ∈ xs, ∀ ls', FlatLS ls' → CTo (C.more h S) d (.ref ka) [u x] [] ls' (.lst ls'.length) (ls' ++ [(mk x).map .int])
theorem flat_mks (l : List α) : FlatLS (mks mk l) := fun m hm => by
  obtain ⟨x, _, rfl⟩ := List.mem_map.mp hm
  intro y hy
  obtain ⟨i, _, rfl⟩ := List.mem_map.mp hy
  exact .int _
theorem flat_app {l1 l2 : LS} (h1 : FlatLS l1) (h2 : FlatLS l2) : FlatLS (l1 ++ l2) := fun m hm => by
  rcases List.mem_append.mp hm with h | h
  · exact h1 m h
  · exact h2 m h
theorem sk_rest (hr0 : Room A d) (hk : s.heap.get? kS = some (seqObj "list" #[] 0)) (ha : s.heap.get? a = some (seqObj "list" #[] e1)) (hka : kS ≠ a) (hak : a ∉ am.l) (hkk : kS ∉ am.l) (ba : C.hb.get? a = none) (bk : C.hb.get? kS = none)
    (hv : RVs am s.heap (xs.map u) vs) (h2 : 2 ≤ xs.length) (h64 : xs.length < 64) (hf : FlatLS ls) (R : Rep C am ls s.heap s.toks) (hkey : KeyTo C d ka xs u mk)
    (hr : ∀ i j a b, xs[i]? = some a → xs[j]? = some b → lexB (mk a) (mk b) = decide (r i < r j)) (K : SKEnd C ls mk xs r a vs s am P) :
    wpAny (model C.prog C.w) A (ksk_rest a (.ref ka) false vs.toArray e1 (.ref kS)) P E s := by
  have hs : (10000 : Nat) ≤ sizeLine := by decide
  have hvl : vs.length = xs.length := by rw [hv.length, List.length_map]
  unfold ksk_rest
  refine wpAny_bind (wpAny_rule ?_)
  first
    | rw [List.forIn_toArray]
    | (rw [← Array.forIn_toList]; simp only [List.toList_toArray])
    | rw [← Array.forIn_toList]
  refine wpAny_bind (ksk_fold (fun i s' => ∃ h' tk am' kA e, s' = { s with heap := h', toks := tk } ∧ Pre am am' ∧ Gr s.heap h' ∧ Rep C am' (ls ++ mks mk (xs.take i)) h' tk ∧ h'.get? a = some (seqObj "list" #[] e1) ∧ h'.get? kS = some (seqObj "list" kA e) ∧ a ∉ am'.l ∧ kS ∉ am'.l ∧ i ≤ xs.length ∧ KeysAt am' ls.length i kA) vs 0 s
    ⟨s.heap, s.toks, am, #[], 0, rfl, Pre.refl _, Gr.refl _, by simpa using R, ha, hk, hak, hkk, Nat.zero_le _, rfl, fun i hi => by lia⟩ ?step ?done)
  case step =>
    rintro j x s' hx ⟨h', tk, am', kA, e, rfl, pr, g, R', ha', hk', hak', hkk', hj, hks⟩
    simp only [Nat.zero_add] at *
    have hjx : j < xs.length := by rw [← hvl]; exact (List.getElem?_eq_some_iff.mp hx).1
    obtain ⟨y, hy⟩ : ∃ y, xs[j]? = some y := ⟨xs[j], List.getElem?_eq_getElem hjx⟩
    have rv : RV am' h' (u y) x := by
      obtain ⟨v, e2, rv⟩ := hv.get (i := j) (p := u y) (by rw [List.getElem?_map, hy]; rfl)
      rw [hx] at e2; cases e2
      exact rv.mono pr g
    have hll : (ls ++ mks mk (xs.take j)).length = ls.length + j := by
      rw [List.length_append, List.length_map, List.length_take]; lia
    have hfl : FlatLS (ls ++ mks mk (xs.take j)) := flat_app hf (flat_mks _)
    have Rb := R'.base (S := fun b => b == a || b == kS) (fun b hb => by
      rcases Bool.or_eq_true_iff.mp hb with q | q
      · have : b = a := by simpa using q
        rw [this]; exact hak'
      · have : b = kS := by simpa using q
        rw [this]; exact hkk')
    have hc := hkey h' (fun b => b == a || b == kS) R'.old y (List.mem_of_getElem? hy) (ls ++ mks mk (xs.take j)) hfl
    refine wpAny_bind (wpAny_attempt ?_)
    refine hc A { s with heap := h', toks := tk } am' [x] [] _ _ hr0 Rb (.cons rv .nil) .nil fun v hh tk2 am2 p2 g2 R2 hv2 => ?_
    (try dsimp only)
    obtain ⟨R3, kp, kn⟩ := Rep.unbase (h0 := h') R'.old R2
    have ha2 := kp a _ (by simp) ha'
    have hk2 := kp kS _ (by simp) hk'
    have na2 := kn a _ (by simp) ha'
    have nk2 := kn kS _ (by simp) hk'
    cases hv2 with
    | @lst _ z hz =>
      rw [hll] at hz
      have s1 := Heap.SameBut.update hh kS (Obj.mapSeq (·.push (.ref z)))
      obtain ⟨c2, hc2⟩ : ∃ c2, (hh.update kS (Obj.mapSeq (·.push (.ref z)))).get? kS = some (seqObj "list" (kA.push (.ref z)) c2) := ⟨_, get?_update_seq hk2 (·.push (.ref z))⟩
      have hzk : kA.size = j := hks.1
      refine wpAny_bind (listUpdate_at hk2 rfl ?_ (by lia) (Nat.le_trans (Nat.le_of_eq (Array.size_push ..)) (by lia)))
      refine wpAny_pure ⟨rfl, _, _, am2, kA.push (.ref z), c2, rfl, pr.trans p2, (g.trans g2).aside (fun o e => ?_) s1.2, ?_, (s1.2 a hka.symm).trans ha2, hc2, na2, nk2, by lia, ?_⟩
      · rw [hk] at e; cases e; exact isLst_seq _ _
      · have e3 : mks mk (xs.take (j + 1)) = mks mk (xs.take j) ++ [(mk y).map .int] := by
          rw [List.take_add_one, hy]; simp
        rw [e3, ← List.append_assoc]
        exact R3.aside bk nk2 hk2 rfl s1.2
      · refine ⟨by rw [Array.size_push, hzk], fun i hi => ?_⟩
        by_cases hij : i < j
        · obtain ⟨w, w1, w2⟩ := hks.2 i hij
          refine ⟨w, prefix_get p2 w1, ?_⟩
          rw [Array.getElem?_push, if_neg (by lia)]; exact w2
        · have : i = j := by lia
          subst this
          refine ⟨z, hz, ?_⟩
          rw [Array.getElem?_push, if_pos hzk.symm]
  case done =>
    rintro s' ⟨h', tk, am', kA, e, rfl, pr, g, R', ha', hk', hak', hkk', hj, hks⟩
    have e0 : 0 + vs.length = xs.length := by lia
    rw [e0] at R' hj hks
    rw [List.take_length] at R'
    (try dsimp only)
    refine wpAny_bind (listItems_at hk' rfl ?_)
    have hu := hr0.units
    exact sk_end (s := { s with heap := h', toks := tk }) (by lia) hk' ha' hka hak' hkk' ba bk hks hvl h2 h64 R' hr (K.step (s' := { s with heap := h', toks := tk }) pr g)
end
end Mine
end
section
open PySem PySem.W PySem.Calls PyProof.Rows
set_option maxRecDepth 100000
set_option linter.unusedVariables false
set_option maxHeartbeats 1000000
namespace Mine
section
variable {C : Cx} {d : Nat} {ls : LS} {α : Type} {xs ys : List α} {u : α → PV} {mk : α → List Int} {ka a kS : Addr} {r : Nat → Nat} {A : Around} {s : Shared} {am : Gh} {vs : List Value} {e1 : Nat} {P : PySem.Fin → Shared → Prop} {E : Value → Shared → Prop}
theorem sk_tree {n : Nat} (hr0 : Room A d) (ho : s.heap.get? a = some (seqObj "list" vs.toArray n)) (hak : a ∉ am.l) (ba : C.hb.get? a = none)
    (hv : RVs am s.heap (xs.map u) vs) (h2 : 2 ≤ xs.length) (h64 : xs.length < 64) (hf : FlatLS ls) (R : Rep C am ls s.heap s.toks) (hkey : KeyTo C d ka xs u mk)
    (hr : ∀ i j a b, xs[i]? = some a → xs[j]? = some b → lexB (mk a) (mk b) = decide (r i < r j)) (K : SKEnd C ls mk xs r a vs s am P) :
    wpAny (model C.prog C.w) A (ksk_tree a (.ref ka) false) P E s := by
  have hs : (10000 : Nat) ≤ sizeLine := by decide
  have hvl : vs.length = xs.length := by rw [hv.length, List.length_map]
  have ha : a < s.heap.objs.size := Heap.lt_size ho
  have s1 := Heap.SameBut.update s.heap a (Obj.mapSeq fun _ => (#[] : Array Value))
  obtain ⟨e1, ho1⟩ : ∃ e1, (s.heap.update a (Obj.mapSeq fun _ => (#[] : Array Value))).get? a = some (seqObj "list" #[] e1) := ⟨_, get?_update_seq ho fun _ => #[]⟩
  have hkS : ((s.heap.update a (Obj.mapSeq fun _ => (#[] : Array Value))).push (seqObj "tuple" vs.toArray 0)).objs.size = s.heap.objs.size + 1 := by rw [size_push', Heap.size_update]
  have R1 := R.aside ba hak ho rfl (h' := s.heap.update a (Obj.mapSeq fun _ => (#[] : Array Value))) s1.2
  have g1 : Gr s.heap (s.heap.update a (Obj.mapSeq fun _ => (#[] : Array Value))) := (Gr.refl _).aside (fun o e => by rw [ho] at e; cases e; exact isLst_seq _ _) s1.2
  have k2 : ∀ b o, (s.heap.update a (Obj.mapSeq fun _ => (#[] : Array Value))).get? b = some o → (((s.heap.update a (Obj.mapSeq fun _ => (#[] : Array Value))).push (seqObj "tuple" vs.toArray 0)).push (seqObj "list" #[] 0)).get? b = some o :=
    fun b o e => Heap.get?_push_of_some _ (Heap.get?_push_of_some _ e)
  have R2 := R1.keeps k2
  have g2 := g1.trans (Gr.of_keeps k2)
  have nk : s.heap.objs.size + 1 ∉ am.l := fun hm => by
    obtain ⟨i, hi⟩ := List.getElem?_of_mem hm
    have hl : i < ls.length := by rw [← R.len]; exact (List.getElem?_eq_some_iff.mp hi).1
    obtain ⟨ws, ⟨c, hp⟩, _⟩ := R.its hi (List.getElem?_eq_getElem hl)
    exact absurd (Nat.lt_trans (Nat.lt_succ_self _) (Heap.lt_size hp)) (Nat.lt_irrefl _)
  have bk : C.hb.get? (s.heap.objs.size + 1) = none := by
    cases q : C.hb.get? (s.heap.objs.size + 1) with
    | none => rfl
    | some o =>
      exact absurd (Nat.lt_trans (Nat.lt_succ_self _) (Heap.lt_size (R.old _ _ q))) (Nat.lt_irrefl _)
  unfold ksk_tree
  refine wpAny_bind (listItems_at ho rfl ?_)
  refine wpAny_bind (listUpdate_at ho rfl ?_ (by rw [List.size_toArray]; lia) (Nat.zero_le _))
  refine wpAny_bind (seqEpoch_at ho1 rfl ?_)
  refine wpAny_bind (wpAny_newTuple ?_ (by show vs.length ≤ _; lia))
  refine wpAny_bind (wpAny_newList ?_ (Nat.zero_le _))
  refine wpAny_holding ?_
  refine sk_rest (s := { s with heap := ((s.heap.update a (Obj.mapSeq fun _ => (#[] : Array Value))).push (seqObj "tuple" vs.toArray 0)).push (seqObj "list" #[] 0) }) (kS := ((s.heap.update a (Obj.mapSeq fun _ => (#[] : Array Value))).push (seqObj "tuple" vs.toArray 0)).objs.size)
    hr0 (Heap.get?_push_size _ rfl) (k2 _ _ ho1) (by rw [hkS]; exact Nat.ne_of_gt (Nat.lt_succ_of_lt ha)) hak (by rw [hkS]; exact nk) ba (by rw [hkS]; exact bk) (hv.mono (Pre.refl _) g2) h2 h64 hf R2 hkey hr (K.step (s' := { s with heap := ((s.heap.update a (Obj.mapSeq fun _ => (#[] : Array Value))).push (seqObj "tuple" vs.toArray 0)).push (seqObj "list" #[] 0) }) (Pre.refl _) g2)
/-- what the sort leaves, told -/
def SoTo (r : Nat → Nat) (xs ys : List α) : Prop := ys.length = xs.length ∧ ∀ σ, So r σ xs.length → (∀ i, i < xs.length → σ i < xs.length) → ∀ i, i < xs.length → xs[σ i]? = ys[i]?
theorem RVs.of_get {am : Gh} {h : Heap} : ∀ {ps : List PV} {ws : List Value}, ws.length = ps.length → (∀ (i : Nat) (p : PV) (w : Value), ps[i]? = some p → ws[i]? = some w → RV am h p w) → RVs am h ps ws
  | [], [], _, _ => .nil
  | [], _ :: _, e, _ => by simp at e
  | _ :: _, [], e, _ => by simp at e
  | p :: ps, w :: ws, e, k => .cons (k 0 p w rfl rfl) (RVs.of_get (by simpa using e) fun i p w h1 h2 => k (i + 1) p w (by simpa using h1) (by simpa using h2))
theorem c_sortedK {n : Nat} (hl : ls[n]? = some (xs.map u)) (h2 : 2 ≤ xs.length) (h64 : xs.length < 64) (hf : FlatLS ls) (hu : ∀ x, Flat (u x)) (hkey : KeyTo C d ka xs u mk)
    (hr : ∀ i j a b, xs[i]? = some a → xs[j]? = some b → lexB (mk a) (mk b) = decide (r i < r j)) (hso : SoTo r xs ys) :
    CTo C (d + 1) (.builtin "sorted") [.lst n] [(Str.ofString "key", .ref ka)] ls (.lst ls.length) (ls ++ [ys.map u]) := by
  intro A s am vs kv Q E hr0 R hvs hkv K
  have hs : (10000 : Nat) ≤ sizeLine := by decide
  cases hvs with
  | cons h1 h3 =>
  cases h3
  cases hkv with
  | cons q1 q2 =>
  cases q2
  cases q1
  cases h1 with
  | @lst _ l hm =>
  obtain ⟨vs, hp, hv⟩ := R.its hm hl
  have hvl : vs.length = xs.length := by rw [hv.length, List.length_map]
  refine call_function_entry_kw kind_sorted plain_sorted entry_sorted (ksk_s1 _ _) ?_
  unfold Builtin.«sorted»
  refine wpAny_bind (m := checkCount "sorted" 1 1 _) (wpAny_pure ?_)
  refine wpAny_bind (collect_list hp.isList ?_ (by lia))
  refine wpAny_bind (wpAny_newList ?_ (by lia))
  have hsz : ((s.heap.push (seqObj "list" #[] 0)).update s.heap.objs.size (Obj.mapSeq (· ++ vs.toArray))).objs.size = s.heap.objs.size + 1 := by
    rw [Heap.size_update, size_push']
  have hoL : (((s.heap.push (seqObj "list" #[] 0)).update s.heap.objs.size (Obj.mapSeq (· ++ vs.toArray))).push (seqObj "list" vs.toArray 0)).get? (s.heap.objs.size + 1) = some (seqObj "list" vs.toArray 0) := by
    rw [← hsz]; exact Heap.get?_push_size _ rfl
  have keep : ∀ b o, s.heap.get? b = some o → (((s.heap.push (seqObj "list" #[] 0)).update s.heap.objs.size (Obj.mapSeq (· ++ vs.toArray))).push (seqObj "list" vs.toArray 0)).get? b = some o := fun b o q => by
    have hlt : b < s.heap.objs.size := Heap.lt_size q
    rw [Heap.get?_push_ne _ _ _ (by rw [hsz]; exact Nat.ne_of_lt (Nat.lt_succ_of_lt hlt)), Heap.get?_update_ne _ _ _ _ (Nat.ne_of_lt hlt), Heap.get?_push_ne _ _ _ (Nat.ne_of_lt hlt)]
    exact q
  have nk : s.heap.objs.size + 1 ∉ am.l := fun hm => by
    obtain ⟨i, hi⟩ := List.getElem?_of_mem hm
    have hl : i < ls.length := by rw [← R.len]; exact (List.getElem?_eq_some_iff.mp hi).1
    obtain ⟨ws, ⟨c, hp⟩, _⟩ := R.its hi (List.getElem?_eq_getElem hl)
    exact absurd (Nat.lt_trans (Nat.lt_succ_self _) (Heap.lt_size hp)) (Nat.lt_irrefl _)
  have bk : C.hb.get? (s.heap.objs.size + 1) = none := by
    cases q : C.hb.get? (s.heap.objs.size + 1) with
    | none => rfl
    | some o =>
      exact absurd (Nat.lt_trans (Nat.lt_succ_self _) (Heap.lt_size (R.old _ _ q))) (Nat.lt_irrefl _)
  show wpAny _ _ _ _ _ { s with heap := ((s.heap.push (seqObj "list" #[] 0)).update s.heap.objs.size (Obj.mapSeq (· ++ vs.toArray))).push (seqObj "list" vs.toArray 0) }
  rw [hsz]
  refine wpAny_bind (wpAny_holding (wpAny_call_entry_kw slot_list_sort ⟨_, hoL, rfl⟩ entry_list_sort ?body (ksk_l1 _ _)))
  case body =>
    have ht' := ksk_t1 ka (s.heap.objs.size + 1)
    show wpAny (model C.prog C.w) A.in1.in1 (Builtin.«list.sort» ⟨[.ref (s.heap.objs.size + 1)], _⟩) _ _ _
    rw [ht']
    have g0 := Gr.of_keeps keep
    have hr1 : Room A.in1.in1 d := ⟨hr0.hand, by show A.depth + d < recursionLimit; have := hr0.depth; lia, by show A.units + 1 + 1 + 16 * d + 64 < cLine; have := hr0.units; lia⟩
    refine sk_tree (s := { s with heap := ((s.heap.push (seqObj "list" #[] 0)).update s.heap.objs.size (Obj.mapSeq (· ++ vs.toArray))).push (seqObj "list" vs.toArray 0) }) (am := am) (xs := xs) (u := u)
      hr1 hoL nk bk (hv.mono (Pre.refl _) g0) h2 h64 hf (R.keeps keep) hkey hr fun h' tk am' σ out c p' g' R' na ho' so lt sz is => ⟨_, rfl, ?_⟩
    have R3 := R'.let_go (n := 0) hf
    have pr := take_pre (ls1 := ls) (h := h') p' R rfl
    have hv3 : RVs am' h' (xs.map u) vs := hv.mono p' (g0.trans g')
    have hys : RVs ⟨am'.l.take ls.length, am'.τ⟩ h' (ys.map u) out.toList := by
      refine RVs.of_get (by rw [Array.length_toList, sz, List.length_map, hso.1]) fun i p w h5 h6 => ?_
      have hi : i < xs.length := by
        have := (List.getElem?_eq_some_iff.mp h5).1
        rw [List.length_map, hso.1] at this; exact this
      have e1 := is i hi
      have e2 := hso.2 σ so lt i hi
      have e3 : out.toList[i]? = out[i]? := by simp
      rw [e3, e1] at h6
      rw [List.getElem?_map, ← e2] at h5
      obtain ⟨w2, w3, w4⟩ := hv3.get (i := σ i) (p := p) (by rw [List.getElem?_map]; exact h5)
      rw [w3] at h6; cases h6
      have hflat : Flat p := by
        cases q : xs[σ i]? with
        | none => rw [q] at h5; cases h5
        | some z => rw [q] at h5; cases h5; exact hu z
      exact w4.flat (by rfl) hflat
    have R4 := R3.adopt (D := s.heap.objs.size + 1) (l := ys.map u) (vs := out.toList) (fun hm => na (List.mem_of_mem_take hm)) bk ⟨c, by simpa using ho'⟩ hys
    exact wpAny_pure ⟨_, rfl, K _ h' tk _ (pr.trans (Pre.add _ _)) (g0.trans g') R4 (.lst (R3.last _))⟩
end
end Mine
end
section
open PySem PySem.W PySem.Calls PyProof.Rows
set_option maxRecDepth 100000
set_option linter.unusedVariables false
namespace Mine
theorem pair_str : ∀ a, a < 85 → ∀ b, b < 85 → decide (strK a < strK b) = decide (plc1 a < plc1 b) := by decide +kernel
theorem pair_marks : ∀ a, a < 85 → ∀ b, b < 85 → lexB (marksL (mailK a)) (marksL (mailK b)) = decide (plc1 a < plc1 b) := by decide +kernel
theorem pair_arcs : ∀ a, a < 85 → ∀ b, b < 85 → (plc1 a < plc1 b → plc1 a + rmK a ≤ plc1 b) ∧ (plc1 a = plc1 b → rmK a = rmK b) := by decide +kernel
theorem one_arc : ∀ a, a < 85 → plc1 a + rmK a ≤ 16777216 ∧ 0 < rmK a := by decide +kernel
end Mine
end
section
open PySem PySem.W PySem.Calls PyProof.Rows
set_option maxRecDepth 100000
set_option linter.unusedVariables false
namespace Mine
/-! insertion, after its equals, is the stable sort -/
theorem pig : ∀ (n : Nat) (f : Nat → Nat), (∀ i, i < n → f i < n) → (∀ i j, i < n → j < n → f i = f j → i = j) → ∀ v, v < n → ∃ i, i < n ∧ f i = v
  | 0, _, _, _, v, h => by lia
  | n + 1, f, hf, hi, v, hv => by
    have hw := hf n (by lia)
    have ih := pig n (fun i => if f i = n then f n else f i) (fun i h => by
      have h1 := hf i (by lia)
      show (if f i = n then f n else f i) < n
      split
      · rename_i q
        have : f n ≠ n := fun e => by
          have := hi i n (by lia) (by lia) (q.trans e.symm)
          lia
        lia
      · lia) (fun i j h1 h2 e => by
      have e : (if f i = n then f n else f i) = (if f j = n then f n else f j) := e
      by_cases q1 : f i = n
      · by_cases q2 : f j = n
        · exact hi i j (by lia) (by lia) (q1.trans q2.symm)
        · rw [if_pos q1, if_neg q2] at e
          have := hi n j (by lia) (by lia) e
          lia
      · by_cases q2 : f j = n
        · rw [if_neg q1, if_pos q2] at e
          have := hi i n (by lia) (by lia) e
          lia
        · rw [if_neg q1, if_neg q2] at e
          exact hi i j (by lia) (by lia) e)
    by_cases q : f n = v
    · exact ⟨n, by lia, q⟩
    · by_cases qv : v = n
      · have hw2 : f n < n := by lia
        obtain ⟨i, h1, h2⟩ := ih (f n) hw2
        have h2 : (if f i = n then f n else f i) = f n := h2
        by_cases q1 : f i = n
        · exact ⟨i, by lia, by lia⟩
        · rw [if_neg q1] at h2
          have := hi i n (by lia) (by lia) h2
          lia
      · obtain ⟨i, h1, h2⟩ := ih v (by lia)
        have h2 : (if f i = n then f n else f i) = v := h2
        by_cases q1 : f i = n
        · rw [if_pos q1] at h2; exact absurd h2 q
        · rw [if_neg q1] at h2
          exact ⟨i, by lia, h2⟩
theorem So.inj {r σ : Nat → Nat} {n : Nat} (h : So r σ n) : ∀ i j, i < n → j < n → σ i = σ j → i = j := fun i j hi hj e => by
  rcases Nat.lt_trichotomy i j with q | q | q
  · have := h i j q hj; unfold lx at this; rw [e] at this; lia
  · exact q
  · have := h j i q hi; unfold lx at this; rw [e] at this; lia
theorem So.uniq {r σ τ : Nat → Nat} {n : Nat} (h : So r σ n) (hσ : ∀ i, i < n → σ i < n) (k : So r τ n) (hτ : ∀ i, i < n → τ i < n) : ∀ i, i < n → σ i = τ i := by
  intro i
  induction i using Nat.strongRecOn with
  | _ i ih =>
    intro hi
    by_cases q : σ i = τ i
    · exact q
    exfalso
    obtain ⟨a, ha, ea⟩ := pig n σ hσ h.inj (τ i) (hτ i hi)
    obtain ⟨b, hb, eb⟩ := pig n τ hτ k.inj (σ i) (hσ i hi)
    have a1 : i < a := by
      rcases Nat.lt_trichotomy i a with x | x | x
      · exact x
      · subst x; exact absurd ea q
      · have e2 := ih a x ha
        rw [ea] at e2
        have := k.inj i a hi ha e2
        lia
    have b1 : i < b := by
      rcases Nat.lt_trichotomy i b with x | x | x
      · exact x
      · subst x; exact absurd eb.symm q
      · have e2 := ih b x hb
        rw [eb] at e2
        have := h.inj b i hb hi e2
        lia
    have h1 := h i a a1 ha
    have h2 := k i b b1 hb
    rw [ea] at h1
    rw [eb] at h2
    unfold lx at h1 h2
    lia
def pI (k : Nat) : Int := (plc1 k : Nat)
def insK (j : Nat) (m : List Nat) : List Nat := m.take (cntLe (pI j) (m.map pI)) ++ j :: m.drop (cntLe (pI j) (m.map pI))
def shelfK (ks : List Nat) : List Nat := ks.foldl (fun m j => insK j m) []
theorem shelfK_snoc (ks : List Nat) (j : Nat) : shelfK (ks ++ [j]) = insK j (shelfK ks) := by unfold shelfK; rw [List.foldl_append]; rfl
theorem insK_map (j : Nat) (m : List Nat) : (insK j m).map pI = (m.map pI).take (cntLe (pI j) (m.map pI)) ++ pI j :: (m.map pI).drop (cntLe (pI j) (m.map pI)) := by
  unfold insK
  rw [List.map_append, List.map_cons, List.map_take, List.map_drop]
theorem take_snoc1 {α : Type} {l : List α} {i : Nat} {x : α} (h : l[i]? = some x) : l.take (i + 1) = l.take i ++ [x] := by rw [List.take_add_one, h]; rfl
theorem shelf_sorted (ks : List Nat) : ∀ m, m ≤ ks.length → ((shelfK (ks.take m)).map pI).Pairwise (· ≤ ·) ∧ (shelfK (ks.take m)).length = m ∧ ∀ x ∈ shelfK (ks.take m), x ∈ ks
  | 0, _ => by simp [shelfK]
  | m + 1, h => by
    obtain ⟨h1, h2, h3⟩ := shelf_sorted ks m (by lia)
    have e : ks[m]? = some ks[m] := List.getElem?_eq_getElem (by lia)
    rw [take_snoc1 e, shelfK_snoc]
    have hc : cntLe (pI ks[m]) ((shelfK (ks.take m)).map pI) ≤ (shelfK (ks.take m)).length := by
      have := cntLe_le (pI ks[m]) ((shelfK (ks.take m)).map pI)
      rwa [List.length_map] at this
    refine ⟨?_, ?_, ?_⟩
    · rw [insK_map]; exact ins_sorted _ _ h1
    · unfold insK
      rw [List.length_append, List.length_cons, List.length_take, List.length_drop]
      lia
    · intro x hx
      unfold insK at hx
      rcases List.mem_append.mp hx with hx | hx
      · exact h3 x (List.mem_of_mem_take hx)
      · rcases List.mem_cons.mp hx with rfl | hx
        · exact List.getElem_mem _
        · exact h3 x (List.mem_of_mem_drop hx)
theorem shelf_so (ks : List Nat) (r : Nat → Nat) (hr : ∀ i k, ks[i]? = some k → r i = plc1 k) : ∀ m, m ≤ ks.length → ∃ τ, So r τ m ∧ (∀ i, i < m → τ i < m) ∧ ∀ i, i < m → (shelfK (ks.take m))[i]? = ks[τ i]?
  | 0, _ => ⟨id, fun i j _ h => by lia, fun i h => by lia, fun i h => by lia⟩
  | m + 1, h => by
    obtain ⟨τ, h1, h2, h3⟩ := shelf_so ks r hr m (by lia)
    obtain ⟨s1, s2, s3⟩ := shelf_sorted ks m (by lia)
    have e : ks[m]? = some ks[m] := List.getElem?_eq_getElem (by lia)
    rw [take_snoc1 e, shelfK_snoc]
    have hc : cntLe (pI ks[m]) ((shelfK (ks.take m)).map pI) ≤ m := by
      have := cntLe_le (pI ks[m]) ((shelfK (ks.take m)).map pI)
      rwa [List.length_map, s2] at this
    have hrm : r m = plc1 ks[m] := hr m _ e
    have hat : ∀ i, i < m → decide (cntLe (pI ks[m]) ((shelfK (ks.take m)).map pI) ≤ i) = decide (r m < r (τ i)) := fun i hi => by
      have e1 := h3 i hi
      have hl : τ i < ks.length := by have := h2 i hi; lia
      rw [List.getElem?_eq_getElem hl] at e1
      have z := cntLe_at (pI ks[m]) _ s1 i (pI ks[τ i]) (by rw [List.getElem?_map, e1]; rfl)
      rw [z, hrm, hr (τ i) _ (List.getElem?_eq_getElem hl)]
      unfold pI
      exact decide_eq_decide.mpr (by lia)
    generalize hC : cntLe (pI ks[m]) ((shelfK (ks.take m)).map pI) = c at hc hat
    have lo : ∀ i, i < c → i < m → r (τ i) ≤ r m := fun i hi hm => by
      have := hat i hm
      rw [decide_eq_false (by lia)] at this
      have := of_decide_eq_false this.symm
      lia
    have hi' : ∀ i, c ≤ i → i < m → r m < r (τ i) := fun i hi hm => by
      have := hat i hm
      rw [decide_eq_true hi] at this
      exact of_decide_eq_true this.symm
    refine ⟨fun i => if i < c then τ i else if i = c then m else τ (i - 1), ?_, ?_, ?_⟩
    · intro i j hij hj
      show lx r (if i < c then τ i else if i = c then m else τ (i - 1)) (if j < c then τ j else if j = c then m else τ (j - 1))
      by_cases a : i < c
      · rw [if_pos a]
        by_cases b : j < c
        · rw [if_pos b]; exact h1 i j hij (by lia)
        · rw [if_neg b]
          by_cases b2 : j = c
          · rw [if_pos b2]
            have x1 := lo i a (by lia)
            have x2 := h2 i (by lia)
            unfold lx; lia
          · rw [if_neg b2]
            exact h1 i (j - 1) (by lia) (by lia)
      · rw [if_neg a, if_neg (show ¬ j < c by lia), if_neg (show ¬ j = c by lia)]
        by_cases a2 : i = c
        · rw [if_pos a2]
          have := hi' (j - 1) (by lia) (by lia)
          unfold lx; lia
        · rw [if_neg a2]
          exact h1 (i - 1) (j - 1) (by lia) (by lia)
    · intro i hi
      show (if i < c then τ i else if i = c then m else τ (i - 1)) < m + 1
      split
      · have := h2 i (by lia); lia
      · split
        · lia
        · have := h2 (i - 1) (by lia); lia
    · intro i hi
      show _ = ks[if i < c then τ i else if i = c then m else τ (i - 1)]?
      unfold insK
      rw [hC]
      have hlen : (List.take c (shelfK (ks.take m))).length = c := by rw [List.length_take, s2]; lia
      by_cases a : i < c
      · rw [if_pos a, List.getElem?_append_left (by rw [hlen]; exact a), List.getElem?_take_of_lt a, h3 i (by lia)]
      · rw [if_neg a, List.getElem?_append_right (by rw [hlen]; lia), hlen]
        by_cases a2 : i = c
        · rw [if_pos a2, a2, Nat.sub_self, e]; rfl
        · rw [if_neg a2]
          obtain ⟨q, hq⟩ : ∃ q, i - c = q + 1 := ⟨i - c - 1, by lia⟩
          rw [hq, List.getElem?_cons_succ, List.getElem?_drop, ← h3 (i - 1) (by lia)]
          congr 1; lia
theorem shelf_soTo (ks : List Nat) (r : Nat → Nat) (hr : ∀ i k, ks[i]? = some k → r i = plc1 k) : SoTo r ks (shelfK ks) := by
  obtain ⟨τ, h1, h2, h3⟩ := shelf_so ks r hr ks.length (Nat.le_refl _)
  obtain ⟨_, s2, _⟩ := shelf_sorted ks ks.length (Nat.le_refl _)
  rw [List.take_length] at h3 s2
  refine ⟨s2, fun σ so lt i hi => ?_⟩
  rw [h3 i hi, so.uniq lt h1 h2 i hi]
end Mine
end
section
open PySem PySem.W PySem.Calls PyProof.Rows
set_option maxRecDepth 100000
set_option linter.unusedVariables false
namespace Mine
/-! the law in plain -/
theorem filter_mid {l : List Nat} {P : Nat → Bool} {a c : Nat} (h1 : ∀ i k, l[i]? = some k → i < a → P k = false) (h2 : ∀ i k, l[i]? = some k → a ≤ i → i < c → P k = true) (h3 : ∀ i k, l[i]? = some k → c ≤ i → P k = false) (hac : a ≤ c) : l.filter P = (l.drop a).take (c - a) := by
  have e : l = l.take a ++ ((l.drop a).take (c - a) ++ (l.drop a).drop (c - a)) := by rw [List.take_append_drop, List.take_append_drop]
  conv => lhs; rw [e]
  rw [List.filter_append, List.filter_append]
  have f1 : (l.take a).filter P = [] := by
    rw [List.filter_eq_nil_iff]
    intro k hk
    obtain ⟨i, hi⟩ := List.getElem?_of_mem hk
    rw [List.getElem?_take] at hi
    split at hi
    · rename_i q; rw [h1 i k hi q]; decide
    · cases hi
  have f2 : ((l.drop a).take (c - a)).filter P = (l.drop a).take (c - a) := by
    rw [List.filter_eq_self]
    intro k hk
    obtain ⟨i, hi⟩ := List.getElem?_of_mem hk
    rw [List.getElem?_take] at hi
    split at hi
    · rename_i q
      rw [List.getElem?_drop] at hi
      exact h2 _ k hi (by lia) (by lia)
    · cases hi
  have f3 : ((l.drop a).drop (c - a)).filter P = [] := by
    rw [List.filter_eq_nil_iff]
    intro k hk
    obtain ⟨i, hi⟩ := List.getElem?_of_mem hk
    rw [List.getElem?_drop, List.getElem?_drop] at hi
    rw [h3 _ k hi (by lia)]; decide
  rw [f1, f2, f3]; simp
theorem told_law {sh : List Nat} (hs : (sh.map pI).Pairwise (· ≤ ·)) (hk : ∀ k ∈ sh, k < 85) {N : Nat} (hN : N < 4 ^ 12) :
    toldL (sh.map mailK) (sh.map pI) (sh.map fun k => (rmK k : Int)) N = (sh.filter fun k => decide (heardL N = some (rowsL (mailK k)))).map mailK := by
  have hP : ∀ i k, sh[i]? = some k → decide (heardL N = some (rowsL (mailK k))) = decide (plc1 k ≤ N ∧ N < plc1 k + rmK k) := fun i k h =>
    decide_eq_decide.mpr (heard_iff (hk k (List.mem_of_getElem? h)) hN)
  have hLe : ∀ (x : Int) i k, sh[i]? = some k → decide (cntLe x (sh.map pI) ≤ i) = decide (x < pI k) := fun x i k h => cntLe_at x _ hs i (pI k) (by rw [List.getElem?_map, h]; rfl)
  have hLt : ∀ (x : Int) i k, sh[i]? = some k → decide (i < cntLt x (sh.map pI)) = decide (pI k < x) := fun x i k h => cntLt_at x _ hs i (pI k) (by rw [List.getElem?_map, h]; rfl)
  have nil : ∀ (h : ∀ i k, sh[i]? = some k → ¬ (plc1 k ≤ N ∧ N < plc1 k + rmK k)), (sh.filter fun k => decide (heardL N = some (rowsL (mailK k)))).map mailK = [] := fun h => by
    rw [List.map_eq_nil_iff, List.filter_eq_nil_iff]
    intro k hm
    obtain ⟨i, hi⟩ := List.getElem?_of_mem hm
    rw [hP i k hi, decide_eq_false (h i k hi)]; decide
  unfold toldL
  by_cases c0 : cntLe (N : Int) (sh.map pI) = 0
  · rw [if_pos c0]
    refine (nil fun i k h => ?_).symm
    have := hLe N i k h
    rw [c0, decide_eq_true (Nat.zero_le i)] at this
    have := of_decide_eq_true this.symm
    unfold pI at this
    lia
  rw [if_neg c0]
  have hle : cntLe (N : Int) (sh.map pI) ≤ sh.length := by
    have := cntLe_le (N : Int) (sh.map pI)
    rwa [List.length_map] at this
  generalize hc : cntLe (N : Int) (sh.map pI) = c at *
  have hl : c - 1 < sh.length := by lia
  have ek : sh[c - 1]? = some sh[c - 1] := List.getElem?_eq_getElem hl
  generalize sh[c - 1] = k0 at ek
  have e1 : (sh.map pI).getD (c - 1) 0 = pI k0 := by rw [List.getD_eq_getElem?_getD, List.getElem?_map, ek]; rfl
  have e2 : (sh.map fun k => (rmK k : Int)).getD (c - 1) 0 = (rmK k0 : Int) := by rw [List.getD_eq_getElem?_getD, List.getElem?_map, ek]; rfl
  rw [e1, e2]
  have hk0 := hk k0 (List.mem_of_getElem? ek)
  have hN0 : plc1 k0 ≤ N := by
    have := hLe N (c - 1) k0 ek
    rw [hc, decide_eq_false (by lia)] at this
    have := of_decide_eq_false this.symm
    unfold pI at this
    lia
  have hmono : ∀ i k, sh[i]? = some k → i < c → plc1 k ≤ plc1 k0 := fun i k h hi => by
    by_cases q : i = c - 1
    · subst q; rw [ek] at h; cases h; exact Nat.le_refl _
    · have z := List.pairwise_iff_getElem.mp hs i (c - 1) (by rw [List.length_map]; lia) (by rw [List.length_map]; lia) (by lia)
      rw [List.getElem_map, List.getElem_map] at z
      have a1 : sh[i]'(by lia) = k := by have := List.getElem?_eq_some_iff.mp h; exact this.2
      have a2 : sh[c - 1]'(by lia) = k0 := by have := List.getElem?_eq_some_iff.mp ek; exact this.2
      rw [a1, a2] at z
      unfold pI at z
      lia
  have hafter : ∀ i k, sh[i]? = some k → c ≤ i → N < plc1 k := fun i k h hi => by
    have := hLe N i k h
    rw [hc, decide_eq_true hi] at this
    have := of_decide_eq_true this.symm
    unfold pI at this
    lia
  by_cases c1 : (N : Int) ≥ pI k0 + (rmK k0 : Int)
  · rw [if_pos c1]
    refine (nil fun i k h => ?_).symm
    rintro ⟨h1, h2⟩
    have hk1 := hk k (List.mem_of_getElem? h)
    have hi : i < c := Classical.byContradiction fun q => by have := hafter i k h (by lia); lia
    have hm := hmono i k h hi
    obtain ⟨p1, p2⟩ := pair_arcs k hk1 k0 hk0
    unfold pI at c1
    rcases Nat.lt_or_ge (plc1 k) (plc1 k0) with q | q
    · have := p1 q; lia
    · have := p2 (by lia); lia
  · rw [if_neg c1]
    unfold pI at c1
    have hlt : cntLt (pI k0) (sh.map pI) ≤ c := by
      refine Classical.byContradiction fun q => ?_
      have := hLt (pI k0) (c - 1) k0 ek
      rw [decide_eq_true (by lia)] at this
      have := of_decide_eq_true this.symm
      lia
    rw [← List.map_drop, ← List.map_take, filter_mid (a := cntLt (pI k0) (sh.map pI)) (c := c) ?_ ?_ ?_ hlt]
    · intro i k h hi
      have z := hLt (pI k0) i k h
      rw [decide_eq_true hi] at z
      have z := of_decide_eq_true z.symm
      have hk1 := hk k (List.mem_of_getElem? h)
      have p1 := (pair_arcs k hk1 k0 hk0).1
      unfold pI at z
      have := p1 (by lia)
      rw [hP i k h]
      exact decide_eq_false (by lia)
    · intro i k h h1 h2
      have z := hLt (pI k0) i k h
      rw [decide_eq_false (by lia)] at z
      have z := of_decide_eq_false z.symm
      have hm := hmono i k h h2
      have hk1 := hk k (List.mem_of_getElem? h)
      unfold pI at z
      have p2 := (pair_arcs k hk1 k0 hk0).2 (by lia)
      rw [hP i k h]
      exact decide_eq_true (by lia)
    · intro i k h hi
      have := hafter i k h hi
      rw [hP i k h]
      exact decide_eq_false (by lia)
end Mine
end
section
open PySem PySem.W PySem.Calls PyProof.Rows
set_option maxRecDepth 100000
set_option linter.unusedVariables false
namespace Mine
section
variable {M : Model} {A : Around} {E : Value → Shared → Prop} {s₀ s : Shared} {m cm : Str → Option Value} {env : Env}
theorem stL1 {n : Str} {v : Value} {Q : Unit → Shared → Prop} (x : InCallC s₀ env.locals m env.cells cm s) (hk : env.scope.kind = .function) (hl : env.kindOf n = some .local)
    (h : ∀ s', InCallC s₀ env.locals (fun y => if y = n then some v else m y) env.cells cm s' → 0 < s'.toks → Q () s') : wpAny M A (storeName env n v) Q E s := by
  refine wpAny_storeName_local hl x.toInCall.ns (fun h' hn' hs' => h _ ⟨⟨?_, hn', fun b o e => ?_, x.toInCall.fresh⟩, fun k c hc => ?_, x.apart, x.above⟩ (Nat.succ_pos _)) (by rw [hk]; rfl)
  · obtain ⟨h₁, tk, rfl⟩ := x.toInCall.same
    exact ⟨h', _, rfl⟩
  · exact hs'.extBut b o (Nat.ne_of_lt (Nat.lt_of_lt_of_le (Heap.lt_size e) x.toInCall.fresh)) (x.toInCall.keep b o e)
  · exact (x.cell k c hc).sameBut hs' (Nat.ne_of_gt (x.above k c (mem_of_lookup hc)))
theorem newEnv1 {scope : Scope} {globals : Addr} {x : Str} {v : Value} {qual : Str} {func : Option Addr} {code : Value} {builtins : Addr} {Q : Env → Shared → Prop}
    (hk : scope.kind = .function) (hx : scope.names.lookup x = some .local)
    (hQ : ∀ env, env = newEnv scope s.heap.objs.size globals (cellsFrom (s.heap.objs.size + 1) scope.names []) qual func code none builtins →
      ∀ s', InCallC s env.locals (fun y => if y = x then some v else none) env.cells (fun _ => none) s' → 0 < s'.toks → Q env s') :
    wpAny M A (newFunctionEnv scope globals [] [(x, v)] qual func code none builtins) Q E s := by
  simp only [newFunctionEnv, Option.isSome_none, Bool.false_eq_true, if_false]
  refine wpAny_bind (wpAny_alloc ?_)
  refine wpAny_bind (wpAny_layCells _ (fun name kind cells => by cases hkc : kind == NameKind.cell <;> simp [hkc]) _ _ _ _ ?_)
  have ok := cellsFrom_ok scope.names (s.heap.push { cls := .type "frame", data := .dict #[] }) (s.heap.objs.size + 1) [] ⟨fun _ _ hm => (nomatch hm), List.Pairwise.nil⟩ (by rw [Heap.size_push]; exact Nat.le_refl _)
  rw [Heap.size_push] at ok
  rw [show ({ s with heap := s.heap.push { cls := .type "frame", data := .dict #[] } } : Shared).heap.objs.size = s.heap.objs.size + 1 from Heap.size_push ..]
  rw [List.forIn_cons]
  refine wpAny_bind (wpAny_bind (wpAny_bind (stL1 (s₀ := s) (m := fun _ => none) (cm := fun _ => none) (env := newEnv scope s.heap.objs.size globals (cellsFrom (s.heap.objs.size + 1) scope.names []) qual func code none builtins) ⟨⟨⟨_, _, rfl⟩, (Heap.Ns.new s.heap (.type "frame")).keeps (pushCells_keeps _ _), fun b o e => pushCells_keeps _ _ b o (Heap.get?_push_of_some _ e), Nat.le_refl _⟩,
      fun n c hc => (ok.empty n c (mem_of_lookup hc)).1, ok.apart, fun n c hm => (ok.empty n c hm).2⟩ hk hx fun s' y hp => wpAny_pure ?_)))
  (try dsimp only)
  rw [List.forIn_nil]
  exact wpAny_pure (wpAny_pure (hQ _ rfl s' y hp))
end
section
variable {C : Cx} {env : Env} {d : Nat} {ρ ρ1 ρ2 ρ3 : Loc} {ls ls1 ls2 ls3 : LS} {p q r : PV} {f : PF} {ps qs : List PV}
/-- the law's own frame, with cells -/
theorem law_entryC {fa : Addr} {o : Obj} {fd : FuncData} {body : List Stmt} {x : Str} {a : Addr} {ls' : LS} (ok : C.Ok)
    (ho : C.hb.get? fa = some o) (hdat : o.data = .func fd) (hcd : C.hb.CodeRec fd.code fd.qualname) (hbody : fd.body = .stmts body)
    (hbind : ∀ v, bindArgs fd ⟨[v], []⟩ = pure [(x, v)])
    (hloc : fd.scope.names.lookup x = some .local) (hclo : fd.closure = []) (hgl : fd.globals = mainGlobals) (hbl : fd.builtins = builtinsNs)
    (H : ∀ L, RTo C (callEnvC fd L fa) d (execs body (callEnvC fd L fa)) [(x, .ref a)] [] (.bool true) ls')
    {A : Around} {s : Shared} {Q : Value → Shared → Prop} {E : Value → Shared → Prop} (hr : Room A (d + 1)) (hh : s.heap = C.hb)
    (K : ∀ h' tk, (∀ b o, C.hb.get? b = some o → h'.get? b = some o) → Q (.bool true) { s with heap := h', toks := tk })
    (hco : fd.scope.isCoroutine = false := by rfl) (hgen : fd.scope.isGenerator = false := by rfl) (hk : fd.scope.kind = .function := by rfl) :
    wpAny (model C.prog C.w) A (call (.ref fa) [.ref a]) Q E s := by
  refine wpAny_call ?_
  refine codeAny_call_function (by have := hr.depth; lia) (by rw [hh]; exact ho) hdat hco hgen hbody (by rw [hh]; exact hcd) ?_
  rw [hbind, hclo]
  refine wpAny_pure (newEnv1 hk hloc fun env he s₁ X hp => ?_)
  subst he
  have keep : ∀ b o, C.hb.get? b = some o → s.heap.get? b = some o := fun b o e => by rw [hh]; exact e
  refine ⟨((ok.lim.keeps keep).keeps X.toInCall.keep), codeAny_func ?_⟩
  change InCallC s (callEnvC fd s.heap.objs.size fa).locals _ (callEnvC fd s.heap.objs.size fa).cells _ s₁ at X
  obtain ⟨h', tk, rfl⟩ := X.toInCall.same
  have keep' : ∀ b o, C.hb.get? b = some o → h'.get? b = some o := fun b o e => X.toInCall.keep b o (keep b o e)
  have R1 : Rep C ⟨[], fun _ => none⟩ [] h' tk := ⟨hp, fun _ _ e => (nomatch e), keep', rfl, List.nodup_nil, fun _ h => (nomatch h), fun ha => by simp at ha⟩
  have F1 : Fm C (callEnvC fd s.heap.objs.size fa) ⟨[], fun _ => none⟩ h' [(x, .ref a)] := by
    refine ⟨hk, hgl, hbl, by rw [← hh]; exact get_size, fun y c e => ?_, ⟨_, X.toInCall.ns, fun y q e hy => ?_⟩, fun y q e hy => ?_, fun y c e => ⟨_, X.cell y c e⟩, fun y z c e e' => ?_⟩
    · rw [← hh]
      exact Heap.get?_none_of_le (Nat.le_of_lt (X.above y c (mem_of_lookup e)))
    · rw [List.lookup_cons] at e
      cases q2 : y == x with
      | true =>
        rw [q2] at e; cases e
        have : y = x := by simpa using q2
        exact ⟨.ref a, by rw [if_pos this], .ref a⟩
      | false => rw [q2] at e; cases e
    · rw [List.lookup_cons] at e
      cases q2 : y == x with
      | true =>
        have : y = x := by simpa using q2
        subst this
        exact absurd hloc hy
      | false => rw [q2] at e; cases e
    · exact name_of_addr X.apart (mem_of_lookup e) (mem_of_lookup e')
  refine H s.heap.objs.size _ { s with heap := h', toks := tk } _ _ _ (hr.deeper _) R1 F1 fun fl h2 tk2 am2 p2 g2 R2 rv => ?_
  have hv : valOf fl = .bool true := by
    generalize valOf fl = v at rv
    cases rv; rfl
  have z := K h2 tk2 R2.old
  rw [← hv] at z
  cases fl <;> exact z
end
end Mine
end
section
open PySem PySem.W PySem.Calls PyProof.Rows
set_option maxRecDepth 100000
set_option linter.unusedVariables false
namespace Mine
section
variable {C : Cx} {env : Env} {d : Nat} {ρ ρ1 ρ2 ρ3 : Loc} {ls ls1 ls2 ls3 : LS} {p q r : PV} {f : PF} {ps qs : List PV}
def enumPV (l : List PV) : List PV := l.mapIdx fun i p => .tup [.int i, p]
theorem itr_enum (n : Nat) (items : List PV) (e it : Addr) (hne : e ≠ it) {elts : List Expr} {x1 : Nat} {pos : Pos} : Itr C (.Tuple elts x1 pos) (fun ls => ls[n]? = some items) e [e, it] (enumPV items) (fun i am h => ∃ a old, am.l[n]? = some a ∧ IsEnum h e it i old ∧ h.IsListIter it a i) where
  item := fun {A d s am ls i p} {Q E} hr R hok st ei K => by
    obtain ⟨a, old, ha, he, hit⟩ := st
    obtain ⟨vs, hp, hv⟩ := R.its ha hok
    unfold enumPV at ei
    rw [List.getElem?_mapIdx, Option.map_eq_some_iff] at ei
    obtain ⟨p0, e0, rfl⟩ := ei
    obtain ⟨v, ev, rv⟩ := hv.get e0
    refine wpAny_pyNext_enum_item he hit hp.isList (x := v) (by simpa using ev) hne fun h' he' hit' ht hz kp => ?_
    refine wpAny_letOwnedTupleGo_enum he' fun h2 he2 hs2 => ?_
    have k : ∀ b o, b ∉ [e, it] → s.heap.get? b = some o → h2.get? b = some o := fun b o hb eo => by
      have h1 : b ≠ e := fun x => hb (by simp [x])
      have h3 : b ≠ it := fun x => hb (by simp [x])
      exact (hs2.2 b h1).trans (kp b o h1 h3 eo)
    have tE : ∀ o, s.heap.get? e = some o → Tool o := fun o eo => by
      rw [show s.heap.get? e = _ from he] at eo; cases eo
      exact tool_of (c := "enumerate") rfl rfl (by decide)
    have tI : ∀ o, s.heap.get? it = some o → Tool o := fun o eo => by
      obtain ⟨o', ho', hc, hd⟩ := hit
      rw [ho'] at eo; cases eo
      exact tool_of hc hd (by decide)
    have gv : GrV s.heap h2 := fun b o eo vo => k b o (fun hb => by
      rcases List.mem_cons.mp hb with rfl | hb
      · exact (tE o eo).2.1 vo
      · have hb' : b = it := by simpa using hb
        subst hb'
        exact (tI o eo).2.1 vo) eo
    have hel : e < s.heap.objs.size := Heap.lt_size he
    refine K (.ref s.heap.objs.size) h2 (s.toks + 1) (Nat.le_succ _) k ⟨a, v, ha, he2, ?_⟩ (.tup (vs := [.int i s.toks, v]) ⟨_, (hs2.2 _ (Nat.ne_of_gt hel)).trans ht, rfl, _, rfl⟩ (.cons (.int _ _) (.cons (rv.monoV (Pre.refl _) gv) .nil)))
    obtain ⟨o, ho, r⟩ := hit'
    exact ⟨o, (hs2.2 it (Ne.symm hne)).trans ho, r⟩
  done := fun {A d s am ls Q E} hr R hok st K => by
    obtain ⟨a, old, ha, he, hit⟩ := st
    obtain ⟨vs, hp, hv⟩ := R.its ha hok
    have el : (enumPV items).length = items.length := by simp [enumPV]
    rw [el] at he hit
    exact wpAny_pyNext_enum_end hr.hand he hit hp.isList (by simp [hv.length]) fun h' hx => K h' s.toks (Nat.le_refl _) fun b o hb eo => hx b o (fun x => hb (by simp [x])) eo
  self := fun st h => by obtain ⟨a, old, ha, he, hit⟩ := st; exact wpAny_pyIter_enum he h
  stay := fun st pf k => by
    obtain ⟨a, old, ha, he, o, ho, r⟩ := st
    exact ⟨a, old, prefix_get pf ha, k _ (by simp) _ he, o, k _ (by simp) o ho, r⟩
  obj := fun st b hb => by
    obtain ⟨a, old, ha, he, o, ho, hc, hd⟩ := st
    rcases List.mem_cons.mp hb with rfl | hb
    · exact ⟨_, he, tool_of (c := "enumerate") rfl rfl (by decide)⟩
    · have : b = it := by simpa using hb
      subst this
      exact ⟨o, ho, tool_of hc hd (by decide)⟩
/-- what a for walks over: the iterable and its iterator, at one go -/
def ITo (C : Cx) (env : Env) (d : Nat) (target iter : Expr) (ρ : Loc) (ls ls1 : LS) (ok : LS → Prop) (items : List PV) : Prop :=
  ∀ (A : Around) (s : Shared) (am : Gh) (Q : Value → Shared → Prop) (E : Value → Shared → Prop), Room A d → Rep C am ls s.heap s.toks → Fm C env am s.heap ρ →
    (∀ I fp St h1 t1 am' h2 tk, Pre am am' → Gr s.heap h1 → Rep C am' ls1 h1 t1 → t1 ≤ tk → Itr C target ok I fp items St → (∀ b o, h1.get? b = some o → h2.get? b = some o) → (∀ b ∈ fp, h1.get? b = none) → St 0 am' h2 → Q (.ref I) { s with heap := h2, toks := tk }) →
    wpAny (model C.prog C.w) A (eval iter env) (fun v s₁ => wpAny (model C.prog C.w) A (pyIter v) Q E s₁) E s
theorem i_enum {fn : Str} {fp pos tp : Pos} {e : Expr} {n : Nat} {items : List PV} {elts : List Expr} {x1 : Nat} (hf : ETo C env d (eval (.Name fn fp) env) ρ ls (.ty "enumerate") ls) (ha : ETo C env d (eval e env) ρ ls (.lst n) ls1) (hn : ls1[n]? = some items)
    (he : starEach [e] env = (false, eval e env) :: starEach [] env) : ITo C env d (.Tuple elts x1 tp) (.Call (.Name fn fp) [e] [] pos) ρ ls ls1 (fun ls => ls[n]? = some items) (enumPV items) := fun A s am Q E hr R F K =>
  wpAny_Call_NameR (hf A s am _ E hr R F fun v h' tk am' p1 g1 R1 hv => by
    cases hv
    have z : wpAny (model C.prog C.w) A (spliced (backTo pos (starEach [e] env))) (fun vs s₁ => wpAny (model C.prog C.w) A (call (.type "enumerate") ([] ++ vs)) (fun v s₁ => wpAny (model C.prog C.w) A (pyIter v) Q E s₁) E s₁) E { s with heap := h', toks := tk } := by
      refine PyProof.Rows.spliced_more (ha A { s with heap := h', toks := tk } am' _ E hr R1 (F.mono p1 g1) fun v h2 tk2 am2 p2 g2 R2 hv => PyProof.Rows.spliced_none ?_) he
      cases hv with
      | @lst _ a hm =>
        obtain ⟨vs, hp, _⟩ := R2.its hm hn
        refine call_enumerate_list hp.isList fun h3 he3 hi3 hz k3 => ?_
        refine wpAny_pyIter_enum he3 ?_
        refine K (h2.objs.size + 1) [h2.objs.size + 1, h2.objs.size] _ h2 tk2 am2 h3 tk2 (p1.trans p2) (g1.trans g2) R2 (Nat.le_refl _) (itr_enum n items _ _ (Nat.succ_ne_self _)) k3 (fun b hb => ?_) ⟨a, .none, hm, he3, hi3⟩
        rcases List.mem_cons.mp hb with rfl | hb
        · exact Heap.get?_none_of_le (Nat.le_succ _)
        · have hb' : b = h2.objs.size := by simpa using hb
          rw [hb']; exact get_size
    refine PyProof.Rows.callWith_type (by rw [he]; rfl) (by
      rw [he]
      refine Calls.evalArgs_plain ?_
      rw [he] at z
      exact z))
theorem x_forI {target iter : Expr} {body : List Stmt} {pos : Pos} {ok : LS → Prop} {items : List PV} (h : ITo C env d target iter ρ ls ls1 ok items) (L : Lp C env d target body ok items ρ ls1 f ρ1 ls2)
    (hs : ∀ x, foldedSetIterable iter env x = pure x) : XTo C env d (exec (.For target iter body [] pos) env) ρ ls f ρ1 ls2 := fun A s am Q E hr R F K =>
  wpAny_For (h A s am _ E hr R F fun I fp St h1 t1 am' h2 tk p1 g1 R1 z1 W kp hfp st => by
    refine for_loop W hr (fun b hb => ?_) ((R1.keeps kp).up z1) ((F.mono p1 g1).mono (Pre.refl _) (Gr.of_keeps kp)) st L fun fl h3 tk3 am3 p3 g3 R3 F3 rf => ?_
    · cases e : C.hb.get? b with
      | none => rfl
      | some o => have := R1.old b o e; rw [show h1.get? b = none from hfp b hb] at this; cases this
    · exact K fl h3 tk3 am3 (p1.trans p3) (g1.s.trans (g3.s kp hfp)) R3 F3 rf) hs
end
end Mine
end
section
open PySem PySem.W PySem.Calls PyProof.Rows
set_option maxRecDepth 100000
set_option linter.unusedVariables false
set_option maxHeartbeats 1000000
namespace Mine
section
variable {C : Cx} {env : Env} {d : Nat} {ρ ρ1 : Loc} {ls ls1 : LS} {am : Gh} {h h' : Heap} {tk : Nat}
/-- one list, of ints: no change elsewhere touches it -/
theorem Rep.ints {X : Addr → Prop} {ns : List Int} (R : Rep C am [ns.map .int] h tk) (k : ∀ b o, ¬ X b → h.get? b = some o → h'.get? b = some o) (hX : ∀ b, X b → C.hb.get? b = none) (hn : ∀ b, X b → b ∉ am.l) : Rep C am [ns.map .int] h' tk := by
  refine ⟨R.pos, R.tks, fun b o e => k b o (fun x => by rw [hX b x] at e; cases e) (R.old b o e), R.len, R.nd, R.new, fun {i a l} ha hl => ?_⟩
  obtain ⟨vs, ⟨c, hp⟩, hv⟩ := R.its ha hl
  have hi : i = 0 := by
    have := (List.getElem?_eq_some_iff.mp hl).1
    simpa using this
  subst hi
  have hl : some (ns.map PV.int) = some l := hl
  cases hl
  exact ⟨vs, ⟨c, k a _ (fun x => hn a x (List.mem_of_getElem? ha)) hp⟩, RVs.ofInts hv.ints⟩
/-- a frame without a word on its names -/
theorem Fm.bare {X : Addr → Prop} (F : Fm C env am h ρ) (k : ∀ b o, ¬ X b → h.get? b = some o → h'.get? b = some o) (hX : ∀ b o, X b → h.get? b = some o → (∀ es ep, o.data ≠ .dict es ep) ∧ ∀ v, o.data ≠ .cell v) : Fm C env am h' [] := by
  refine ⟨F.kind, F.gl, F.bl, F.fr, F.frc, ?_, fun x q e hx => (nomatch e), fun x c e => ?_, F.apart⟩
  · obtain ⟨m, hn, _⟩ := F.ns
    refine ⟨m, ?_, fun x q e hx => (nomatch e)⟩
    obtain ⟨o, es, ep, ho, hd, r⟩ := hn
    exact ⟨o, es, ep, k _ o (fun q => (hX _ o q ho).1 _ _ hd) ho, hd, r⟩
  · obtain ⟨ov, o, ho, hd⟩ := F.all x c e
    exact ⟨ov, o, k c o (fun q => (hX c o q ho).2 _ hd) ho, hd⟩
/-- zip, at its i-th turn -/
structure ZSt (z TI TO i1 i2 l1 l2 : Addr) (i : Nat) (h : Heap) : Prop where
  z : IsZip h z TI TO .none
  ti : IsPair h TI (.ref i1) (.ref i2)
  to : ∃ a b, IsPair h TO a b
  a1 : h.IsListIter i1 l1 i
  a2 : h.IsListIter i2 l2 i
def ZX (z TI TO i1 i2 : Addr) (b : Addr) : Prop := b = z ∨ b = TO ∨ b = i1 ∨ b = i2 ∨ b = TI
theorem ZSt.obj {z TI TO i1 i2 l1 l2 : Addr} {i : Nat} (Z : ZSt z TI TO i1 i2 l1 l2 i h) : ∀ b o, ZX z TI TO i1 i2 b → h.get? b = some o → ¬ IsLst o ∧ (∀ es ep, o.data ≠ .dict es ep) ∧ ∀ v, o.data ≠ .cell v := by
  intro b o hb e
  rcases hb with rfl | rfl | rfl | rfl | rfl
  · have := Z.z; rw [show h.get? b = _ from this] at e; cases e
    exact ⟨fun x => by have := x.1; simp at this, fun _ _ x => by simp at x, fun _ x => by simp at x⟩
  · obtain ⟨a, c, this⟩ := Z.to; rw [show h.get? b = _ from this] at e; cases e
    exact ⟨fun x => by have := x.1; simp at this, fun _ _ x => by simp at x, fun _ x => by simp at x⟩
  · obtain ⟨o', ho, hc, hd⟩ := Z.a1; rw [ho] at e; cases e
    exact ⟨fun x => by have := x.1; rw [hc] at this; simp at this, fun _ _ x => by rw [hd] at x; simp at x, fun _ x => by rw [hd] at x; simp at x⟩
  · obtain ⟨o', ho, hc, hd⟩ := Z.a2; rw [ho] at e; cases e
    exact ⟨fun x => by have := x.1; rw [hc] at this; simp at this, fun _ _ x => by rw [hd] at x; simp at x, fun _ x => by rw [hd] at x; simp at x⟩
  · have := Z.ti; rw [show h.get? b = _ from this] at e; cases e
    exact ⟨fun x => by have := x.1; simp at this, fun _ _ x => by simp at x, fun _ x => by simp at x⟩
theorem ZSt.kept {z TI TO i1 i2 l1 l2 : Addr} {i : Nat} (Z : ZSt z TI TO i1 i2 l1 l2 i h) (k : ∀ b o, ZX z TI TO i1 i2 b → h.get? b = some o → h'.get? b = some o) : ZSt z TI TO i1 i2 l1 l2 i h' := by
  refine ⟨k _ _ (.inl rfl) Z.z, k _ _ (.inr (.inr (.inr (.inr rfl)))) Z.ti, ?_, ?_, ?_⟩
  · obtain ⟨a, b, e⟩ := Z.to; exact ⟨a, b, k _ _ (.inr (.inl rfl)) e⟩
  · obtain ⟨o, ho, r⟩ := Z.a1; exact ⟨o, k _ _ (.inr (.inr (.inl rfl))) ho, r⟩
  · obtain ⟨o, ho, r⟩ := Z.a2; exact ⟨o, k _ _ (.inr (.inr (.inr (.inl rfl)))) ho, r⟩
end
end Mine
end
section
open PySem PySem.W PySem.Calls PyProof.Rows
set_option maxRecDepth 100000
set_option linter.unusedVariables false
set_option maxHeartbeats 1000000
namespace Mine
section
variable {C : Cx} {env : Env} {d : Nat} {ρ ρ1 : Loc} {ls ls1 : LS} {am : Gh} {h h' : Heap} {tk : Nat}
theorem Fm.notOwn (F : Fm C env am h ρ) {b : Addr} {o : Obj} (e : h.get? b = some o) (t : (∀ es ep, o.data ≠ .dict es ep) ∧ ∀ v, o.data ≠ .cell v) : ¬ ownOf env b := fun z => by
  rcases z with q | ⟨_, x, q⟩
  · obtain ⟨m, ⟨o', es, ep, ho, hd, _⟩, _⟩ := F.ns
    rw [← q] at ho
    rw [e] at ho; cases ho
    exact t.1 _ _ hd
  · obtain ⟨ov, o', ho, hd⟩ := F.all x b q
    rw [e] at ho; cases ho
    exact t.2 _ hd
theorem zip_loop {z TI TO i1 i2 l1 l2 D : Addr} {vx vy : List Value} {xs ys : List Int} {g : Int → Int → Int} {elt iter : Expr} {x y : Str} {px py tp : Pos} {k0 : Nat} {scope : Scope} {pos : Pos} {A : Around} {s : Shared} {RR : Result → Shared → Prop}
    (Dz : ZipApart z TI TO i1 i2 l1 l2) (hX : ∀ b, ZX z TI TO i1 i2 b → C.hb.get? b = none) (hl1 : C.hb.IsList l1 vx.toArray) (hl2 : C.hb.IsList l2 vy.toArray) (hx : IntsAre vx xs) (hy : IntsAre vy ys) (hlen : xs.length ≤ 1000)
    (hkx : env.kindOf x = some .local) (hky : env.kindOf y = some .local)
    (helt : ∀ a b ls', ETo C env d (eval elt env) (pset (pset [] x (.int a)) y (.int b)) ls' (.int (g a b)) ls')
    (hr : Room A d) (R : Rep C am [([] : List Int).map .int] s.heap s.toks) (F : Fm C env am s.heap []) (Z : ZSt z TI TO i1 i2 l1 l2 0 s.heap) (hD : am.l[0]? = some D)
    (K : ∀ h' tk am' m, Pre am am' → Rep C am' [(List.zipWith g xs ys).map .int] h' tk → h'.Ns env.locals m → RR (.ok .next) { s with heap := h', toks := tk }) :
    codeAny (model C.prog C.w) A (.compLoop (.ListComp elt [⟨.Tuple [.Name x px, .Name y py] k0 tp, iter, [], 0⟩] scope pos) 0 (.ref z) (.ref D) env) RR s := by
  have hs : (10000 : Nat) ≤ sizeLine := by decide
  have e1 := hx.length
  have e2 := hy.length
  refine comp_any (fun n s' => ∃ i am' h' tk, s' = { s with heap := h', toks := tk } ∧ n = (List.zipWith g xs ys).length - i ∧ i ≤ (List.zipWith g xs ys).length ∧ Pre am am' ∧ Rep C am' [((List.zipWith g xs ys).take i).map .int] h' tk ∧ Fm C env am' h' [] ∧ ZSt z TI TO i1 i2 l1 l2 i h') ?_ (List.zipWith g xs ys).length
    ⟨0, am, s.heap, s.toks, rfl, rfl, Nat.zero_le _, Pre.refl _, R, F, Z⟩
  rintro n s' ⟨i, am', h', tk, rfl, rfl, hi, pf, R', F', Z'⟩
  have hzl : (List.zipWith g xs ys).length = min xs.length ys.length := List.length_zipWith
  have am_not : ∀ b, ZX z TI TO i1 i2 b → b ∉ am'.l := fun b hb hm => by
    obtain ⟨j, hj⟩ := List.getElem?_of_mem hm
    have hjl : j < ([((List.zipWith g xs ys).take i).map PV.int] : LS).length := by rw [← R'.len]; exact (List.getElem?_eq_some_iff.mp hj).1
    obtain ⟨ws, ⟨c, hp⟩, _⟩ := R'.its hj (List.getElem?_eq_getElem hjl)
    exact (Z'.obj b _ hb hp).1 ⟨rfl, _, _, rfl⟩
  have hl1' : h'.IsList l1 vx.toArray := by obtain ⟨o, ho, r⟩ := hl1; exact ⟨o, R'.old _ _ ho, r⟩
  have hl2' : h'.IsList l2 vy.toArray := by obtain ⟨o, ho, r⟩ := hl2; exact ⟨o, R'.old _ _ ho, r⟩
  obtain ⟨ta, tb, hTO⟩ := Z'.to
  by_cases hlt : i < (List.zipWith g xs ys).length
  · have hix : i < xs.length := by lia
    have hiy : i < ys.length := by lia
    obtain ⟨t1, ev1⟩ := ints_get hx i (by lia) hix
    obtain ⟨t2, ev2⟩ := ints_get hy i (by lia) hiy
    have ht : (List.zipWith g xs ys).take (i + 1) = (List.zipWith g xs ys).take i ++ [g xs[i] ys[i]] := by
      have : (List.zipWith g xs ys)[i]? = some (g xs[i] ys[i]) := by rw [List.getElem?_eq_getElem hlt, List.getElem_zipWith]
      rw [List.take_add_one, this]; rfl
    refine wpAny_pyNext_zip_item Dz Z'.z Z'.ti hTO Z'.a1 Z'.a2 hl1' hl2' (x := vx[i]) (y := vy[i]) (by simp [show i < vx.length by lia]) (by simp [show i < vy.length by lia]) fun h2 q1 q2 q3 q4 q5 q6 q7 => ?_
    (try dsimp only)
    refine wpAny_letOwnedTupleGo_zip q1 fun h3 r1 r2 => ?_
    have k3 : ∀ b o, ¬ ZX z TI TO i1 i2 b → h'.get? b = some o → h3.get? b = some o := fun b o hb e => by
      have n1 : b ≠ z := fun q => hb (.inl q)
      exact (r2.2 b n1).trans (q7 b o n1 (fun q => hb (.inr (.inl q))) (fun q => hb (.inr (.inr (.inl q)))) (fun q => hb (.inr (.inr (.inr (.inl q))))) e)
    have R3 : Rep C am' [((List.zipWith g xs ys).take i).map .int] h3 tk := R'.ints k3 hX am_not
    have F3 : Fm C env am' h3 [] := F'.bare k3 fun b o hb e => (Z'.obj b o hb e).2
    have hzT : z ≠ h'.objs.size := Nat.ne_of_lt (Heap.lt_size Z'.z)
    have Z3 : ZSt z TI TO i1 i2 l1 l2 (i + 1) h3 := by
      refine ⟨r1, ?_, ⟨_, _, (r2.2 _ Dz.TOz).trans q2⟩, ?_, ?_⟩
      · exact (r2.2 _ Dz.TIz).trans (q7 _ _ Dz.TIz Dz.TITO Dz.TIi1 Dz.TIi2 Z'.ti)
      · obtain ⟨o, ho, r⟩ := q3; exact ⟨o, (r2.2 _ Dz.i1z).trans ho, r⟩
      · obtain ⟨o, ho, r⟩ := q4; exact ⟨o, (r2.2 _ Dz.i2z).trans ho, r⟩
    have rvT : RV am' h3 (.tup [.int xs[i], .int ys[i]]) (.ref h'.objs.size) := by
      refine .tup (vs := [vx[i], vy[i]]) ⟨_, (r2.2 _ (Ne.symm hzT)).trans q5, rfl, _, rfl⟩ (.cons ?_ (.cons ?_ .nil))
      · rw [ev1]; exact .int _ _
      · rw [ev2]; exact .int _ _
    have hat : ATo C env (.Tuple [.Name x px, .Name y py] k0 tp) [] (.tup [.int xs[i], .int ys[i]]) (pset (pset [] x (.int xs[i])) y (.int ys[i])) := a_tup (.cons (a_loc hkx) (.cons (a_loc hky) .nil (fun _ => rfl)) (fun _ => rfl))
    refine hat A d { s with heap := h3, toks := tk } am' _ _ _ _ hr R3 F3 rvT fun h4 tk4 g4 R4 F4 => ?_
    have Z4 : ZSt z TI TO i1 i2 l1 l2 (i + 1) h4 := Z3.kept fun b o hb e => g4 b o e (Z3.obj b o hb e).1 (F3.notOwn e (Z3.obj b o hb e).2)
    rw [List.forIn_nil]
    refine wpAny_pure ?_
    rw [if_pos rfl]
    refine helt xs[i] ys[i] _ A _ am' _ _ hr R4 F4 fun v h5 tk5 am5 p5 g5 R5 hv => ?_
    have Z5 : ZSt z TI TO i1 i2 l1 l2 (i + 1) h5 := Z4.kept fun b o hb e => g5 b o e (Z4.obj b o hb e).1
    have hD5 : am5.l[0]? = some D := prefix_get (pf.trans p5) hD
    obtain ⟨vs, hp, hvs⟩ := R5.its hD5 (l := ((List.zipWith g xs ys).take i).map .int) rfl
    refine wpAny_list_append_plain hp (fun h6 hp6 hs6 => ?_) (by rw [List.size_toArray, hvs.length, List.length_map, List.length_take]; lia)
    obtain ⟨R6, g6⟩ := R5.put (l' := _ ++ [_]) (vs' := vs ++ [v]) hD5 rfl (fun b hb => hs6.2 b hb) (by simpa using hp6) (hvs.append (.cons hv .nil))
    have Z6 : ZSt z TI TO i1 i2 l1 l2 (i + 1) h6 := Z5.kept fun b o hb e => g6 b o e (Z5.obj b o hb e).1
    refine ⟨_, by lia, i + 1, am5, h6, tk5, rfl, rfl, hlt, pf.trans p5, ?_, ((F4.mono p5 (g5.trans g6)).bare (X := fun _ => False) (fun b o _ e => e) fun b o hb => hb.elim), Z6⟩
    rw [ht, List.map_append]
    exact R6
  · have hie : i = (List.zipWith g xs ys).length := by lia
    have hend : vx.toArray[i]? = none ∨ vy.toArray[i]? = none := by
      rw [hie, hzl]
      rcases Nat.le_total xs.length ys.length with q | q
      · left; simp; lia
      · right; simp; lia
    refine wpAny_pyNext_zip_end hr.hand Dz Z'.z Z'.ti hTO Z'.a1 Z'.a2 hl1' hl2' hend fun h2 q7 => ?_
    have k3 : ∀ b o, ¬ ZX z TI TO i1 i2 b → h'.get? b = some o → h2.get? b = some o := fun b o hb e =>
      q7 b o (fun q => hb (.inl q)) (fun q => hb (.inr (.inl q))) (fun q => hb (.inr (.inr (.inl q)))) (fun q => hb (.inr (.inr (.inr (.inl q))))) e
    have R3 : Rep C am' [((List.zipWith g xs ys).take i).map .int] h2 tk := R'.ints k3 hX am_not
    have F3 : Fm C env am' h2 [] := F'.bare k3 fun b o hb e => (Z'.obj b o hb e).2
    obtain ⟨m, hn, _⟩ := F3.ns
    rw [hie, List.take_length] at R3
    exact K h2 tk am' m pf R3 hn
end
end Mine
end
section
open PySem PySem.W PySem.Calls PyProof.Rows
set_option maxRecDepth 100000
set_option linter.unusedVariables false
set_option maxHeartbeats 1000000
namespace Mine
section
variable {C : Cx} {env : Env} {d : Nat} {ρ ρ1 : Loc} {ls ls1 : LS}
theorem zapart {n a b : Nat} (h1 : a < n) (h2 : b < n) : ZipApart (n + 4) (n + 2) (n + 3) n (n + 1) a b := by
  constructor <;> exact fun (e : (_ : Nat) = (_ : Nat)) => by lia
theorem e_zip {elt ea eb : Expr} {fn x y : Str} {fp px py tp pos pos' : Pos} {k0 : Nat} {scope : Scope} {n1 n2 : Nat} {xs ys : List Int} {g : Int → Int → Int}
    (hf : ETo C env d (eval (.Name fn fp) env) ρ ls (.ty "zip") ls) (ha : LTo C env d (spliced (backTo pos' (starEach [ea, eb] env))) ρ ls [.lst n1, .lst n2] ls1)
    (hn1 : ls1[n1]? = some (xs.map .int)) (hn2 : ls1[n2]? = some (ys.map .int)) (hlen : xs.length ≤ 1000)
    (hclos : closureFor scope env = pure []) (hkx : ∀ Lc, (cenvOf scope env Lc []).kindOf x = some .local) (hky : ∀ Lc, (cenvOf scope env Lc []).kindOf y = some .local)
    (helt : ∀ Lc C1 a b ls', ETo C1 (cenvOf scope env Lc []) d (eval elt (cenvOf scope env Lc [])) (pset (pset [] x (.int a)) y (.int b)) ls' (.int (g a b)) ls')
    (hkind : scope.kind = .function) (hnames : ∀ x ∈ scope.names, x.2 = .local → scope.names.lookup x.1 = some .local) (hs : ∀ x, foldedSetIterable (.Call (.Name fn fp) [ea, eb] [] pos') env x = pure x)
    (he : starEach [ea, eb] env = (false, eval ea env) :: starEach [eb] env) (hp : (backTo pos' (starEach [eb] env)).any (·.1) = false) :
    ETo C env d (eval (.ListComp elt [⟨.Tuple [.Name x px, .Name y py] k0 tp, .Call (.Name fn fp) [ea, eb] [] pos', [], 0⟩] scope pos) env) ρ ls (.lst ls1.length) (ls1 ++ [(List.zipWith g xs ys).map .int]) := fun A s am Q E hr R F K => by
  rw [eval_ListComp]
  refine wpAny_comprehension_free (use := none) rfl hs hclos hkind hnames ?_
  refine wpAny_Call_NameR (hf A s am _ E hr R F fun v h' tk am' p1 g1 R1 hv => ?_)
  cases hv
  refine PyProof.Rows.callWith_type (by rw [he]; show (false || (backTo pos' (starEach [eb] env)).any (·.1)) = false; rw [hp]; rfl) ?_
  rw [he]
  refine Calls.evalArgs_plain ?_
  refine (he ▸ ha A { s with heap := h', toks := tk } am' _ E hr R1 (F.mono p1 g1) fun vs h2 tk2 am2 p2 g2 R2 hvs => ?_ : wpAny _ _ (spliced (backTo pos' ((false, eval ea env) :: starEach [eb] env))) _ _ _)
  cases hvs with
  | cons q1 hvs => cases hvs with
  | cons q2 hvs =>
  cases hvs
  cases q1 with
  | @lst _ a1 hm1 => cases q2 with
  | @lst _ a2 hm2 =>
  obtain ⟨vx, hpx, hvx⟩ := R2.its hm1 hn1
  obtain ⟨vy, hpy, hvy⟩ := R2.its hm2 hn2
  have F2 := F.mono (p1.trans p2) (g1.trans g2)
  refine call_zip_2 (s := { s with heap := h2, toks := tk2 }) hpx.isList hpy.isList fun h3 z1 z2 z3 z4 z5 z6 k3 => ?_
  (try dsimp only at z1 z2 z3 z4 z5 z6 k3)
  refine wpAny_pyIter_zip z1 ?_
  refine wpAny_newList ?_ (Nat.zero_le _)
  refine wp_compEnv ?_
  (try dsimp only)
  generalize hh4 : h3.push { cls := .type "list", data := .seq ([] : List Value).toArray } = h4
  have hs4 : h4.objs.size = h3.objs.size + 1 := by rw [← hh4]; exact Heap.size_push ..
  have k4 : ∀ b o, h3.get? b = some o → h4.get? b = some o := fun b o e => by rw [← hh4]; exact Heap.get?_push_of_some _ e
  have hD4 : h4.PlainList h3.objs.size ([] : List Value).toArray := ⟨_, by rw [← hh4]; exact Heap.get?_push_size _ rfl⟩
  generalize hh5 : h4.push { cls := .type "dict", data := .dict #[] } = h5
  have hs5 : h5.objs.size = h4.objs.size + 1 := by rw [← hh5]; exact Heap.size_push ..
  have hn5 : h5.Ns h4.objs.size fun _ => none := by rw [← hh5]; exact Heap.Ns.new ..
  have k5 : ∀ b o, h4.get? b = some o → h5.get? b = some o := fun b o e => by rw [← hh5]; exact Heap.get?_push_of_some _ e
  have k6 := pushCells_keeps scope.names h5
  have kk : ∀ b o, h3.get? b = some o → (pushCells h5 scope.names).get? b = some o := fun b o e => k6 b o (k5 b o (k4 b o e))
  have c1 : ∀ b o, (C.more h2 fun _ => true).hb.get? b = some o → h2.get? b = some o := fun b o e => by
    have e : (hbx C.hb h2 fun _ => true).get? b = some o := e
    rw [hbx_get R2.old] at e
    simpa using e
  have c2 : ∀ b o, h2.get? b = some o → (C.more h2 fun _ => true).hb.get? b = some o := fun b o e => by
    show (hbx C.hb h2 fun _ => true).get? b = some o
    rw [hbx_get R2.old]
    simpa using e
  have c3 : ∀ b, h2.objs.size ≤ b → (C.more h2 fun _ => true).hb.get? b = none := fun b hb => by
    cases q : (C.more h2 fun _ => true).hb.get? b with
    | none => rfl
    | some o => exact absurd (Heap.lt_size (c1 b o q)) (Nat.not_lt.mpr hb)
  have hD : h2.objs.size ≤ h3.objs.size := by rw [z6]; exact Nat.le_add_right _ _
  have RC : Rep (C.more h2 fun _ => true) ⟨[h3.objs.size], am2.τ⟩ [([] : List Int).map .int] (pushCells h5 scope.names) tk2 := by
    refine ⟨R2.pos, R2.tks, fun b o e => kk b o (k3 b o (c1 b o e)), rfl, by simp, fun a ha => ?_, fun {i a l} ha hl => ?_⟩
    · have : a = h3.objs.size := by simpa using ha
      rw [this]; exact c3 _ hD
    · have hi : i = 0 := by
        have := (List.getElem?_eq_some_iff.mp hl).1
        simpa using this
      subst hi
      have ha : some h3.objs.size = some a := ha
      have hl : some (([] : List Int).map PV.int) = some l := hl
      cases ha; cases hl
      obtain ⟨c, ho⟩ := hD4
      exact ⟨[], ⟨c, k6 _ _ (k5 _ _ ho)⟩, .nil⟩
  have FC : Fm (C.more h2 fun _ => true) (cenvOf scope env h4.objs.size []) ⟨[h3.objs.size], am2.τ⟩ (pushCells h5 scope.names) [] := by
    refine ⟨hkind, F.gl, F.bl, ?_, fun x c e => ?_, ⟨_, hn5.keeps k6, fun x q e hx => (nomatch e)⟩, fun x q e hx => (nomatch e), fun x c e => ?_, ?_⟩
    · exact c3 _ (by show h2.objs.size ≤ h4.objs.size; rw [hs4]; exact Nat.le_succ_of_le hD)
    · have e' : (cellsFrom h5.objs.size scope.names []).lookup x = some c := by rw [hs5]; exact e
      rcases cellsFrom_look _ _ _ e' with ⟨hc, _⟩ | hc
      · exact c3 _ (Nat.le_trans (by rw [hs5, hs4]; exact Nat.le_succ_of_le (Nat.le_succ_of_le hD)) hc)
      · simp at hc
    · have e' : (cellsFrom h5.objs.size scope.names []).lookup x = some c := by rw [hs5]; exact e
      rcases cellsFrom_look _ _ _ e' with ⟨_, hc⟩ | hc
      · exact ⟨_, hc⟩
      · simp at hc
    · exact cellsFrom_inj _ _ _ (fun x y c ex ey => by simp at ex) fun x c ex => by simp at ex
  have Dz : ZipApart (h2.objs.size + 4) (h2.objs.size + 2) (h2.objs.size + 3) h2.objs.size (h2.objs.size + 1) a1 a2 := by
    obtain ⟨_, o1⟩ := hpx
    obtain ⟨_, o2⟩ := hpy
    exact zapart (Heap.lt_size o1) (Heap.lt_size o2)
  have hX : ∀ b, ZX (h2.objs.size + 4) (h2.objs.size + 2) (h2.objs.size + 3) h2.objs.size (h2.objs.size + 1) b → (C.more h2 fun _ => true).hb.get? b = none := fun b hb => by
    rcases hb with rfl | rfl | rfl | rfl | rfl
    · exact c3 _ (Nat.le_add_right _ _)
    · exact c3 _ (Nat.le_add_right _ _)
    · exact c3 _ (Nat.le_refl _)
    · exact c3 _ (Nat.le_add_right _ _)
    · exact c3 _ (Nat.le_add_right _ _)
  have Z0 : ZSt (h2.objs.size + 4) (h2.objs.size + 2) (h2.objs.size + 3) h2.objs.size (h2.objs.size + 1) a1 a2 0 (pushCells h5 scope.names) := by
    refine ⟨kk _ _ z1, kk _ _ z2, ⟨_, _, kk _ _ z3⟩, ?_, ?_⟩
    · obtain ⟨o, ho, r⟩ := z4; exact ⟨o, kk _ _ ho, r⟩
    · obtain ⟨o, ho, r⟩ := z5; exact ⟨o, kk _ _ ho, r⟩
  have fin : codeAny (model C.prog C.w) A (.compLoop (.ListComp elt [⟨.Tuple [.Name x px, .Name y py] k0 tp, .Call (.Name fn fp) [ea, eb] [] pos', [], 0⟩] scope pos) 0 (.ref (h2.objs.size + 4)) (.ref h3.objs.size) (cenvOf scope env h4.objs.size []))
      (fun r s' => compPost (model C.prog C.w) A E none Q (.ref h3.objs.size) h4.objs.size r s') { s with heap := pushCells h5 scope.names, toks := tk2 } := by
    refine zip_loop (C := C.more h2 fun _ => true) (s := { s with heap := pushCells h5 scope.names, toks := tk2 }) (g := g) Dz hX ?_ ?_ hvx.ints hvy.ints hlen (hkx _) (hky _) (fun a b ls' => helt _ _ a b ls') hr RC FC Z0 rfl fun h6 tk6 am6 m p6 R6 hn6 => ?_
    · obtain ⟨c, ho⟩ := hpx; exact ⟨_, c2 _ _ ho, rfl, _, rfl⟩
    · obtain ⟨c, ho⟩ := hpy; exact ⟨_, c2 _ _ ho, rfl, _, rfl⟩
    refine ⟨m, hn6, fun h7 hs7 => ?_⟩
    have kf : ∀ b o, h2.get? b = some o → h7.get? b = some o := fun b o e => by
      have hne : b ≠ h4.objs.size := Nat.ne_of_lt (Nat.lt_of_lt_of_le (Heap.lt_size e) (by rw [hs4]; exact Nat.le_succ_of_le hD))
      exact (hs7.2 b hne).trans (R6.old b o (c2 b o e))
    have hD6 : am6.l[0]? = some h3.objs.size := prefix_get p6 rfl
    obtain ⟨ws, ⟨c, hpw⟩, hws⟩ := R6.its hD6 (l := (List.zipWith g xs ys).map .int) rfl
    have hDne : h3.objs.size ≠ h4.objs.size := by rw [hs4]; exact Nat.ne_of_lt (Nat.lt_succ_self _)
    have hDn : h3.objs.size ∉ am2.l := fun hm => by
      obtain ⟨j, hj⟩ := List.getElem?_of_mem hm
      have hjl : j < ls1.length := by rw [← R2.len]; exact (List.getElem?_eq_some_iff.mp hj).1
      obtain ⟨ws, ⟨c, hp⟩, _⟩ := R2.its hj (List.getElem?_eq_getElem hjl)
      exact absurd (Heap.lt_size hp) (Nat.not_lt.mpr hD)
    have hDb : C.hb.get? h3.objs.size = none := by
      cases q : C.hb.get? h3.objs.size with
      | none => rfl
      | some o => exact absurd (Heap.lt_size (R2.old _ _ q)) (Nat.not_lt.mpr hD)
    have R7 : Rep C am2 ls1 h7 tk6 := by
      have z := R2.keeps kf
      exact ⟨R6.pos, fun t x e => R6.tks t x (p6.τ t x e), z.old, z.len, z.nd, z.new, z.its⟩
    have R8 := R7.adopt (D := h3.objs.size) (l := (List.zipWith g xs ys).map .int) (vs := ws) hDn hDb ⟨c, (hs7.2 _ hDne).trans hpw⟩ (RVs.ofInts hws.ints)
    exact K (.ref h3.objs.size) h7 tk6 _ (p1.trans (p2.trans (Pre.add _ _))) ((g1.trans g2).trans (Gr.of_keeps kf)) R8 (.lst (R7.last _))
  exact codeAny_compStart_list fin (wpAny_pyIter_zip (kk _ _ z1) fin)
end
end Mine
end
section
open PySem PySem.W PySem.Calls PyProof.Rows
set_option maxRecDepth 100000
set_option linter.unusedVariables false
set_option maxHeartbeats 4000000
namespace Mine
theorem G2.more {C : Cx} (g : G2 C) {h : Heap} {S : Addr → Bool} (k : ∀ b o, C.hb.get? b = some o → h.get? b = some o) : G2 (C.more h S) := by
  have kk := Cx.more_sub (S := S) k
  refine ⟨⟨g.ok.lim.keeps kk, g.ok.g.keeps kk, g.ok.b.keeps kk, ?_⟩, fun a o e => kk a o (g.k a o e), g.mg, g.mb, g.crlf⟩
  obtain ⟨mc, h1, h2⟩ := g.ok.bk
  exact ⟨mc, h1.keeps kk, h2⟩
/-- a mail, as a value -/
abbrev mailP (k : Nat) : PV := .str (T (mailK k))
theorem key_marks {C : Cx} {d : Nat} (g2 : G2 C) {ks : List Nat} (hk : ∀ k ∈ ks, k < 85) : KeyTo C (d + 2) 115 ks mailP (fun k => marksL (mailK k)) := by
  intro h S k x hx ls' hf
  exact marks_spec (g2.more k) hf (hk x hx)
theorem due_spec {C : Cx} {d : Nat} {ls : LS} (g2 : G2 C) {ks : List Nat} (hk : ∀ k ∈ ks, k < 85) {n : Nat} (hn : ls[n]? = some (ks.map mailP)) (h2 : 2 ≤ ks.length) (h64 : ks.length < 64) (hf : FlatLS ls) :
    CTo C (d + 3) (.builtin "sorted") [.lst n] [(Str.ofString "key", .ref 115)] ls (.lst ls.length) (ls ++ [(shelfK ks).map mailP]) := by
  refine c_sortedK (d := d + 2) (xs := ks) (u := mailP) (mk := fun k => marksL (mailK k)) (r := fun i => plc1 (ks.getD i 0)) hn h2 h64 hf (fun x => .str _) (key_marks g2 hk) (fun i j a b ha hb => ?_) (shelf_soTo ks _ fun i k h => ?_)
  · have ea : ks.getD i 0 = a := by rw [List.getD_eq_getElem?_getD, ha]; rfl
    have eb : ks.getD j 0 = b := by rw [List.getD_eq_getElem?_getD, hb]; rfl
    rw [ea, eb]
    exact pair_marks a (hk a (List.mem_of_getElem? ha)) b (hk b (List.mem_of_getElem? hb))
  · rw [List.getD_eq_getElem?_getD, h]; rfl
theorem fn103 {C : Cx} (g : G2 C) : Fn C 103 := ⟨_, _, g.k _ _ (by with_unfolding_all rfl), by with_unfolding_all rfl⟩
/-- the mail is laid in after its equals -/
theorem ins_mail {C : Cx} {d : Nat} {ls : LS} (g2 : G2 C) {n j : Nat} {m : List Nat} (hn : ls[n]? = some (m.map mailP)) (hj : j < 85) (hm : ∀ k ∈ m, k < 85) (hs : (m.map pI).Pairwise (· ≤ ·)) (hz : m.length ≤ 1000) :
    CTo C (d + 4) (.ref 40) [.lst n, mailP j] [("key", .ref 103)] ls .none (ls.set n ((insK j m).map mailP)) := by
  have hl : ∀ k, k < 85 → (mailK k).length ≤ 100 := fun k hk => by have := (rows_fits k hk).2.2.2.2.2; lia
  have z := insR_spec (C := C) (d := d + 2) (ls := ls) g2 (n := n) (l := m.map mailP) (x := mailP j) (kx := .str (T (strmL (mailK j)))) (ka := 103) (k := cntLe (pI j) (m.map pI)) (fn103 g2) hn (by rw [List.length_map]; have := cntLe_le (pI j) (m.map pI); rwa [List.length_map] at this) (by rw [List.length_map]; lia) (stream_spec g2 (hl j hj)) (fun i q hq => by
    rw [List.getElem?_map, Option.map_eq_some_iff] at hq
    obtain ⟨k, hk, rfl⟩ := hq
    have hk85 := hm k (List.mem_of_getElem? hk)
    refine ⟨.str (T (strmL (mailK k))), stream_spec g2 (hl k hk85), ?_⟩
    rw [cntLe_at (pI j) _ hs i (pI k) (by rw [List.getElem?_map, hk]; rfl)]
    have e : decide (pI j < pI k) = decide (strmL (mailK j) < strmL (mailK k)) := by
      have := pair_str j hj k hk85
      unfold strK at this
      rw [this]
      unfold pI
      exact decide_eq_decide.mpr (by lia)
    rw [e]
    have z := o_lt_str (C := C) (d := d + 2) (ls := ls) (x := T (strmL (mailK j))) (y := T (strmL (mailK k)))
    have e2 : ∀ l : List Nat, (T l).cps.toList = l := fun l => by simp [T]
    rw [e2, e2] at z
    exact z)
  have e : ins (m.map mailP) (cntLe (pI j) (m.map pI) : Nat) (mailP j) = (insK j m).map mailP := by
    unfold ins insK
    simp [List.map_take, List.map_drop]
  rw [e] at z
  exact z
end Mine
end
section
open PySem PySem.W PySem.Calls PyProof.Rows
set_option maxRecDepth 100000
set_option linter.unusedVariables false
set_option maxHeartbeats 4000000
namespace Mine
section
variable {C : Cx} {env : Env} {d : Nat} {ρ ρ1 ρ2 ρ3 : Loc} {ls ls1 ls2 ls3 X : LS} {p q r : PV} {f : PF} {ps qs : List PV} {P : Loc → LS → Prop}
theorem RTo.drop {t : Sem Flow} (h : RTo C env d t ρ ls p (ls1 ++ X)) (hf : LowLS ls1) (he : ls.length = ls1.length) (hp : Low ls1.length p) : RTo C env d t ρ ls p ls1 := fun A s am Q E hr R F K =>
  h A s am Q E hr R F fun v h' tk am' p1 g1 R1 hv => K v h' tk _ (take_pre (h := h') p1 R he) g1 (R1.let_low hf) (hv.low hp)
/-- what is handed back, whatever lists are left -/
def RX (C : Cx) (env : Env) (d : Nat) (t : Sem Flow) (ρ : Loc) (ls : LS) (p : PV) : Prop := ∃ X, RTo C env d t ρ ls p X
theorem rx_consE {st : Stmt} {rest : List Stmt} (h1 : XE C env d (exec st env) ρ ls .next P) (h2 : ∀ ρ1 ls1, P ρ1 ls1 → RX C env d (execs rest env) ρ1 ls1 p) : RX C env d (execs (st :: rest) env) ρ ls p :=
  let ⟨_, _, a, b⟩ := h1; let ⟨X, c⟩ := h2 _ _ b; ⟨X, r_cons a c⟩
theorem rx_cons {st : Stmt} {rest : List Stmt} (h1 : XTo C env d (exec st env) ρ ls .next ρ1 ls1) (h2 : RX C env d (execs rest env) ρ1 ls1 p) : RX C env d (execs (st :: rest) env) ρ ls p :=
  let ⟨X, c⟩ := h2; ⟨X, r_cons h1 c⟩
theorem rx_ifF {t : Expr} {body rest : List Stmt} {pos : Pos} {b : Bool} (ht : BTo C env d (isTrue t env (eval t env)) ρ ls b ls1) (hb : b = false) (h1 : RX C env d (execs rest env) ρ ls1 p) : RX C env d (execs (.If t body [] pos :: rest) env) ρ ls p :=
  let ⟨X, c⟩ := h1; ⟨X, r_ifF ht hb c⟩
/-- the frame is told by a word alone -/
theorem xe_gen {t : Sem Flow} {J : Loc → Prop} (hj : J ρ) (h : ∀ ρ, J ρ → XE C env d t ρ ls f P) : XE C env d t ρ ls f P := h ρ hj
theorem rx_return {e : Expr} {pos : Pos} {rest : List Stmt} (h : ETo C env d (eval e env) ρ ls p ls1) : RX C env d (execs (.Return (some e) pos :: rest) env) ρ ls p := ⟨_, r_return h⟩
theorem rx_forI {target iter : Expr} {body rest : List Stmt} {pos : Pos} {ok : LS → Prop} {items : List PV} (Inv : Nat → Loc → LS → Prop) (h : ITo C env d target iter ρ ls ls1 ok items) (hok : ∀ i ρ ls, i ≤ items.length → Inv i ρ ls → ok ls) (h0 : Inv 0 ρ ls1)
    (step : ∀ i q ρ ls, items[i]? = some q → Inv i ρ ls → ∃ ρ1, ATo C env target ρ q ρ1 ∧ XE C env d (execs body env) ρ1 ls .next fun ρ2 ls2 => Inv (i + 1) ρ2 ls2)
    (h2 : ∀ ρ1 ls2, Inv items.length ρ1 ls2 → RX C env d (execs rest env) ρ1 ls2 p) (hs : ∀ x, foldedSetIterable iter env x = pure x) : RX C env d (execs (.For target iter body [] pos :: rest) env) ρ ls p :=
  let ⟨_, _, L, hi⟩ := lp_inv Inv hok step h0
  rx_cons (x_forI h L hs) (h2 _ _ hi)
end
theorem div_4 {C : Cx} {d : Nat} {ls : LS} {p : Int} (hp : p.natAbs < 2 ^ 50) : V2To C d (.int p) (.int 4) (binaryOp .Div) ls (.flt (fl p 2)) ls := by
  have e : Float64.ofFrac (decide (p < 0) != decide ((4 : Int) < 0)) p.natAbs (4 : Int).natAbs = fl p 2 := by
    unfold fl
    have e1 : decide ((4 : Int) < 0) = false := by decide
    have e2 : (4 : Int).natAbs = 2 ^ 2 := by decide
    rw [e1, e2]; simp
  have z := o_div_int (C := C) (d := d) (ls := ls) (a := p) (b := (4 : Int)) (by decide) (by rw [e]; exact fl_fin (fitS hp (by decide)))
  rw [e] at z
  exact z
theorem fl_num {k : Int} {c : Nat} (f : Fit k c) : Float64.cmp (fl k c) (fl k c) = some .eq := by rw [fl_cmp f f, Int.compare_eq_eq.mpr rfl]
theorem fn127 {C : Cx} (g : G2 C) : Fn C 127 := ⟨_, _, g.k _ _ (by with_unfolding_all rfl), by with_unfolding_all rfl⟩
theorem fn141 {C : Cx} (g : G2 C) : Fn C 141 := ⟨_, _, g.k _ _ (by with_unfolding_all rfl), by with_unfolding_all rfl⟩
theorem flatLS_app {a b : LS} (h : FlatLS a) (k : FlatLS b) : FlatLS (a ++ b) := fun m hm => by
  rcases List.mem_append.mp hm with hm | hm
  · exact h m hm
  · exact k m hm
theorem flatLS_one {l : List PV} (h : ∀ x ∈ l, Flat x) : FlatLS [l] := fun m hm => by
  rw [List.mem_singleton.mp hm]; exact h
/-- what is heard, and what it equals -/
theorem heard_all {C : Cx} {d : Nat} {ls : LS} (g2 : G2 C) (hf : FlatLS ls) {N : Nat} (hN : N < 4 ^ 12) : ∃ (hv : PV) (Y : LS), FlatLS Y ∧ CTo C (d + 1) (.ref 127) [.int N] [] ls hv (ls ++ Y) ∧
    ∀ (M : LS) (n d' : Nat) (R : List (List Nat)), (∀ (i : Nat) (x : List PV), (ls ++ Y)[i]? = some x → M[i]? = some x) → M[n]? = some (txs R) → V2To C d' (.lst n) hv (compareOp .Eq) M (.bool (decide (heardL N = some R))) M := by
  cases hh : heardL N with
  | none =>
    refine ⟨.none, [], (fun _ h => nomatch h), by rw [List.append_nil]; exact heard_none g2 hf hN hh, fun M n d' R _ hn => ?_⟩
    exact o_eq_lst_none hn
  | some R0 =>
    refine ⟨.lst ls.length, [txs R0], flatLS_one (flat_txs R0), heard_some g2 hf hN hh, fun M n d' R hM hn => ?_⟩
    have h0 : M[ls.length]? = some (txs R0) := hM _ _ (by simp)
    have e : decide (some R0 = some R) = decide (R = R0) := decide_eq_decide.mpr ⟨fun h => (Option.some.inj h).symm, fun h => by rw [h]⟩
    rw [e]
    exact o_eq_txs hn h0
theorem rem_sum : ∀ l : List Int, (∀ x ∈ l, 0 ≤ x ∧ x ≤ 15) → 0 ≤ l.sum ∧ l.sum ≤ 15 * l.length
  | [], _ => by simp
  | x :: l, h => by
    have h1 := h x (by simp)
    have h2 := rem_sum l (fun y hy => h y (by simp [hy]))
    rw [List.sum_cons, List.length_cons]; omega
theorem rem_b {ns : List Int} : ∀ x ∈ ns.map (fun x => x.fmod 16), 0 ≤ x ∧ x ≤ 15 := fun x hx => by
  obtain ⟨y, _, rfl⟩ := List.mem_map.mp hx
  have h1 := Int.fmod_nonneg_of_pos y (by decide : (0 : Int) < 16)
  have h2 := Int.fmod_lt_of_pos y (by decide : (0 : Int) < 16)
  omega
theorem sum_rem {C : Cx} (g2 : G2 C) {d : Nat} {ls : LS} {n : Nat} {ns : List Int} (hl : ns.length ≤ 10) (hn : ls[n]? = some (ns.map fun x => .int (x.fmod 16))) : CTo C d (.builtin "sum") [.lst n] [] ls (.int (ns.map fun x => x.fmod 16).sum) ls := by
  refine c_sum (ns := ns.map fun x => x.fmod 16) (by rw [hn, List.map_map]; rfl) fun j hj => ?_
  unfold InLong
  have h1 := rem_sum ((ns.map fun x => x.fmod 16).take (j + 1)) (fun x hx => rem_b x (List.mem_of_mem_take hx))
  have h2 : ((ns.map fun x => x.fmod 16).take (j + 1)).length ≤ 10 := by simp; omega
  have h3 : 0 ≤ (ns.map fun x => x.fmod 16).getD j 0 ∧ (ns.map fun x => x.fmod 16).getD j 0 ≤ 15 := by
    rw [List.getD_eq_getElem?_getD, List.getElem?_eq_getElem hj]
    exact rem_b _ (List.getElem_mem hj)
  omega
end Mine
end
section
open PySem PySem.W PySem.Calls PyProof.Rows
set_option maxRecDepth 100000
set_option linter.unusedVariables false
set_option maxHeartbeats 8000000
namespace Mine
theorem fn96 {C : Cx} (g : G2 C) : Fn C 96 := ⟨_, _, g.k _ _ (by with_unfolding_all rfl), by with_unfolding_all rfl⟩
theorem fn122 {C : Cx} (g : G2 C) : Fn C 122 := ⟨_, _, g.k _ _ (by with_unfolding_all rfl), by with_unfolding_all rfl⟩
theorem flatLS_cons {l : List PV} {ls : LS} (h : ∀ x ∈ l, Flat x) (k : FlatLS ls) : FlatLS (l :: ls) := fun m hm => by
  rcases List.mem_cons.mp hm with rfl | hm
  · exact h
  · exact k m hm
theorem flatLS_nil : FlatLS [] := fun _ h => nomatch h
def kOf (x : Int) : Nat := (x.fmod 85).toNat
theorem kOf_eq (x : Int) : x.fmod 85 = (kOf x : Int) ∧ kOf x < 85 := by
  have h1 := Int.fmod_nonneg_of_pos x (by decide : (0 : Int) < 85)
  have h2 := Int.fmod_lt_of_pos x (by decide : (0 : Int) < 85)
  unfold kOf
  lia
abbrev roomI (k : Nat) : Int := (rmK k : Nat)
def LB6 (ns xs : List Int) (ks sh : List Nat) : LS := [[.int 3, .int 0, .int 1], (ns.take 4).map .int, xs.map .int, ks.map mailP, sh.map mailP, sh.map mailP]
def LB7 (ns xs : List Int) (ks sh : List Nat) : LS := [[.int 3, .int 0, .int 1], (ns.take 4).map .int, xs.map .int, ks.map mailP, sh.map mailP, sh.map mailP, sh.map fun k => .str (T (strK k))]
def LB8 (ns xs : List Int) (ks sh : List Nat) : LS := [[.int 3, .int 0, .int 1], (ns.take 4).map .int, xs.map .int, ks.map mailP, sh.map mailP, sh.map mailP, sh.map fun k => .str (T (strK k)), (sh.map pI).map .int]
def LB9 (ns xs : List Int) (ks sh : List Nat) : LS := [[.int 3, .int 0, .int 1], (ns.take 4).map .int, xs.map .int, ks.map mailP, sh.map mailP, sh.map mailP, sh.map fun k => .str (T (strK k)), (sh.map pI).map .int, (sh.map roomI).map .int]
def LB10 (ns xs : List Int) (ks sh : List Nat) : LS := [[.int 3, .int 0, .int 1], (ns.take 4).map .int, xs.map .int, ks.map mailP, sh.map mailP, sh.map mailP, sh.map fun k => .str (T (strK k)), (sh.map pI).map .int, (sh.map roomI).map .int, colsB (sh.map pI)]
def LB11 (ns xs : List Int) (ks sh : List Nat) (K : List Int) : LS := [[.int 3, .int 0, .int 1], (ns.take 4).map .int, xs.map .int, ks.map mailP, sh.map mailP, sh.map mailP, sh.map fun k => .str (T (strK k)), (sh.map pI).map .int, (sh.map roomI).map .int, colsB (sh.map pI), K.map .int]
def LBz (ns xs : List Int) (ks sh : List Nat) (K : List Int) : LS := [[.int 3, .int 0, .int 1], (ns.take 4).map .int, xs.map .int, ks.map mailP, sh.map mailP, sh.map mailP, sh.map fun k => .str (T (strK k)), (sh.map pI).map .int, (sh.map roomI).map .int, colsB (sh.map pI), K.map .int, (ns.take 4).map .int]
def LB12 (ns xs : List Int) (ks sh : List Nat) (K : List Int) : LS := [[.int 3, .int 0, .int 1], (ns.take 4).map .int, xs.map .int, ks.map mailP, sh.map mailP, sh.map mailP, sh.map fun k => .str (T (strK k)), (sh.map pI).map .int, (sh.map roomI).map .int, colsB (sh.map pI), K.map .int, (ns.take 10).map .int]
def LB13 (ns xs : List Int) (ks sh : List Nat) (K : List Int) : LS := [[.int 3, .int 0, .int 1], (ns.take 4).map .int, xs.map .int, ks.map mailP, sh.map mailP, sh.map mailP, sh.map fun k => .str (T (strK k)), (sh.map pI).map .int, (sh.map roomI).map .int, colsB (sh.map pI), K.map .int, (ns.take 10).map .int, (ns.take 10).map fun x => .int (x.fmod 16)]
theorem law_run {C : Cx} (g2 : G2 C) {a : Addr} {vs : List Value} {ns : List Int} (hL : C.hb.IsList a vs.toArray) (hI : IntsAre vs ns) (hlen : ns.length ≤ 63) {A : Around} {s : Shared} {Q : Value → Shared → Prop} {E : Value → Shared → Prop} (hr : Room A 8) (hh : s.heap = C.hb)
    (K : ∀ h' tk, (∀ b o, C.hb.get? b = some o → h'.get? b = some o) → Q (.bool true) { s with heap := h', toks := tk }) : wpAny (model C.prog C.w) A (call (.ref 146) [.ref a]) Q E s := by
  refine law_entryC (d := 7) (x := "script") (ls' := []) g2.ok (g2.k _ _ (by with_unfolding_all rfl)) (by with_unfolding_all rfl) ?hcd (by with_unfolding_all rfl) ?hbind (by rfl) (by rfl) (by rfl) (by rfl) ?_ hr hh K
  case hcd => exact codeRec_of g2.k (by with_unfolding_all rfl)
  case hbind => intro v; rfl
  intro L
  refine (show RX C _ 7 _ _ [] (.bool true) → _ from fun h => h.elim fun X c => RTo.drop (ls1 := []) (X := X) c (fun _ h => nomatch h) rfl (.bool true)) ?_
  generalize he : callEnvC _ L 146 = env
  have hcel : env.cells.lookup ("heard" : Str) = some (L + 1) := by first | exact kind_at2 he1 he rfl | exact kind_at he rfl | exact rel_at he rfl | exact clos_at he rfl | exact swap_at he rfl | exact inter_at he rfl | exact cell_at he rfl | exact kind_atc he rfl
  have hlt : env.locals < L + 1 := by subst_vars; exact Nat.lt_succ_self _
  have hs : (10000 : Nat) ≤ sizeLine := by decide
  have hv : ∀ am h, RVs am h (ns.map PV.int) vs := fun am h => RVs.ofInts hI
  have hz : (ns.map PV.int).length ≤ sizeLine := by rw [List.length_map]; lia
  have hx7 : ([3, 0, 1] ++ ns.take 4).length ≤ 7 := by simp; lia
  have hx3 : 3 ≤ ([3, 0, 1] ++ ns.take 4).length := by simp
  have f96 := fn96 g2
  have f103 := fn103 g2
  have hks : ∀ k ∈ ([3, 0, 1] ++ ns.take 4).map kOf, k < 85 := fun k hk => by
    obtain ⟨x, _, rfl⟩ := List.mem_map.mp hk
    exact (kOf_eq x).2
  generalize hxs : [3, 0, 1] ++ ns.take 4 = xs at hx7 hx3 hks
  have hkl : (xs.map kOf).length = xs.length := List.length_map ..
  have hmp : (xs.map fun x => mailP (kOf x)) = (xs.map kOf).map mailP := by rw [List.map_map]; rfl
  refine rx_consE (P := fun ρ ls1 => [[.int 3, .int 0, .int 1], (ns.take 4).map .int, xs.map .int, (xs.map kOf).map mailP] = ls1 ∧ LK ρ "script" (.ref a) ∧ LK ρ "mails" (.lst 3)) (XE.of (ρ1 := pset [("script", .ref a)] "mails" (.lst 3)) (ls1 := [[.int 3, .int 0, .int 1], (ns.take 4).map .int, xs.map .int, (xs.map kOf).map mailP]) ?_ ⟨rfl, by walk_at "m-look", by walk_at "m-look"⟩) ?_
  · refine x_acomp (p := .lst 2) (ls1 := [[.int 3, .int 0, .int 1], (ns.take 4).map .int, xs.map .int]) (cl := []) (ρc := []) (items := xs.map .int) ?_ (src_list rfl) (by first | exact kind_at2 he1 he rfl | exact kind_at he rfl | exact rel_at he rfl | exact clos_at he rfl | exact swap_at he rfl | exact inter_at he rfl | exact cell_at he rfl | exact kind_atc he rfl) .nil .nil ?_ (by first | exact kind_at2 he1 he rfl | exact kind_at he rfl | exact rel_at he rfl | exact clos_at he rfl | exact swap_at he rfl | exact inter_at he rfl | exact cell_at he rfl | exact kind_atc he rfl) (by first | exact kind_at2 he1 he rfl | exact kind_at he rfl | exact rel_at he rfl | exact clos_at he rfl | exact swap_at he rfl | exact inter_at he rfl | exact cell_at he rfl | exact kind_atc he rfl) rfl (by decide) (fun _ => rfl)
    · refine e_bin (p := .lst 0) (q := .lst 1) (ls1 := [[.int 3, .int 0, .int 1]]) (ls2 := [[.int 3, .int 0, .int 1], (ns.take 4).map .int]) (e_list (ls1 := []) (ps := [.int 3, .int 0, .int 1]) (by walk_at "m") (by show 3 ≤ sizeLine; lia)) (e_slice_base (l := ns.map .int) (lo := none) (hi := some (4 : Int)) (by walk_at "m") .none (.some e_int) hL hv hz rfl ?_ rfl) ?_
      · rw [show (4 : Int) = ((4 : Nat) : Int) from rfl, pick_take, List.map_take]
      · have e : xs.map PV.int = [.int 3, .int 0, .int 1] ++ (ns.take 4).map .int := by rw [← hxs]; simp
        rw [e]
        exact o_add_lst (n := 0) (m := 1) rfl rfl (by simp; lia)
    · intro Lc
      rw [← hmp]
      refine cp_map0 (fun (x : Int) => PV.int x) (fun x => mailP (kOf x)) [[.int 3, .int 0, .int 1], (ns.take 4).map .int, xs.map .int] (fun ρ => True) rfl (fun l => rfl) xs _ trivial (by lia) ?_
      intro x hx ρ1 l _
      generalize he1 : cenvOf _ env Lc _ = env1
      obtain ⟨k1, k2⟩ := kOf_eq x
      have hc := mail_spec (d := 6) (ls := [[.int 3, .int 0, .int 1], (ns.take 4).map .int, xs.map .int] ++ [l]) g2 k1 k2
      refine ⟨_, a_loc (by first | exact kind_at2 he1 he rfl | exact kind_at he rfl | exact rel_at he rfl | exact clos_at he rfl | exact swap_at he rfl | exact inter_at he rfl | exact cell_at he rfl | exact kind_atc he rfl), ?_, trivial⟩
      walk_at "m"
  rintro ρ _ ⟨rfl, l1, l2⟩
  generalize hKS : xs.map kOf = ks at *
  have hk2 : 2 ≤ ks.length := by lia
  have hk7 : ks.length ≤ 7 := by lia
  refine rx_consE (P := fun ρ ls1 => [[.int 3, .int 0, .int 1], (ns.take 4).map .int, xs.map .int, ks.map mailP, []] = ls1 ∧ LK ρ "script" (.ref a) ∧ LK ρ "mails" (.lst 3) ∧ LK ρ "shelf" (.lst 4)) (XE.of (ρ1 := pset ρ "shelf" (.lst 4)) (ls1 := [[.int 3, .int 0, .int 1], (ns.take 4).map .int, xs.map .int, ks.map mailP, []]) ?_ ⟨rfl, by walk_at "m-look", by walk_at "m-look", by walk_at "m-look"⟩) ?_
  · walk_at "m-asg"
    exact e_list (ls1 := [[.int 3, .int 0, .int 1], (ns.take 4).map .int, xs.map .int, ks.map mailP]) (ps := []) (by walk_at "m") (Nat.zero_le _)
  rintro ρ _ ⟨rfl, l1, l2, l3⟩
  have hsh := shelf_sorted ks
  refine rx_consE (P := fun ρ ls1 => [[.int 3, .int 0, .int 1], (ns.take 4).map .int, xs.map .int, ks.map mailP, (shelfK ks).map mailP] = ls1 ∧ LK ρ "script" (.ref a) ∧ LK ρ "mails" (.lst 3) ∧ LK ρ "shelf" (.lst 4)) ?_ ?_
  · refine XE.mono (xe_for (p := .lst 3) (ls1 := [[.int 3, .int 0, .int 1], (ns.take 4).map .int, xs.map .int, ks.map mailP, []]) (ok := fun l => l[3]? = some (ks.map mailP)) (items := ks.map mailP) (fun i ρ ls1 => [[.int 3, .int 0, .int 1], (ns.take 4).map .int, xs.map .int, ks.map mailP, (shelfK (ks.take i)).map mailP] = ls1 ∧ LK ρ "script" (.ref a) ∧ LK ρ "mails" (.lst 3) ∧ LK ρ "shelf" (.lst 4)) (by walk_at "m") (src_list rfl) ⟨rfl, l1, l2, l3⟩ ?_ ?_ (fun _ => rfl)) fun ρ ls1 h => ?_
    · rintro i ρ ls1 _ ⟨rfl, _⟩; rfl
    · rintro i q ρ _ hi ⟨rfl, l1, l2, l3⟩
      rw [List.getElem?_map, Option.map_eq_some_iff] at hi
      obtain ⟨j, hj, rfl⟩ := hi
      have hil : i < ks.length := (List.getElem?_eq_some_iff.mp hj).1
      obtain ⟨s1, s2, s3⟩ := hsh i (by lia)
      have hin := ins_mail (C := C) (d := 3) (ls := [[.int 3, .int 0, .int 1], (ns.take 4).map .int, xs.map .int, ks.map mailP, (shelfK (ks.take i)).map mailP]) g2 (n := 4) (j := j) (m := shelfK (ks.take i)) rfl (hks j (List.mem_of_getElem? hj)) (fun k hk => hks k (s3 k hk)) s1 (by lia)
      refine ⟨_, a_loc (by first | exact kind_at2 he1 he rfl | exact kind_at he rfl | exact rel_at he rfl | exact clos_at he rfl | exact swap_at he rfl | exact inter_at he rfl | exact cell_at he rfl | exact kind_atc he rfl), xe_one (XE.of (ρ1 := pset ρ "mail" (mailP j)) (ls1 := [[.int 3, .int 0, .int 1], (ns.take 4).map .int, xs.map .int, ks.map mailP, (shelfK (ks.take (i + 1))).map mailP]) ?_ ⟨rfl, by walk_at "m-look", by walk_at "m-look", by walk_at "m-look"⟩)⟩
      rw [take_snoc1 hj, shelfK_snoc]
      refine x_expr ?_ (by first | exact kind_at2 he1 he rfl | exact kind_at he rfl | exact rel_at he rfl | exact clos_at he rfl | exact swap_at he rfl | exact inter_at he rfl | exact cell_at he rfl | exact kind_atc he rfl) rfl
      refine e_callKF (xs := ["key"]) (qs := [.ref 103]) (ps := [.lst 4, mailP j]) (ls1 := [[.int 3, .int 0, .int 1], (ns.take 4).map .int, xs.map .int, ks.map mailP, (shelfK (ks.take i)).map mailP]) (ls2 := [[.int 3, .int 0, .int 1], (ns.take 4).map .int, xs.map .int, ks.map mailP, (shelfK (ks.take i)).map mailP]) ?hf (fn40 g2) ?ha ?hk rfl rfl hin rfl
      case hf => walk_at "m-name"
      case ha => walk_at "m"
      case hk => exact k_cons (ls1 := [[.int 3, .int 0, .int 1], (ns.take 4).map .int, xs.map .int, ks.map mailP, (shelfK (ks.take i)).map mailP]) (by walk_at "m") k_nil
    · obtain ⟨h1, h2⟩ := h
      have e : ks.take (ks.map mailP).length = ks := by rw [List.length_map, List.take_length]
      rw [e] at h1
      exact ⟨h1, h2⟩
  rintro ρ _ ⟨rfl, l1, l2, l3⟩
  have hf5 : ∀ m : List Nat, FlatLS [[.int 3, .int 0, .int 1], (ns.take 4).map .int, xs.map .int, ks.map mailP, m.map mailP] := fun m => flatLS_cons (Flat.cons (.int _) (Flat.cons (.int _) (Flat.cons (.int _) Flat.nil))) (flatLS_cons (flat_map _ fun a => .int a) (flatLS_cons (flat_map _ fun a => .int a) (flatLS_cons (flat_map _ fun a => .str _) (flatLS_cons (flat_map _ fun a => .str _) flatLS_nil))))
  have hdue := due_spec (C := C) (d := 4) (ls := [[.int 3, .int 0, .int 1], (ns.take 4).map .int, xs.map .int, ks.map mailP, (shelfK ks).map mailP]) g2 hks (n := 3) rfl hk2 (by lia) (hf5 _)
  obtain ⟨s1, s2, s3⟩ := hsh ks.length (Nat.le_refl _)
  rw [List.take_length] at s1 s2 s3
  have hsk : ∀ k ∈ shelfK ks, k < 85 := fun k hk => hks k (s3 k hk)
  generalize shelfK ks = sh at *
  refine rx_consE (P := fun ρ ls1 => (LB6 ns xs ks sh) = ls1 ∧ LK ρ "script" (.ref a) ∧ LK ρ "shelf" (.lst 4) ∧ LK ρ "due" (.lst 5)) (XE.of (ρ1 := pset ρ "due" (.lst 5)) (ls1 := (LB6 ns xs ks sh)) ?_ ⟨rfl, by walk_at "m-look", by walk_at "m-look", by walk_at "m-look"⟩) ?_
  · walk_at "m-asg"
    refine e_callBK (id := "sorted") (xs := ["key"]) (ps := [.lst 3]) (qs := [.ref 115]) (ls1 := [[.int 3, .int 0, .int 1], (ns.take 4).map .int, xs.map .int, ks.map mailP, sh.map mailP]) (ls2 := [[.int 3, .int 0, .int 1], (ns.take 4).map .int, xs.map .int, ks.map mailP, sh.map mailP]) ?hf ?ha ?hk rfl hdue rfl rfl rfl rfl
    case hf => walk_at "m-name"
    case ha => walk_at "m"
    case hk => exact k_cons (ls1 := [[.int 3, .int 0, .int 1], (ns.take 4).map .int, xs.map .int, ks.map mailP, sh.map mailP]) (by walk_at "m") k_nil
  rintro ρ _ ⟨rfl, l1, l2, l3⟩
  have emt : sh.map mailP = txs (sh.map mailK) := by unfold txs; rw [List.map_map]; rfl
  with_reducible apply rx_ifF
  · refine b_cmp (ls1 := (LB6 ns xs ks sh)) (ls2 := (LB6 ns xs ks sh)) (by walk_at "m") (by walk_at "m") (o_ne_txs (n := 4) (m := 5) (a := sh.map mailK) (b := sh.map mailK) (congrArg some emt) (congrArg some emt)) rfl
  · simp
  have hlm : ∀ k, k < 85 → (mailK k).length ≤ 100 := fun k hk => by have := (rows_fits k hk).2.2.2.2.2; lia
  have hsl : sh.length ≤ 7 := by lia
  refine rx_consE (P := fun ρ ls1 => (LB7 ns xs ks sh) = ls1 ∧ LK ρ "script" (.ref a) ∧ LK ρ "shelf" (.lst 4) ∧ LK ρ "due" (.lst 5) ∧ LK ρ "streams" (.lst 6)) (XE.of (ρ1 := pset ρ "streams" (.lst 6)) (ls1 := (LB7 ns xs ks sh)) ?_ ⟨rfl, by walk_at "m-look", by walk_at "m-look", by walk_at "m-look", by walk_at "m-look"⟩) ?_
  · refine x_acomp (p := .lst 4) (ls1 := (LB6 ns xs ks sh)) (ok := fun l => l[4]? = some (sh.map mailP)) (cl := []) (ρc := []) (items := sh.map mailP) (by walk_at "m") (src_list rfl) (by first | exact kind_at2 he1 he rfl | exact kind_at he rfl | exact rel_at he rfl | exact clos_at he rfl | exact swap_at he rfl | exact inter_at he rfl | exact cell_at he rfl | exact kind_atc he rfl) .nil .nil ?_ (by first | exact kind_at2 he1 he rfl | exact kind_at he rfl | exact rel_at he rfl | exact clos_at he rfl | exact swap_at he rfl | exact inter_at he rfl | exact cell_at he rfl | exact kind_atc he rfl) (by first | exact kind_at2 he1 he rfl | exact kind_at he rfl | exact rel_at he rfl | exact clos_at he rfl | exact swap_at he rfl | exact inter_at he rfl | exact cell_at he rfl | exact kind_atc he rfl) rfl (by decide) (fun _ => rfl)
    intro Lc
    refine cp_map0 (ok := fun l => l[4]? = some (sh.map mailP)) mailP (fun k => .str (T (strK k))) (LB6 ns xs ks sh) (fun ρ => True) rfl (fun l => rfl) sh _ trivial (by lia) ?_
    intro k hk ρ1 l _
    generalize he1 : cenvOf _ env Lc _ = env1
    have hc := stream_spec (d := 5) (ls := (LB6 ns xs ks sh) ++ [l]) g2 (hlm k (hsk k hk))
    refine ⟨_, a_loc (by first | exact kind_at2 he1 he rfl | exact kind_at he rfl | exact rel_at he rfl | exact clos_at he rfl | exact swap_at he rfl | exact inter_at he rfl | exact cell_at he rfl | exact kind_atc he rfl), ?_, trivial⟩
    show ETo _ _ _ _ _ _ (.str (T (strmL (mailK k)))) _
    walk_at "m"
  rintro ρ _ ⟨rfl, l1, l2, l3, l4⟩
  have hst : ∀ k, k < 85 → (strK k).length ≤ 12 ∧ SgAll (strK k) := fun k hk => (enc_mail k hk).2.2
  have hpm : (sh.map fun k => PV.int (pI k)) = (sh.map pI).map .int := by rw [List.map_map]; rfl
  have hrm : (sh.map fun k => PV.int (roomI k)) = (sh.map roomI).map .int := by rw [List.map_map]; rfl
  refine rx_consE (P := fun ρ ls1 => (LB8 ns xs ks sh) = ls1 ∧ LK ρ "script" (.ref a) ∧ LK ρ "shelf" (.lst 4) ∧ LK ρ "due" (.lst 5) ∧ LK ρ "streams" (.lst 6) ∧ LK ρ "places" (.lst 7)) (XE.of (ρ1 := pset ρ "places" (.lst 7)) (ls1 := (LB8 ns xs ks sh)) ?_ ⟨rfl, by walk_at "m-look", by walk_at "m-look", by walk_at "m-look", by walk_at "m-look", by walk_at "m-look"⟩) ?_
  · refine x_acomp (p := .lst 6) (ls1 := (LB7 ns xs ks sh)) (ok := fun l => l[6]? = some (sh.map fun k => .str (T (strK k)))) (cl := []) (ρc := []) (items := sh.map fun k => .str (T (strK k))) (by walk_at "m") (src_list rfl) (by first | exact kind_at2 he1 he rfl | exact kind_at he rfl | exact rel_at he rfl | exact clos_at he rfl | exact swap_at he rfl | exact inter_at he rfl | exact cell_at he rfl | exact kind_atc he rfl) .nil .nil ?_ (by first | exact kind_at2 he1 he rfl | exact kind_at he rfl | exact rel_at he rfl | exact clos_at he rfl | exact swap_at he rfl | exact inter_at he rfl | exact cell_at he rfl | exact kind_atc he rfl) (by first | exact kind_at2 he1 he rfl | exact kind_at he rfl | exact rel_at he rfl | exact clos_at he rfl | exact swap_at he rfl | exact inter_at he rfl | exact cell_at he rfl | exact kind_atc he rfl) rfl (by decide) (fun _ => rfl)
    intro Lc
    unfold LB8; rw [← hpm]
    refine cp_map0 (ok := fun l => l[6]? = some (sh.map fun k => .str (T (strK k)))) (fun k => .str (T (strK k))) (fun k => .int (pI k)) (LB7 ns xs ks sh) (fun ρ => True) rfl (fun l => rfl) sh _ trivial (by lia) ?_
    intro k hk ρ1 l _
    generalize he1 : cenvOf _ env Lc _ = env1
    obtain ⟨q1, q2⟩ := hst k (hsk k hk)
    have hc := place_spec (d := 6) (ls := (LB7 ns xs ks sh) ++ [l]) g2 q1 q2
    have f122 := fn122 g2
    refine ⟨_, a_loc (by first | exact kind_at2 he1 he rfl | exact kind_at he rfl | exact rel_at he rfl | exact clos_at he rfl | exact swap_at he rfl | exact inter_at he rfl | exact cell_at he rfl | exact kind_atc he rfl), ?_, trivial⟩
    show ETo _ _ _ _ _ _ (.int (placeL (strK k) : Nat)) _
    walk_at "m"
  rintro ρ _ ⟨rfl, l1, l2, l3, l4, l5⟩
  refine rx_consE (P := fun ρ ls1 => (LB9 ns xs ks sh) = ls1 ∧ LK ρ "script" (.ref a) ∧ LK ρ "shelf" (.lst 4) ∧ LK ρ "due" (.lst 5) ∧ LK ρ "places" (.lst 7) ∧ LK ρ "rooms" (.lst 8)) (XE.of (ρ1 := pset ρ "rooms" (.lst 8)) (ls1 := (LB9 ns xs ks sh)) ?_ ⟨rfl, by walk_at "m-look", by walk_at "m-look", by walk_at "m-look", by walk_at "m-look", by walk_at "m-look"⟩) ?_
  · refine x_acomp (p := .lst 6) (ls1 := (LB8 ns xs ks sh)) (ok := fun l => l[6]? = some (sh.map fun k => .str (T (strK k)))) (cl := []) (ρc := []) (items := sh.map fun k => .str (T (strK k))) (by walk_at "m") (src_list rfl) (by first | exact kind_at2 he1 he rfl | exact kind_at he rfl | exact rel_at he rfl | exact clos_at he rfl | exact swap_at he rfl | exact inter_at he rfl | exact cell_at he rfl | exact kind_atc he rfl) .nil .nil ?_ (by first | exact kind_at2 he1 he rfl | exact kind_at he rfl | exact rel_at he rfl | exact clos_at he rfl | exact swap_at he rfl | exact inter_at he rfl | exact cell_at he rfl | exact kind_atc he rfl) (by first | exact kind_at2 he1 he rfl | exact kind_at he rfl | exact rel_at he rfl | exact clos_at he rfl | exact swap_at he rfl | exact inter_at he rfl | exact cell_at he rfl | exact kind_atc he rfl) rfl (by decide) (fun _ => rfl)
    intro Lc
    unfold LB9; rw [← hrm]
    refine cp_map0 (ok := fun l => l[6]? = some (sh.map fun k => .str (T (strK k)))) (fun k => .str (T (strK k))) (fun k => .int (roomI k)) (LB8 ns xs ks sh) (fun ρ => True) rfl (fun l => rfl) sh _ trivial (by lia) ?_
    intro k hk ρ1 l _
    generalize he1 : cenvOf _ env Lc _ = env1
    obtain ⟨q1, q2⟩ := hst k (hsk k hk)
    have cl := c_len_str (C := C) (d := 7) (ls := (LB8 ns xs ks sh) ++ [l]) (x := T (strK k)) (by rw [T_len]; lia)
    rw [T_len] at cl
    have e : roomI k = 4 ^ ((12 : Int) - ((strK k).length : Int)).toNat := by
      have e2 : ((12 : Int) - ((strK k).length : Int)).toNat = 12 - (strK k).length := by lia
      rw [e2]; unfold roomI rmK; simp
    refine ⟨_, a_loc (by first | exact kind_at2 he1 he rfl | exact kind_at he rfl | exact rel_at he rfl | exact clos_at he rfl | exact swap_at he rfl | exact inter_at he rfl | exact cell_at he rfl | exact kind_atc he rfl), ?_, trivial⟩
    rw [e]
    refine e_bin (ls1 := (LB8 ns xs ks sh) ++ [l]) (ls2 := (LB8 ns xs ks sh) ++ [l]) e_int ?_ (o_pow4 (by lia) (by lia))
    walk_at "m"
  rintro ρ _ ⟨rfl, l1, l2, l3, l4, l5⟩
  have hBP : ∀ p ∈ sh.map pI, BP p := fun p hp => by
    obtain ⟨k, hk, rfl⟩ := List.mem_map.mp hp
    have := one_arc k (hsk k hk)
    unfold pI BP
    lia
  have f72 := fn72 g2
  refine rx_consE (P := fun ρ ls1 => (LB10 ns xs ks sh) = ls1 ∧ LK ρ "script" (.ref a) ∧ LK ρ "shelf" (.lst 4) ∧ LK ρ "due" (.lst 5) ∧ LK ρ "places" (.lst 7) ∧ LK ρ "rooms" (.lst 8) ∧ LK ρ "starts" (.lst 9)) (XE.of (ρ1 := pset ρ "starts" (.lst 9)) (ls1 := (LB10 ns xs ks sh)) ?_ ⟨rfl, by walk_at "m-look", by walk_at "m-look", by walk_at "m-look", by walk_at "m-look", by walk_at "m-look", by walk_at "m-look"⟩) ?_
  · refine x_acomp (p := .lst 7) (ls1 := (LB9 ns xs ks sh)) (ok := fun l => l[7]? = some ((sh.map pI).map .int)) (cl := []) (ρc := []) (items := (sh.map pI).map .int) (by walk_at "m") (src_list rfl) (by first | exact kind_at2 he1 he rfl | exact kind_at he rfl | exact rel_at he rfl | exact clos_at he rfl | exact swap_at he rfl | exact inter_at he rfl | exact cell_at he rfl | exact kind_atc he rfl) .nil .nil ?_ (by first | exact kind_at2 he1 he rfl | exact kind_at he rfl | exact rel_at he rfl | exact clos_at he rfl | exact swap_at he rfl | exact inter_at he rfl | exact cell_at he rfl | exact kind_atc he rfl) (by first | exact kind_at2 he1 he rfl | exact kind_at he rfl | exact rel_at he rfl | exact clos_at he rfl | exact swap_at he rfl | exact inter_at he rfl | exact cell_at he rfl | exact kind_atc he rfl) rfl (by decide) (fun _ => rfl)
    intro Lc
    refine cp_map0 (ok := fun l => l[7]? = some ((sh.map pI).map .int)) PV.int (fun p => ft (colB p)) (LB9 ns xs ks sh) (fun ρ => True) rfl (fun l => rfl) (sh.map pI) _ trivial (by rw [List.length_map]; lia) ?_
    intro p hp ρ1 l _
    generalize he1 : cenvOf _ env Lc _ = env1
    have hb := hBP p hp
    have hc := hsv_col (d := 6) (ls := (LB9 ns xs ks sh) ++ [l]) g2 (okB (a := 4) (b := 4) hb (by decide) (by decide))
    rw [← one_fl2] at hc
    refine ⟨_, a_loc (by first | exact kind_at2 he1 he rfl | exact kind_at he rfl | exact rel_at he rfl | exact clos_at he rfl | exact swap_at he rfl | exact inter_at he rfl | exact cell_at he rfl | exact kind_atc he rfl), ?_, trivial⟩
    refine e_callF (ls1 := (LB9 ns xs ks sh) ++ [l]) (ps := [.flt (fl p 24), .flt 0x3ff0000000000000, .flt 0x3ff0000000000000]) (by walk_at "m-name") f72 (l_cons (ls1 := (LB9 ns xs ks sh) ++ [l]) ?_ (l_cons (ls1 := (LB9 ns xs ks sh) ++ [l]) e_flt (l_cons (ls1 := (LB9 ns xs ks sh) ++ [l]) e_flt l_nil rfl) rfl) rfl) hc rfl
    exact e_bin (p := .int p) (q := .int (4 ^ (12 : Int).toNat)) (ls1 := (LB9 ns xs ks sh) ++ [l]) (ls2 := (LB9 ns xs ks sh) ++ [l]) (by walk_at "m") (e_bin (ls1 := (LB9 ns xs ks sh) ++ [l]) (ls2 := (LB9 ns xs ks sh) ++ [l]) e_int e_int (o_pow4 (by decide) (by decide))) (div_24 (by lia))
  rintro ρ _ ⟨rfl, l1, l2, l3, l4, l5, l6⟩
  have hlm1 : ((sh.map pI).map fun p => PV.int (p - 1)) = (sh.map fun k => pI k - 1).map .int := by rw [List.map_map, List.map_map]; rfl
  refine rx_consE (P := fun ρ ls1 => (LB11 ns xs ks sh (sh.map fun k => pI k - 1)) = ls1 ∧ LK ρ "script" (.ref a) ∧ LK ρ "shelf" (.lst 4) ∧ LK ρ "due" (.lst 5) ∧ LK ρ "places" (.lst 7) ∧ LK ρ "rooms" (.lst 8) ∧ LK ρ "starts" (.lst 9) ∧ LK ρ "looks" (.lst 10)) (XE.of (ρ1 := pset ρ "looks" (.lst 10)) (ls1 := (LB11 ns xs ks sh (sh.map fun k => pI k - 1))) ?_ ⟨rfl, by walk_at "m-look", by walk_at "m-look", by walk_at "m-look", by walk_at "m-look", by walk_at "m-look", by walk_at "m-look", by walk_at "m-look"⟩) ?_
  · refine x_acomp (p := .lst 7) (ls1 := (LB10 ns xs ks sh)) (ok := fun l => l[7]? = some ((sh.map pI).map .int)) (cl := []) (ρc := []) (items := (sh.map pI).map .int) (by walk_at "m") (src_list rfl) (by first | exact kind_at2 he1 he rfl | exact kind_at he rfl | exact rel_at he rfl | exact clos_at he rfl | exact swap_at he rfl | exact inter_at he rfl | exact cell_at he rfl | exact kind_atc he rfl) .nil .nil ?_ (by first | exact kind_at2 he1 he rfl | exact kind_at he rfl | exact rel_at he rfl | exact clos_at he rfl | exact swap_at he rfl | exact inter_at he rfl | exact cell_at he rfl | exact kind_atc he rfl) (by first | exact kind_at2 he1 he rfl | exact kind_at he rfl | exact rel_at he rfl | exact clos_at he rfl | exact swap_at he rfl | exact inter_at he rfl | exact cell_at he rfl | exact kind_atc he rfl) rfl (by decide) (fun _ => rfl)
    intro Lc
    unfold LB11; rw [← hlm1]
    refine cp_map0 (ok := fun l => l[7]? = some ((sh.map pI).map .int)) PV.int (fun p => .int (p - 1)) (LB10 ns xs ks sh) (fun ρ => True) rfl (fun l => rfl) (sh.map pI) _ trivial (by rw [List.length_map]; lia) ?_
    intro p hp ρ1 l _
    generalize he1 : cenvOf _ env Lc _ = env1
    refine ⟨_, a_loc (by first | exact kind_at2 he1 he rfl | exact kind_at he rfl | exact rel_at he rfl | exact clos_at he rfl | exact swap_at he rfl | exact inter_at he rfl | exact cell_at he rfl | exact kind_atc he rfl), ?_, trivial⟩
    walk_at "m"
  rintro ρ _ ⟨rfl, l1, l2, l3, l4, l5, l6, l7⟩
  generalize hL0 : (sh.map fun k => pI k - 1) = K0
  have hK0 : K0.length ≤ 7 := by rw [← hL0, List.length_map]; lia
  have hfX : ∀ K : List Int, FlatLS (LB11 ns xs ks sh K) := fun K => flatLS_cons (Flat.cons (.int _) (Flat.cons (.int _) (Flat.cons (.int _) Flat.nil))) (flatLS_cons (flat_map _ fun a => .int a) (flatLS_cons (flat_map _ fun a => .int a) (flatLS_cons (flat_map _ fun a => .str _) (flatLS_cons (flat_map _ fun a => .str _) (flatLS_cons (flat_map _ fun a => .str _) (flatLS_cons (flat_map _ fun a => .str _) (flatLS_cons (flat_map _ fun a => .int a) (flatLS_cons (flat_map _ fun a => .int a) (flatLS_cons (flat_map _ fun a => .tup (flat_map _ fun x => .flt x)) (flatLS_cons (flat_map _ fun a => .int a) flatLS_nil))))))))))
  generalize hZ1 : List.zipWith (fun p r : Int => p + r - 1) (sh.map pI) (sh.map roomI) = K1
  have hK1 : K1.length ≤ 7 := by rw [← hZ1, List.length_zipWith, List.length_map]; lia
  refine rx_cons (ρ1 := ρ) (ls1 := (LB11 ns xs ks sh (K0 ++ K1))) (x_expr (ETo.drop (X := [K1.map .int]) ?_ (hfX _).low rfl .none) (by first | exact kind_at2 he1 he rfl | exact kind_at he rfl | exact rel_at he rfl | exact clos_at he rfl | exact swap_at he rfl | exact inter_at he rfl | exact cell_at he rfl | exact kind_atc he rfl) rfl) ?_
  · have hex := c_extend (C := C) (d := 7) (ls := (LB11 ns xs ks sh K0) ++ [K1.map .int]) (n := 10) (m := 11) (l := K0.map .int) (k := K1.map .int) rfl rfl (by rw [List.length_map, List.length_map]; lia)
    rw [← List.map_append] at hex
    refine e_meth (p := .lst 10) (ps := [.lst 11]) (ls1 := (LB11 ns xs ks sh K0)) (ls2 := (LB11 ns xs ks sh K0) ++ [K1.map .int]) (T := "list") (id := "list.extend") (by walk_at "m") (ty_lst (l := K0.map .int) rfl) PySem.F.plainAttrs_list PySem.F.slot_list_extend PySem.F.type_list_extend (l_cons (ls1 := (LB11 ns xs ks sh K0) ++ [K1.map .int]) ?_ l_nil rfl) hex rfl rfl rfl rfl rfl
    rw [← hZ1]
    refine e_zip (ls1 := (LB11 ns xs ks sh K0)) (n1 := 7) (n2 := 8) (xs := sh.map pI) (ys := sh.map roomI) (g := fun p r => p + r - 1) (by walk_at "m-name") (by walk_at "m") rfl rfl (by rw [List.length_map]; lia) (by first | exact kind_at2 he1 he rfl | exact kind_at he rfl | exact rel_at he rfl | exact clos_at he rfl | exact swap_at he rfl | exact inter_at he rfl | exact cell_at he rfl | exact kind_atc he rfl) (fun Lc => by first | exact kind_at2 he1 he rfl | exact kind_at he rfl | exact rel_at he rfl | exact clos_at he rfl | exact swap_at he rfl | exact inter_at he rfl | exact cell_at he rfl | exact kind_atc he rfl) (fun Lc => by first | exact kind_at2 he1 he rfl | exact kind_at he rfl | exact rel_at he rfl | exact clos_at he rfl | exact swap_at he rfl | exact inter_at he rfl | exact cell_at he rfl | exact kind_atc he rfl) (fun Lc C1 a b ls' => ?_) rfl (by decide) (fun _ => rfl) rfl rfl
    generalize he1 : cenvOf _ env Lc _ = env1
    walk_at "m"
  generalize hZ2 : List.zipWith (fun p x : Int => p + x) (sh.map pI) (ns.take 4) = K2
  have hK2 : K2.length ≤ 7 := by rw [← hZ2, List.length_zipWith, List.length_map]; lia
  refine rx_cons (ρ1 := ρ) (ls1 := (LB11 ns xs ks sh (K0 ++ K1 ++ K2))) (x_expr (ETo.drop (X := [(ns.take 4).map .int, K2.map .int]) ?_ (hfX _).low rfl .none) (by first | exact kind_at2 he1 he rfl | exact kind_at he rfl | exact rel_at he rfl | exact clos_at he rfl | exact swap_at he rfl | exact inter_at he rfl | exact cell_at he rfl | exact kind_atc he rfl) rfl) ?_
  · have hex := c_extend (C := C) (d := 7) (ls := (LB11 ns xs ks sh (K0 ++ K1)) ++ [(ns.take 4).map .int, K2.map .int]) (n := 10) (m := 12) (l := (K0 ++ K1).map .int) (k := K2.map .int) rfl rfl (by rw [List.length_map, List.length_map, List.length_append]; lia)
    rw [← List.map_append] at hex
    refine e_meth (p := .lst 10) (ps := [.lst 12]) (ls1 := (LB11 ns xs ks sh (K0 ++ K1))) (ls2 := (LB11 ns xs ks sh (K0 ++ K1)) ++ [(ns.take 4).map .int, K2.map .int]) (T := "list") (id := "list.extend") (by walk_at "m") (ty_lst (l := (K0 ++ K1).map .int) rfl) PySem.F.plainAttrs_list PySem.F.slot_list_extend PySem.F.type_list_extend (l_cons (ls1 := (LB11 ns xs ks sh (K0 ++ K1)) ++ [(ns.take 4).map .int, K2.map .int]) ?_ l_nil rfl) hex rfl rfl rfl rfl rfl
    rw [← hZ2]
    change ETo _ _ _ _ _ _ (.lst 12) ((LBz ns xs ks sh (K0 ++ K1)) ++ [(List.zipWith (fun p x : Int => p + x) (sh.map pI) (ns.take 4)).map .int])
    refine e_zip (ls1 := (LBz ns xs ks sh (K0 ++ K1))) (n1 := 7) (n2 := 11) (xs := sh.map pI) (ys := ns.take 4) (g := fun p x => p + x) (by walk_at "m-name") ?_ rfl rfl (by rw [List.length_map]; lia) (by first | exact kind_at2 he1 he rfl | exact kind_at he rfl | exact rel_at he rfl | exact clos_at he rfl | exact swap_at he rfl | exact inter_at he rfl | exact cell_at he rfl | exact kind_atc he rfl) (fun Lc => by first | exact kind_at2 he1 he rfl | exact kind_at he rfl | exact rel_at he rfl | exact clos_at he rfl | exact swap_at he rfl | exact inter_at he rfl | exact cell_at he rfl | exact kind_atc he rfl) (fun Lc => by first | exact kind_at2 he1 he rfl | exact kind_at he rfl | exact rel_at he rfl | exact clos_at he rfl | exact swap_at he rfl | exact inter_at he rfl | exact cell_at he rfl | exact kind_atc he rfl) (fun Lc C1 a b ls' => ?_) rfl (by decide) (fun _ => rfl) rfl rfl
    · refine l_cons (ls1 := (LB11 ns xs ks sh (K0 ++ K1))) (by walk_at "m") (l_cons (ls1 := (LBz ns xs ks sh (K0 ++ K1))) ?_ l_nil rfl) rfl
      refine e_slice_base (l := ns.map .int) (lo := none) (hi := some (4 : Int)) (by walk_at "m") .none (.some e_int) hL hv hz rfl ?_ rfl
      rw [show (4 : Int) = ((4 : Nat) : Int) from rfl, pick_take, List.map_take]
    · generalize he1 : cenvOf _ env Lc _ = env1
      walk_at "m"
  --TAIL
  rename_i l7
  generalize hKK : K0 ++ K1 ++ K2 = KK at *
  have hKK21 : KK.length ≤ 21 := by rw [← hKK, List.length_append, List.length_append]; lia
  have hsum := sum_rem g2 (d := 7) (ls := (LB13 ns xs ks sh KK)) (n := 12) (ns := ns.take 10) (by simp; lia) rfl
  generalize ((ns.take 10).map fun x => x.fmod 16).sum = D at hsum
  refine rx_consE (P := fun ρ ls1 => (LB13 ns xs ks sh KK) = ls1 ∧ LK ρ "shelf" (.lst 4) ∧ LK ρ "due" (.lst 5) ∧ LK ρ "rooms" (.lst 8) ∧ LK ρ "starts" (.lst 9) ∧ LK ρ "looks" (.lst 10) ∧ LK ρ "draw" (.int D)) (XE.of (ρ1 := pset ρ "draw" (.int D)) (ls1 := (LB13 ns xs ks sh KK)) ?_ ⟨rfl, by walk_at "m-look", by walk_at "m-look", by walk_at "m-look", by walk_at "m-look", by walk_at "m-look", by walk_at "m-look"⟩) ?_
  · walk_at "m-asg"
    refine e_callB (ls1 := (LB13 ns xs ks sh KK)) (by walk_at "m-name") (l_cons ?_ l_nil rfl) hsum rfl rfl
    refine e_comp (p := .lst 11) (ls1 := (LB12 ns xs ks sh KK)) (cl := []) (ρc := []) (items := (ns.take 10).map .int) (e_slice_base (l := ns.map .int) (lo := none) (hi := some (10 : Int)) (by walk_at "m") .none (.some e_int) hL hv hz rfl ?_ rfl) (src_list rfl) (by first | exact kind_at2 he1 he rfl | exact kind_at he rfl | exact rel_at he rfl | exact clos_at he rfl | exact swap_at he rfl | exact inter_at he rfl | exact cell_at he rfl | exact kind_atc he rfl) .nil .nil ?_ rfl (by decide) (fun _ => rfl)
    · rw [show (10 : Int) = ((10 : Nat) : Int) from rfl, pick_take, List.map_take]
    · intro Lc
      refine cp_map0 (fun (x : Int) => PV.int x) (fun x => PV.int (x.fmod 16)) (LB12 ns xs ks sh KK) (fun ρ => True) rfl (fun l => rfl) (ns.take 10) _ trivial (by simp; lia) ?_
      intro x hx ρ1 l _
      generalize he1 : cenvOf _ env Lc _ = env1
      refine ⟨_, a_loc (by first | exact kind_at2 he1 he rfl | exact kind_at he rfl | exact rel_at he rfl | exact clos_at he rfl | exact swap_at he rfl | exact inter_at he rfl | exact cell_at he rfl | exact kind_atc he rfl), ?_, trivial⟩
      walk_at "m"
  rintro ρ _ ⟨rfl, l1, l2, l3, l4, l5, l6⟩
  have hBf : FlatLS (LB13 ns xs ks sh KK) :=
    flatLS_cons (Flat.cons (.int _) (Flat.cons (.int _) (Flat.cons (.int _) Flat.nil))) (flatLS_cons (flat_map _ fun a => .int a) (flatLS_cons (flat_map _ fun a => .int a) (flatLS_cons (flat_map _ fun a => .str _) (flatLS_cons (flat_map _ fun a => .str _) (flatLS_cons (flat_map _ fun a => .str _) (flatLS_cons (flat_map _ fun a => .str _) (flatLS_cons (flat_map _ fun a => .int a) (flatLS_cons (flat_map _ fun a => .int a) (flatLS_cons (flat_map _ fun a => .tup (flat_map _ fun x => .flt x)) (flatLS_cons (flat_map _ fun a => .int a) (flatLS_cons (flat_map _ fun a => .int a) (flatLS_cons (flat_map _ fun a => .int _) flatLS_nil))))))))))))
  have b4 : ((LB13 ns xs ks sh KK) : LS)[4]? = some (txs (sh.map mailK)) := congrArg some emt
  have b5 : ((LB13 ns xs ks sh KK) : LS)[5]? = some (sh.map mailP) := rfl
  have b8 : ((LB13 ns xs ks sh KK) : LS)[8]? = some ((sh.map roomI).map .int) := rfl
  have b9 : ((LB13 ns xs ks sh KK) : LS)[9]? = some (colsB (sh.map pI)) := rfl
  have b10 : ((LB13 ns xs ks sh KK) : LS)[10]? = some (KK.map .int) := rfl
  generalize ((LB13 ns xs ks sh KK) : LS) = B at hBf b4 b5 b8 b9 b10 ⊢
  have pre : ∀ {X : LS} {i : Nat} {x : List PV}, B[i]? = some x → (B ++ X)[i]? = some x := fun {X i x} h => by rw [List.getElem?_append_left (List.getElem?_eq_some_iff.mp h).1]; exact h
  have f65 := fn65 g2
  have f110 := fn110 g2
  have f127 := fn127 g2
  have f141 := fn141 g2
  refine rx_forI (ok := fun l => l[10]? = some (KK.map .int)) (items := enumPV (KK.map .int)) (fun i ρ ls1 => ∃ X, B ++ X = ls1 ∧ FlatLS X ∧ LK ρ "shelf" (.lst 4) ∧ LK ρ "due" (.lst 5) ∧ LK ρ "rooms" (.lst 8) ∧ LK ρ "starts" (.lst 9) ∧ LK ρ "draw" (.int D)) (i_enum (n := 10) (by walk_at "m-name") (by walk_at "m") b10 rfl) ?_ ⟨[], List.append_nil _, flatLS_nil, l1, l2, l3, l4, l6⟩ ?_ ?_ (fun _ => rfl)
  · rintro i ρ _ _ ⟨X, rfl, _⟩
    exact pre b10
  · rintro i q ρ _ hi ⟨X, rfl, hX, l1, l2, l3, l4, l6⟩
    unfold enumPV at hi
    rw [List.getElem?_mapIdx, Option.map_eq_some_iff] at hi
    obtain ⟨q0, hi, rfl⟩ := hi
    rw [List.getElem?_map, Option.map_eq_some_iff] at hi
    obtain ⟨look, hi, rfl⟩ := hi
    have hf := flatLS_app hBf hX
    have c4 := pre (X := X) b4
    have c5 := pre (X := X) b5
    have c8 := pre (X := X) b8
    have c9 := pre (X := X) b9
    have e3 : ((4 : Int) ^ (12 : Int).toNat) = 16777216 := by decide
    have hN0 : look.fmod ((4 : Int) ^ (12 : Int).toNat) = ((look.fmod ((4 : Int) ^ (12 : Int).toNat)).toNat : Int) ∧ (look.fmod ((4 : Int) ^ (12 : Int).toNat)).toNat < 4 ^ 12 := by
      have h1 := Int.fmod_nonneg_of_pos look (by decide : (0 : Int) < 16777216)
      have h2 := Int.fmod_lt_of_pos look (by decide : (0 : Int) < 16777216)
      rw [e3]
      lia
    generalize (look.fmod ((4 : Int) ^ (12 : Int).toNat)).toNat = N at hN0
    obtain ⟨hN, hN12⟩ := hN0
    have hNB : BP (N : Int) := by unfold BP; lia
    have ha : 1 ≤ 1 + ((i : Int) + D).fmod 4 ∧ 1 + ((i : Int) + D).fmod 4 ≤ 4 := by
      have h1 := Int.fmod_nonneg_of_pos ((i : Int) + D) (by decide : (0 : Int) < 4)
      have h2 := Int.fmod_lt_of_pos ((i : Int) + D) (by decide : (0 : Int) < 4)
      lia
    have hb : 1 ≤ 1 + (((i : Int) + D).fdiv 4).fmod 4 ∧ 1 + (((i : Int) + D).fdiv 4).fmod 4 ≤ 4 := by
      have h1 := Int.fmod_nonneg_of_pos (((i : Int) + D).fdiv 4) (by decide : (0 : Int) < 4)
      have h2 := Int.fmod_lt_of_pos (((i : Int) + D).fdiv 4) (by decide : (0 : Int) < 4)
      lia
    obtain ⟨hv0, Y, hY, hheard, heq⟩ := heard_all (C := C) (d := 6) (ls := B ++ X) g2 hf hN12
    have eBX : B ++ X ++ Y = B ++ (X ++ Y) := List.append_assoc ..
    have hf2 : FlatLS (B ++ X ++ Y) := flatLS_app hf hY
    have pre2 : ∀ {Z : LS} {i : Nat} {x : List PV}, (B ++ X)[i]? = some x → (B ++ X ++ Z)[i]? = some x := fun {X i x} h => by rw [List.getElem?_append_left (List.getElem?_eq_some_iff.mp h).1]; exact h
    have d4 := pre2 (Z := Y) c4
    have d5 := pre2 (Z := Y) c5
    have d8 := pre2 (Z := Y) c8
    have d9 := pre2 (Z := Y) c9
    generalize hB2 : B ++ X ++ Y = B2 at hf2 d4 d5 d8 d9 heq hheard
    have htold := told_spec (C := C) (d := 3) (ls := B2) (n := (N : Int)) g2 d4 d9 d8 s1 hBP (fun r hr => by
      obtain ⟨k, hk, rfl⟩ := List.mem_map.mp hr
      have : rmK k ≤ 4 ^ 12 := Nat.pow_le_pow_right (by decide) (Nat.sub_le _ _)
      show 0 ≤ ((rmK k : Nat) : Int) ∧ ((rmK k : Nat) : Int) ≤ 16777216
      lia) hNB (by rw [List.length_map]; lia) (by rw [List.length_map, List.length_map]) (by rw [List.length_map, List.length_map])
    rw [told_law s1 hsk hN12] at htold
    generalize hB1 : B ++ X = B1 at hheard hf c4 c5 c8 c9 ⊢
    have hcol := hsv_col (d := 6) (ls := B1) g2 (okB hNB ha hb)
    obtain ⟨x, y, z, hxyz⟩ := colI_three 24 (N : Int) (1 + ((i : Int) + D).fmod 4) (1 + (((i : Int) + D).fdiv 4).fmod 4)
    have hback := rgb_col (d := 6) (ls := B1) g2 (okB hNB ha hb) hxyz
    have ecol : colF 24 (N : Int) (1 + ((i : Int) + D).fmod 4) (1 + (((i : Int) + D).fdiv 4).fmod 4) = [fl x (cE 24), fl y (cE 24), fl z (cE 24)] := by show (colI 24 _ _ _).map _ = _; rw [hxyz]; rfl
    rw [ecol] at hcol
    have hnums : Nums [fl (N : Int) 24, fl (1 + ((i : Int) + D).fmod 4) 2, fl (1 + (((i : Int) + D).fdiv 4).fmod 4) 2] := by
      intro w hw
      simp only [List.mem_cons, List.not_mem_nil, or_false] at hw
      rcases hw with rfl | rfl | rfl
      · exact fl_num (fitS (by lia) (by decide))
      · exact fl_num (fitS (by lia) (by decide))
      · exact fl_num (fitS (by lia) (by decide))
    have dshare : V2To C 7 (.int (1 + ((i : Int) + D).fmod 4)) (.int 4) (binaryOp .Div) B1 (.flt (fl (1 + ((i : Int) + D).fmod 4) 2)) B1 := div_4 (by lia)
    have dvalue : V2To C 7 (.int (1 + (((i : Int) + D).fdiv 4).fmod 4)) (.int 4) (binaryOp .Div) B1 (.flt (fl (1 + (((i : Int) + D).fdiv 4).fmod 4) 2)) B1 := div_4 (by lia)
    have dnum : V2To C 7 (.int (N : Int)) (.int ((4 : Int) ^ (12 : Int).toNat)) (binaryOp .Div) B1 (.flt (fl (N : Int) 24)) B1 := div_24 (by lia)
    have pw : V2To C 7 (.int 4) (.int 12) (binaryOp .Pow) B1 (.int ((4 : Int) ^ (12 : Int).toNat)) B1 := o_pow4 (by decide) (by decide)
    have md : V2To C 7 (.int look) (.int ((4 : Int) ^ (12 : Int).toNat)) (binaryOp .Mod) B1 (.int (N : Int)) B1 := (o_mod_int (by decide)).to (by rw [hN])
    refine ⟨_, a_tup (ps := [.int i, .int look]) (.cons (a_loc (by first | exact kind_at2 he1 he rfl | exact kind_at he rfl | exact rel_at he rfl | exact clos_at he rfl | exact swap_at he rfl | exact inter_at he rfl | exact cell_at he rfl | exact kind_atc he rfl)) (.cons (a_loc (by first | exact kind_at2 he1 he rfl | exact kind_at he rfl | exact rel_at he rfl | exact clos_at he rfl | exact swap_at he rfl | exact inter_at he rfl | exact cell_at he rfl | exact kind_atc he rfl)) .nil (fun _ => rfl)) (fun _ => rfl)), ?_⟩
    have t1 : LK (pset (pset ρ "turn" (.int i)) "look" (.int look)) "turn" (.int i) := by walk_at "m-look"
    have t2 : LK (pset (pset ρ "turn" (.int i)) "look" (.int look)) "look" (.int look) := by walk_at "m-look"
    have l1 : LK (pset (pset ρ "turn" (.int i)) "look" (.int look)) "shelf" (.lst 4) := by walk_at "m-look"
    have l2 : LK (pset (pset ρ "turn" (.int i)) "look" (.int look)) "due" (.lst 5) := by walk_at "m-look"
    have l3 : LK (pset (pset ρ "turn" (.int i)) "look" (.int look)) "rooms" (.lst 8) := by walk_at "m-look"
    have l4 : LK (pset (pset ρ "turn" (.int i)) "look" (.int look)) "starts" (.lst 9) := by walk_at "m-look"
    have l6 : LK (pset (pset ρ "turn" (.int i)) "look" (.int look)) "draw" (.int D) := by walk_at "m-look"
    generalize pset (pset ρ "turn" (.int i)) "look" (.int look) = ρ1 at t1 t2 l1 l2 l3 l4 l6 ⊢
    generalize hA : 1 + ((i : Int) + D).fmod 4 = SA at *
    generalize hV : 1 + (((i : Int) + D).fdiv 4).fmod 4 = SV at *
    refine xe_cons (x_assign (p := .int (N : Int)) (ls1 := B1) ?_ (by first | exact kind_at2 he1 he rfl | exact kind_at he rfl | exact rel_at he rfl | exact clos_at he rfl | exact swap_at he rfl | exact inter_at he rfl | exact cell_at he rfl | exact kind_atc he rfl) rfl) ?_
    · exact e_bin (p := .int look) (q := .int ((4 : Int) ^ (12 : Int).toNat)) (ls1 := B1) (ls2 := B1) (by walk_at "m") (e_bin (ls1 := B1) (ls2 := B1) e_int e_int pw) md
    refine xe_cons (x_assign (p := .flt (fl SA 2)) (ls1 := B1) ?_ (by first | exact kind_at2 he1 he rfl | exact kind_at he rfl | exact rel_at he rfl | exact clos_at he rfl | exact swap_at he rfl | exact inter_at he rfl | exact cell_at he rfl | exact kind_atc he rfl) rfl) ?_
    · refine e_bin (p := .int SA) (q := .int 4) (ls1 := B1) (ls2 := B1) ?_ e_int dshare
      rw [← hA]
      walk_at "m"
    refine xe_cons (x_assign (p := .flt (fl SV 2)) (ls1 := B1) ?_ (by first | exact kind_at2 he1 he rfl | exact kind_at he rfl | exact rel_at he rfl | exact clos_at he rfl | exact swap_at he rfl | exact inter_at he rfl | exact cell_at he rfl | exact kind_atc he rfl) rfl) ?_
    · refine e_bin (p := .int SV) (q := .int 4) (ls1 := B1) (ls2 := B1) ?_ e_int dvalue
      rw [← hV]
      walk_at "m"
    refine xe_cons (x_assignT (ps := [.flt (fl x (cE 24)), .flt (fl y (cE 24)), .flt (fl z (cE 24))]) (ls1 := B1) ?_ (.cons (a_loc (by first | exact kind_at2 he1 he rfl | exact kind_at he rfl | exact rel_at he rfl | exact clos_at he rfl | exact swap_at he rfl | exact inter_at he rfl | exact cell_at he rfl | exact kind_atc he rfl)) (.cons (a_loc (by first | exact kind_at2 he1 he rfl | exact kind_at he rfl | exact rel_at he rfl | exact clos_at he rfl | exact swap_at he rfl | exact inter_at he rfl | exact cell_at he rfl | exact kind_atc he rfl)) (.cons (a_loc (by first | exact kind_at2 he1 he rfl | exact kind_at he rfl | exact rel_at he rfl | exact clos_at he rfl | exact swap_at he rfl | exact inter_at he rfl | exact cell_at he rfl | exact kind_atc he rfl)) .nil (fun _ => rfl)) (fun _ => rfl)) (fun _ => rfl)) (fun _ => rfl) rfl) ?_
    · refine e_callF (ls1 := B1) (ps := [.flt (fl (N : Int) 24), .flt (fl SA 2), .flt (fl SV 2)]) (by walk_at "m-name") f72 (l_cons (ls1 := B1) ?_ (l_cons (ls1 := B1) (by walk_at "m") (l_cons (ls1 := B1) (by walk_at "m") l_nil rfl) rfl) rfl) hcol rfl
      exact e_bin (p := .int (N : Int)) (q := .int ((4 : Int) ^ (12 : Int).toNat)) (ls1 := B1) (ls2 := B1) (by walk_at "m") (e_bin (ls1 := B1) (ls2 := B1) e_int e_int pw) dnum
    refine xe_cons (x_assign (p := t3 (fl (N : Int) 24) (fl SA 2) (fl SV 2)) (ls1 := B1) ?_ (by first | exact kind_at2 he1 he rfl | exact kind_at he rfl | exact rel_at he rfl | exact clos_at he rfl | exact swap_at he rfl | exact inter_at he rfl | exact cell_at he rfl | exact kind_atc he rfl) rfl) ?_
    · walk_at "m"
    refine xe_cons (x_ifF (b := false) (ls1 := B1) (b_cmp (p := t3 (fl (N : Int) 24) (fl SA 2) (fl SV 2)) (q := t3 (fl (N : Int) 24) (fl SA 2) (fl SV 2)) (ls1 := B1) (ls2 := B1) (by walk_at "m") (e_tup (l_cons (ls1 := B1) ?_ (l_cons (ls1 := B1) (by walk_at "m") (l_cons (ls1 := B1) (by walk_at "m") l_nil rfl) rfl) rfl) (by show 3 ≤ sizeLine; lia)) (o_ne_ft g2.ok hnums) rfl) rfl x_nil) ?_
    · exact e_bin (p := .int (N : Int)) (q := .int ((4 : Int) ^ (12 : Int).toNat)) (ls1 := B1) (ls2 := B1) (by walk_at "m") (e_bin (ls1 := B1) (ls2 := B1) e_int e_int pw) dnum
    refine xe_cons (x_assignC (p := hv0) (c := L + 1) (ls1 := B2) ?_ (by first | exact kind_at2 he1 he rfl | exact kind_at he rfl | exact rel_at he rfl | exact clos_at he rfl | exact swap_at he rfl | exact inter_at he rfl | exact cell_at he rfl | exact kind_atc he rfl) hcel hlt (by first | exact kind_at2 he1 he rfl | exact kind_at he rfl | exact rel_at he rfl | exact clos_at he rfl | exact swap_at he rfl | exact inter_at he rfl | exact cell_at he rfl | exact kind_atc he rfl)) ?_
    · exact e_callF (ls1 := B1) (ps := [.int (N : Int)]) (by walk_at "m-name") f127 (l_cons (ls1 := B1) (by walk_at "m") l_nil rfl) hheard rfl
    refine xe_gen (J := fun ρ => LK ρ "shelf" (.lst 4) ∧ LK ρ "due" (.lst 5) ∧ LK ρ "rooms" (.lst 8) ∧ LK ρ "starts" (.lst 9) ∧ LK ρ "draw" (.int D) ∧ LK ρ "seen" (t3 (fl (N : Int) 24) (fl SA 2) (fl SV 2)) ∧ LK ρ "heard" hv0) ⟨by walk_at "m-look", by walk_at "m-look", by walk_at "m-look", by walk_at "m-look", by walk_at "m-look", by walk_at "m-look", by walk_at "m-look"⟩ ?_
    clear t1 t2 l1 l2 l3 l4 l6
    rintro ρ2 ⟨l1, l2, l3, l4, l6, l7, l8⟩
    generalize hM : (sh.filter fun k => decide (heardL N = some (rowsL (mailK k)))).map mailK = M at htold
    have hM2 : (sh.filter fun k => decide (heardL N = some (rowsL (mailK k)))).map mailP = txs M := by rw [← hM]; unfold txs; rw [List.map_map]; rfl
    have eapp : B2 ++ [txs M] ++ [txs M] = B2 ++ [txs M, txs M] := by simp
    refine xe_one (XE.of (ρ1 := ρ2) (ls1 := B2) (x_ifF (b := !decide (M = M)) (ls1 := B2) (BTo.drop (X := [txs M, txs M]) ?_ hf2.low rfl) (by simp) x_nil) ⟨X ++ Y, eBX.symm.trans ((congrArg (· ++ Y) hB1).trans ((congrArg (· ++ Y) hB1.symm).trans hB2)), flatLS_app hX hY, l1, l2, l3, l4, l6⟩)
    rw [← eapp]
    have n1 : (B2 ++ [txs M] ++ [txs M])[B2.length]? = some (txs M) := by simp
    have n2 : (B2 ++ [txs M] ++ [txs M])[(B2 ++ [txs M]).length]? = some (txs M) := by rw [List.getElem?_append_right (Nat.le_refl _), Nat.sub_self]; rfl
    refine b_cmp (p := .lst B2.length) (q := .lst (B2 ++ [txs M]).length) (ls1 := B2 ++ [txs M]) (ls2 := B2 ++ [txs M] ++ [txs M]) ?_ ?_ (o_ne_txs (a := M) (b := M) n1 n2) rfl
    · refine e_callF (ls1 := B2) (ps := [.lst 4, .lst 9, .lst 8, .flt (fl (N : Int) 24)]) (by walk_at "m-name") f141 ?_ htold rfl
      walk_at "m"
    · refine e_comp (p := .lst 5) (ls1 := B2 ++ [txs M]) (cl := [("heard", L + 1)]) (ρc := [("heard", hv0)]) (ok := fun l => l[5]? = some (sh.map mailP)) (items := sh.map mailP) ?_ (src_list ?_) (by first | exact kind_at2 he1 he rfl | exact kind_at he rfl | exact rel_at he rfl | exact clos_at he rfl | exact swap_at he rfl | exact inter_at he rfl | exact cell_at he rfl | exact kind_atc he rfl) (ClOk.one hcel) (Cl.one (k := .cell) (k' := .cell) (by walk_at "m-look") (by first | exact kind_at2 he1 he rfl | exact kind_at he rfl | exact rel_at he rfl | exact clos_at he rfl | exact swap_at he rfl | exact inter_at he rfl | exact cell_at he rfl | exact kind_atc he rfl) hcel (by first | exact kind_at2 he1 he rfl | exact kind_at he rfl | exact rel_at he rfl | exact clos_at he rfl | exact swap_at he rfl | exact inter_at he rfl | exact cell_at he rfl | exact kind_atc he rfl) (fun _ => rfl) (by decide) (by decide)) ?_ rfl (by decide) (fun _ => rfl)
      · walk_at "m"
      · rw [List.getElem?_append_left (List.getElem?_eq_some_iff.mp d5).1]; exact d5
      · intro Lc
        rw [show B2 ++ [txs M] ++ [txs M] = B2 ++ [txs M] ++ [(sh.filter fun k => decide (heardL N = some (rowsL (mailK k)))).map mailP] from by rw [hM2]]
        refine cp_filter0 (ok := fun l => l[5]? = some (sh.map mailP)) mailP (fun k => decide (heardL N = some (rowsL (mailK k)))) mailP (B2 ++ [txs M]) (fun ρ => LK ρ "heard" hv0) rfl (fun l => ?_) sh _ (by walk_at "m-look") (by lia) ?_
        · rw [List.append_assoc, List.getElem?_append_left (List.getElem?_eq_some_iff.mp d5).1]; exact d5
        · intro k hk ρ3 l hj hl
          generalize he1 : cenvOf _ env Lc _ = env1
          have hf3 : FlatLS (B2 ++ [txs M] ++ [l]) := flatLS_app (flatLS_app hf2 (flatLS_one (flat_txs M))) (flatLS_one fun y hy => by
            obtain ⟨j, rfl⟩ := hl y hy
            exact .str _)
          have hrow := rows_spec (C := C) (d := 6) (ls := B2 ++ [txs M] ++ [l]) g2 hf3 (hsk k hk)
          have heq1 := heq (B2 ++ [txs M] ++ [l] ++ [txs (rowsL (mailK k))]) (B2 ++ [txs M] ++ [l]).length 7 (rowsL (mailK k)) (fun i x h => by rw [List.append_assoc, List.append_assoc, List.getElem?_append_left (List.getElem?_eq_some_iff.mp h).1]; exact h) (by rw [List.getElem?_append_right (Nat.le_refl _), Nat.sub_self]; rfl)
          generalize B2 ++ [txs M] ++ [l] = B3 at hf3 hrow heq1 ⊢
          refine ⟨_, a_loc (by first | exact kind_at2 he1 he rfl | exact kind_at he rfl | exact rel_at he rfl | exact clos_at he rfl | exact swap_at he rfl | exact inter_at he rfl | exact cell_at he rfl | exact kind_atc he rfl), BTo.drop (X := [txs (rowsL (mailK k))]) ?_ hf3.low rfl, ?_, by walk_at "m-look"⟩
          · refine b_cmp (p := .lst B3.length) (q := hv0) (ls1 := B3 ++ [txs (rowsL (mailK k))]) (ls2 := B3 ++ [txs (rowsL (mailK k))]) ?_ ?_ heq1 rfl
            · exact e_callF (ls1 := B3) (ps := [mailP k]) (by walk_at "m-name") f110 (l_cons (ls1 := B3) (by walk_at "m") l_nil rfl) hrow rfl
            · walk_at "m-name"
          · walk_at "m"
  · rintro ρ1 ls1 _
    exact rx_return e_bool
end Mine
end
section
open PySem PySem.W PySem.Calls PyProof.Rows
set_option maxRecDepth 100000
set_option linter.unusedVariables false
set_option maxHeartbeats 8000000
namespace Mine
def strKey (e : DictEntry) : Bool := match e.key with
  | .str .. => true
  | _ => false
theorem strKeys_of {es : Array DictEntry} (h : es.all strKey = true) : StrKeys es := fun e he => by
  have := Array.all_eq_true'.mp h e he
  unfold strKey at this
  split at this
  · rename_i n t e1; exact ⟨n, t, e1⟩
  · cases this
theorem look_mem {α : Type} {x : Str} {v : α} : ∀ {l : List (Str × α)}, l.lookup x = some v → (x, v) ∈ l
  | [], e => nomatch e
  | (y, u) :: l, e => by
    rw [List.lookup_cons] at e
    cases q : x == y with
    | true =>
      rw [q] at e
      have e : some u = some v := e
      cases e
      have : x = y := by simpa using q
      rw [this]; exact List.mem_cons_self ..
    | false => rw [q] at e; exact List.mem_cons_of_mem _ (look_mem e)
theorem by_map {F : Str → Option Value} {l : List (Str × Value)} (h : l.map (fun p => F p.1) = l.map (fun p => some p.2)) {x : Str} {v : Value} (e : (x, v) ∈ l) : F x = some v := List.map_inj_left.mp h _ e
theorem by_mapN {F : Str → Option Value} {l : List (Str × Value)} (h : l.map (fun p => F p.1) = l.map (fun _ => none)) {x : Str} {v : Value} (e : (x, v) ∈ l) : F x = none := List.map_inj_left.mp h _ e
theorem by_ne {l : List (Str × Value)} {y : Str} (h : ∀ p ∈ l, p.1 ≠ y) {x : Str} {v : Value} (e : (x, v) ∈ l) : x ≠ y := h _ e
theorem g2_of {prog : Program} {w : World} {h : Heap} {mg mb : Str → Option Value} (k : (hd.heap_39 w.params).In h) (hl : h.NoLimit) (g : h.Ns mainGlobals mg) (b : h.Ns builtinsNs mb) (hb : ∀ x : Str, x ≠ "__name__" → mb x = bootBuiltins x) : G2 ⟨prog, w, h, mg, mb⟩ := by
  have h3 := k 3 _ (by with_unfolding_all rfl)
  have h2 := k 2 _ (by with_unfolding_all rfl)
  have g' := g
  obtain ⟨o, es, ep, ho, hdt, hk, hf⟩ := g'
  rw [show h.get? mainGlobals = _ from h3] at ho
  cases ho
  cases hdt
  refine ⟨⟨hl, g, b, ?_⟩, k, ?_, ?_, ?_⟩
  · refine ⟨_, ⟨_, _, _, h2, rfl, ?_, fun _ => rfl⟩, by with_unfolding_all rfl⟩
    exact strKeys_of (by with_unfolding_all rfl)
  · exact fun x v e => (hf x).symm.trans (by_map (l := tab) (by with_unfolding_all rfl) (look_mem e))
  · exact fun x v e => ⟨(hf x).symm.trans (by_mapN (l := btab) (by with_unfolding_all rfl) (look_mem e)), (hb x (by_ne (l := btab) (by decide) (look_mem e))).trans (by_map (l := btab) (by with_unfolding_all rfl) (look_mem e))⟩
  · exact ⟨_, (hf _).symm.trans (by with_unfolding_all rfl)⟩
theorem law_at {P : Params} {h : Heap} {mg : Str → Option Value} (k : (hd.heap_39 P).In h) (g : h.Ns mainGlobals mg) : mg "law" = some (.ref 146) := by
  have h3 := k 3 _ (by with_unfolding_all rfl)
  obtain ⟨o, es, ep, ho, hdt, hk, hf⟩ := g
  rw [show h.get? mainGlobals = _ from h3] at ho
  cases ho
  cases hdt
  exact (hf _).symm.trans (by with_unfolding_all rfl)
end Mine
open Mine
set_option maxRecDepth 100000 in
set_option maxHeartbeats 8000000 in
theorem PySem.Challenge.cw_pe0128_01_holds : PySem.Challenge.rw_pe0128_01.Holds := by
  refine hd ?_
  intro w s₀ s₁ mg mb G Y fa o pm cd doc dV kV ho hdd hcd hD hmg hg args vals as hpre hlay hrd hwl hlo
  have KX := kIn_of Y
  wrow_args hpre hlay hrd hwl hlo
  rename IntsAre _ _ => hI
  rename Heap.IsList _ _ _ => hL
  rename ¬ _ < _ => hlen
  have g2 := Mine.g2_of (prog := PySem.Challenge.rw_pe0128_01.row.prog) KX G.T.nolimit G.T.g G.T.b G.T.builtins
  have efa : fa = 146 := by
    have e := Mine.law_at KX G.T.g
    rw [e] at hmg
    injection hmg with hmg
    injection hmg with hmg
    exact hmg.symm
  subst efa
  refine Mine.law_run g2 hL hI (by omega) ⟨rfl, ?_, ?_⟩ rfl fun h' tk hk => GoodW.toG (Mine.good_true hk hg (raisesW_false ?_) ?_ rfl)
  · show 1 + claimMargin + 8 < recursionLimit
    decide
  · show 4 + 16 * 8 + 64 < cLine
    decide
  · wrow_none_raised
  · kc_post
end
