import PyProof.Rows.All
import Wide.All
import OpenK.AllK
import Wide.FinOn
import PySem.Challenge.RW_pe0128_02
set_option Elab.async false
section
open PySem PySem.W PyProof.Rows
set_option maxRecDepth 100000
set_option maxHeartbeats 8000000
open_top hd for PySem.Challenge.rw_pe0128_02
end
section
open PySem PySem.W PyProof.Rows
set_option maxRecDepth 100000
set_option linter.unusedVariables false
namespace Mine
/-- tokens are only ever added -/
theorem runs_toks {M : Model} {Γ : Ctx} {p : Pos} {t : Sem Fin} {fs : List Frame} {s s' : Shared} {e : End} (h : Runs M Γ p t fs s e s') : s.toks ≤ s'.toks := by
  induction h with
  | done => exact Nat.le_refl _
  | raise => exact Nat.le_refl _
  | yield => exact Nat.le_refl _
  | fresh _ ih => exact Nat.le_trans (Nat.le_succ _) ih
  | call _ _ ih1 ih2 => exact Nat.le_trans ih1 ih2
  | callSusp _ ih => exact ih
  | resumeFresh _ _ _ _ ih1 ih2 => exact Nat.le_trans ih1 ih2
  | resumeSuspended _ _ _ _ ih1 ih2 => exact Nat.le_trans ih1 ih2
  | segRet _ _ ih1 ih2 => exact Nat.le_trans ih1 ih2
  | segGen _ _ ih1 ih2 => exact Nat.le_trans ih1 ih2
  | segSuspOut _ _ ih => exact ih
  | segSuspGen _ _ _ _ ih1 ih2 => exact Nat.le_trans ih1 ih2
  | again _ _ ih => exact ih
  | rule _ ih => exact ih
  | «at» _ ih => exact ih
  | load _ _ ih => exact ih
  | update _ _ ih => exact ih
  | loadIfAlive _ ih => exact ih
  | point _ ih => exact ih
  | alloc _ ih => exact ih
  | ask _ ih => exact ih
  | choose _ _ ih => exact ih
  | os _ ih => exact ih
  | handled _ ih => exact ih
  | genState _ _ ih => exact ih
  | stack _ ih => exact ih
  | thread _ ih => exact ih
  | newGen _ ih => exact ih
  | resumeJustStarted _ _ _ ih => exact ih
  | resumeThrowFresh _ _ ih => exact ih
  | resumeRunning _ _ ih => exact ih
  | resumeFinished _ _ ih => exact ih
theorem wakes_toks {M : Model} {Γ : Ctx} {p : Pos} {g : Nat} {r : Resume} {s s' : Shared} {res : GenResult} (h : Wakes M Γ p g r s res s') : s.toks ≤ s'.toks := by
  unfold Wakes at h
  split at h
  · exact h.elim
  · split at h
    · obtain ⟨e₁, s₁, h1, _, _, rfl⟩ := h; have z := runs_toks h1; exact z
    · rw [h.2]; exact Nat.le_refl _
    · rw [h.2]; exact Nat.le_refl _
  · obtain ⟨e₁, s₁, h1, _, _, rfl⟩ := h; have z := runs_toks h1; exact z
  · rw [h.2]; exact Nat.le_refl _
  · rw [h.2]; exact Nat.le_refl _
theorem wp_toks {α : Type} {M : Model} {Γ : Ctx} (t : Sem α) (n : Nat) (Q : α → Pos → Shared → Prop) (E : Value → Pos → Shared → Prop) (p : Pos) (s : Shared) (hn : n ≤ s.toks)
    (h : Sem.wp M Γ t (fun a p' s' => n ≤ s'.toks → Q a p' s') E p s) : Sem.wp M Γ t Q E p s := by
  induction t generalizing p s with
  | pure a => exact h hn
  | raise e => exact h
  | unsupported | finish | yield | fork | await | register => exact h
  | rule tag k ih => exact ih _ _ _ hn h
  | «at» p' k ih => exact ih _ _ _ hn h
  | load a part k ih => obtain ⟨o, ho, h⟩ := h; exact ⟨o, ho, ih _ _ _ hn h⟩
  | loadIfAlive a k ih => exact ih _ _ _ hn h
  | point l k ih => exact ih _ _ _ hn h
  | update a part f k ih => exact ⟨h.1, ih _ _ _ hn h.2⟩
  | alloc o k ih => exact ih _ _ _ hn h
  | fresh k ih => exact ih _ _ _ (Nat.le_trans hn (Nat.le_succ _)) h
  | ask k ih => exact ih _ _ _ hn h
  | choose src n k ih => exact ⟨h.1, ih _ _ _ hn h.2⟩
  | os q l k ih => exact ih _ _ _ hn h
  | call c hh g l k ih => obtain ⟨r, s1, h1, h2⟩ := h; exact ⟨r, s1, h1, ih _ _ _ (Nat.le_trans hn (runs_toks h1)) h2⟩
  | genState g k ih => obtain ⟨st, h1, h2⟩ := h; exact ⟨st, h1, ih _ _ _ hn h2⟩
  | handled own k ih => exact ih _ _ _ hn h
  | newGen c k ih => exact ih _ _ _ hn h
  | resume g r l k ih => obtain ⟨res, s1, h1, h2⟩ := h; exact ⟨res, s1, h1, ih _ _ _ (Nat.le_trans hn (wakes_toks h1)) h2⟩
  | stack k ih => exact ih _ _ _ hn h
  | thread k ih => exact ih _ _ _ hn h
theorem toks_up {α : Type} {M : Model} {A : Around} {t : Sem α} {Q : α → Shared → Prop} {E : Value → Shared → Prop} {s : Shared} (h : wpAny M A t (fun a s' => s.toks ≤ s'.toks → Q a s') E s) : wpAny M A t Q E s :=
  fun Γ p hΓ => wp_toks t s.toks _ _ p s (Nat.le_refl _) (h Γ p hΓ)
end Mine
end
section
open PySem PySem.W PySem.Calls PyProof.Rows
set_option maxRecDepth 100000
set_option linter.unusedVariables false
namespace Mine

inductive PV where
  | none
  | bool (b : Bool)
  | int (i : Int)
  | flt (x : UInt64)
  | str (s : Str)
  | tup (l : List PV)
  | lst (n : Nat)
  | ref (a : Addr)
  | bi (id : String)
  | ty (n : String)
  | rng (a b c : Int)
  deriving Inhabited

abbrev LS := List (List PV)
abbrev Loc := List (Str × PV)

/-- what is noted aside: where the lists lie, which float a token stands for -/
structure Gh where
  l : List Addr
  τ : Tok → Option UInt64
def Gh.add (am : Gh) (D : Addr) : Gh := ⟨am.l ++ [D], am.τ⟩
def Gh.tok (am : Gh) (t : Tok) (x : UInt64) : Gh := ⟨am.l, fun u => if u = t then some x else am.τ u⟩
structure Pre (am am' : Gh) : Prop where
  l : am.l <+: am'.l
  τ : ∀ t x, am.τ t = some x → am'.τ t = some x
theorem Pre.refl (am : Gh) : Pre am am := ⟨List.prefix_refl _, fun _ _ e => e⟩
theorem Pre.trans {a b c : Gh} (x : Pre a b) (y : Pre b c) : Pre a c := ⟨x.l.trans y.l, fun t v e => y.τ t v (x.τ t v e)⟩
theorem Pre.add (am : Gh) (D : Addr) : Pre am (am.add D) := ⟨⟨_, rfl⟩, fun _ _ e => e⟩
theorem Pre.tok (am : Gh) (t : Tok) (x : UInt64) (h : am.τ t = none) : Pre am (am.tok t x) := ⟨List.prefix_refl _, fun u y e => by
  by_cases q : u = t
  · subst q; rw [h] at e; cases e
  · show (if u = t then some x else am.τ u) = _
    rw [if_neg q]; exact e⟩
theorem Gh.tok_self (am : Gh) (t : Tok) (x : UInt64) : (am.tok t x).τ t = some x := by show (if t = t then some x else am.τ t) = _; rw [if_pos rfl]

mutual
inductive RV (am : Gh) (h : Heap) : PV → Value → Prop where
  | none : RV am h .none .none
  | bool (b : Bool) : RV am h (.bool b) (.bool b)
  | int (i : Int) (t : Tok) : RV am h (.int i) (.int i t)
  | flt (x : UInt64) (t : Tok) : am.τ t = some x → RV am h (.flt x) (.float x t)
  | str (s : Str) (t : Tok) : RV am h (.str s) (.str s t)
  | tup {l : List PV} {a : Addr} {vs : List Value} : h.IsTuple a vs.toArray → RVs am h l vs → RV am h (.tup l) (.ref a)
  | lst {n : Nat} {a : Addr} : am.l[n]? = some a → RV am h (.lst n) (.ref a)
  | ref (a : Addr) : RV am h (.ref a) (.ref a)
  | bi (id : String) : RV am h (.bi id) (.builtin id)
  | ty (n : String) : RV am h (.ty n) (.type n)
  | rng {a b c : Int} {x : Addr} {t u v : Tok} : IsRange h x a b c t u v → RV am h (.rng a b c) (.ref x)
inductive RVs (am : Gh) (h : Heap) : List PV → List Value → Prop where
  | nil : RVs am h [] []
  | cons {p : PV} {ps : List PV} {v : Value} {vs : List Value} : RV am h p v → RVs am h ps vs → RVs am h (p :: ps) (v :: vs)
end

/-- a list's object -/
def IsLst (o : Obj) : Prop := o.cls = .type "list" ∧ ∃ xs n, o.data = .seq xs n

/-- all that is no list stands as it stood -/
def Gr (h h' : Heap) : Prop := ∀ b o, h.get? b = some o → ¬ IsLst o → h'.get? b = some o
theorem Gr.refl (h : Heap) : Gr h h := fun _ _ e _ => e
theorem Gr.trans {a b c : Heap} (x : Gr a b) (y : Gr b c) : Gr a c := fun d o e n => y d o (x d o e n) n
theorem Gr.of_keeps {h h' : Heap} (k : ∀ b o, h.get? b = some o → h'.get? b = some o) : Gr h h' := fun b o e _ => k b o e
theorem Gr.push (h : Heap) (o : Obj) : Gr h (h.push o) := fun _ _ e _ => Heap.get?_push_of_some _ e

theorem not_lst_tuple {o : Obj} (h : o.cls = .type "tuple") : ¬ IsLst o := fun x => by
  have := x.1; rw [h] at this; exact absurd this (by decide)
theorem isTuple_gr {h h' : Heap} {a : Addr} {xs : Array Value} (x : h.IsTuple a xs) (g : Gr h h') : h'.IsTuple a xs := by
  obtain ⟨o, ho, hc, hd⟩ := x
  exact ⟨o, g a o ho (not_lst_tuple hc), hc, hd⟩
theorem isCell_gr {h h' : Heap} {a : Addr} {v : Option Value} (x : h.IsCell a v) (g : Gr h h') : h'.IsCell a v := by
  obtain ⟨o, ho, hd⟩ := x
  refine ⟨o, g a o ho (fun y => ?_), hd⟩
  obtain ⟨xs, n, e⟩ := y.2
  rw [hd] at e; cases e
theorem ns_gr {h h' : Heap} {a : Addr} {m : Str → Option Value} (x : h.Ns a m) (g : Gr h h') : h'.Ns a m := by
  obtain ⟨o, es, ep, ho, hd, r⟩ := x
  refine ⟨o, es, ep, g a o ho (fun y => ?_), hd, r⟩
  obtain ⟨xs, n, e⟩ := y.2
  rw [hd] at e; cases e

theorem prefix_get {am am' : Gh} (p : Pre am am') {n : Nat} {a : Addr} (h : am.l[n]? = some a) : am'.l[n]? = some a := by
  obtain ⟨am, _⟩ := am
  obtain ⟨am', _⟩ := am'
  obtain ⟨⟨t, ht⟩, _⟩ := p
  have ht : am ++ t = am' := ht
  subst ht
  rw [List.getElem?_append_left (List.getElem?_eq_some_iff.mp h).1]; exact h

/-- the values' own objects -/
def Val (o : Obj) : Prop := (o.cls = .type "tuple" ∧ ∃ xs n, o.data = .seq xs n) ∨ (o.cls = .type "range" ∧ ∃ vs, o.data = .fields vs)
def GrV (h h' : Heap) : Prop := ∀ b o, h.get? b = some o → Val o → h'.get? b = some o
theorem Gr.v {h h' : Heap} (g : Gr h h') : GrV h h' := fun b o e v => g b o e fun l => by
  rcases v with ⟨c, _⟩ | ⟨c, _⟩ <;> (have := l.1; rw [c] at this; exact absurd this (by decide))
mutual
theorem RV.monoV {am am' : Gh} {h h' : Heap} (p : Pre am am') (g : GrV h h') : ∀ {x : PV} {v : Value}, RV am h x v → RV am' h' x v
  | _, _, .none => .none
  | _, _, .bool b => .bool b
  | _, _, .int i t => .int i t
  | _, _, .flt i t z => .flt i t (p.τ t i z)
  | _, _, .str i t => .str i t
  | _, _, .tup ht hs => .tup (by
      obtain ⟨o, ho, hc, n, hd⟩ := ht
      exact ⟨o, g _ o ho (.inl ⟨hc, _, n, hd⟩), hc, n, hd⟩) (RVs.monoV p g hs)
  | _, _, .lst hn => .lst (prefix_get p hn)
  | _, _, .ref a => .ref a
  | _, _, .bi a => .bi a
  | _, _, .ty a => .ty a
  | _, _, .rng hr => .rng (g _ _ hr (.inr ⟨rfl, _, rfl⟩))
theorem RVs.monoV {am am' : Gh} {h h' : Heap} (p : Pre am am') (g : GrV h h') : ∀ {xs : List PV} {vs : List Value}, RVs am h xs vs → RVs am' h' xs vs
  | _, _, .nil => .nil
  | _, _, .cons a b => .cons (RV.monoV p g a) (RVs.monoV p g b)
end
theorem RV.mono {am am' : Gh} {h h' : Heap} (p : Pre am am') (g : Gr h h') {x : PV} {v : Value} (r : RV am h x v) : RV am' h' x v := r.monoV p g.v
theorem RVs.mono {am am' : Gh} {h h' : Heap} (p : Pre am am') (g : Gr h h') {xs : List PV} {vs : List Value} (r : RVs am h xs vs) : RVs am' h' xs vs := r.monoV p g.v
theorem RVs.length {am : Gh} {h : Heap} : ∀ {xs : List PV} {vs : List Value}, RVs am h xs vs → vs.length = xs.length
  | _, _, .nil => rfl
  | _, _, .cons _ b => congrArg (· + 1) (RVs.length b)
theorem RVs.get {am : Gh} {h : Heap} : ∀ {xs : List PV} {vs : List Value}, RVs am h xs vs → ∀ {i : Nat} {p : PV}, xs[i]? = some p → ∃ v, vs[i]? = some v ∧ RV am h p v
  | _, _, .nil, _, _, e => by simp at e
  | _, _, .cons a b, 0, _, e => by simp at e; subst e; exact ⟨_, rfl, a⟩
  | _, _, .cons a b, i + 1, _, e => by simp at e; simpa using RVs.get b e
theorem RVs.get' {am : Gh} {h : Heap} : ∀ {xs : List PV} {vs : List Value}, RVs am h xs vs → ∀ {i : Nat} {v : Value}, vs[i]? = some v → ∃ p, xs[i]? = some p ∧ RV am h p v
  | _, _, .nil, _, _, e => by simp at e
  | _, _, .cons a b, 0, _, e => by simp at e; subst e; exact ⟨_, rfl, a⟩
  | _, _, .cons a b, i + 1, _, e => by simp at e; simpa using RVs.get' b e
theorem RVs.append {am : Gh} {h : Heap} : ∀ {xs ys : List PV} {vs ws : List Value}, RVs am h xs vs → RVs am h ys ws → RVs am h (xs ++ ys) (vs ++ ws)
  | _, _, _, _, .nil, y => y
  | _, _, _, _, .cons a b, y => .cons a (RVs.append b y)
theorem RVs.take {am : Gh} {h : Heap} : ∀ {xs : List PV} {vs : List Value}, RVs am h xs vs → ∀ n, RVs am h (xs.take n) (vs.take n)
  | _, _, .nil, n => by simp; exact .nil
  | _, _, .cons a b, 0 => by simp; exact .nil
  | _, _, .cons a b, n + 1 => by simp; exact .cons a (RVs.take b n)
theorem RVs.drop {am : Gh} {h : Heap} : ∀ {xs : List PV} {vs : List Value}, RVs am h xs vs → ∀ n, RVs am h (xs.drop n) (vs.drop n)
  | _, _, .nil, n => by simp; exact .nil
  | _, _, .cons a b, 0 => by simp; exact .cons a b
  | _, _, .cons a b, n + 1 => by simp; exact RVs.drop b n

/-- what is fixed: the program, the world, the heap at the law's start, its globals and built-ins -/
structure Cx where
  prog : Program
  w : World
  hb : Heap
  mg : Str → Option Value
  mb : Str → Option Value
structure Cx.Ok (C : Cx) : Prop where
  lim : C.hb.NoLimit
  g : C.hb.Ns mainGlobals C.mg
  b : C.hb.Ns builtinsNs C.mb
  bk : NoneBooked C.hb

structure Rep (C : Cx) (am : Gh) (ls : LS) (h : Heap) (tk : Nat) : Prop where
  pos : 0 < tk
  tks : ∀ t x, am.τ t = some x → 0 < t ∧ t < tk
  old : ∀ b o, C.hb.get? b = some o → h.get? b = some o
  len : am.l.length = ls.length
  nd : am.l.Nodup
  new : ∀ a ∈ am.l, C.hb.get? a = none
  its : ∀ {i : Nat} {a : Addr} {l : List PV}, am.l[i]? = some a → ls[i]? = some l → ∃ vs, h.PlainList a vs.toArray ∧ RVs am h l vs

theorem Rep.list {C : Cx} {tk : Nat} {am : Gh} {ls : LS} {h : Heap} (R : Rep C am ls h tk) {n : Nat} {l : List PV} (e : ls[n]? = some l) : ∃ a vs, am.l[n]? = some a ∧ h.PlainList a vs.toArray ∧ RVs am h l vs := by
  have hn : n < am.l.length := by rw [R.len]; exact (List.getElem?_eq_some_iff.mp e).1
  have ha : am.l[n]? = some am.l[n] := by simp [hn]
  obtain ⟨vs, h1, h2⟩ := R.its ha e
  exact ⟨_, vs, ha, h1, h2⟩

/-- nothing of the lists is turned -/
theorem Rep.keeps {C : Cx} {tk : Nat} {am : Gh} {ls : LS} {h h' : Heap} (R : Rep C am ls h tk) (k : ∀ b o, h.get? b = some o → h'.get? b = some o) : Rep C am ls h' tk where
  pos := R.pos
  tks := R.tks
  old := fun b o e => k b o (R.old b o e)
  len := R.len
  nd := R.nd
  new := R.new
  its := fun ha hl => by
    obtain ⟨vs, ⟨n, ho⟩, q⟩ := R.its ha hl
    exact ⟨vs, ⟨n, k _ _ ho⟩, RVs.mono (Pre.refl _) (Gr.of_keeps k) q⟩
/-- objects that are neither lists of ours nor of the base nor values' own are turned -/
theorem Rep.change {C : Cx} {tk : Nat} {am : Gh} {ls : LS} {h h' : Heap} {X : Addr → Prop} (R : Rep C am ls h tk) (k : ∀ b o, ¬ X b → h.get? b = some o → h'.get? b = some o) (hL : ∀ b, X b → C.hb.get? b = none) (hn : ∀ b, X b → b ∉ am.l)
    (ht : ∀ b o, X b → h.get? b = some o → ¬ Val o) : Rep C am ls h' tk := by
  have g : GrV h h' := fun b o e v => k b o (fun x => ht b o x e v) e
  refine ⟨R.pos, R.tks, fun b o e => k b o (fun q => by rw [hL b q] at e; cases e) (R.old b o e), R.len, R.nd, R.new, fun {i a l} ha hl => ?_⟩
  obtain ⟨vs, ⟨n, ho⟩, q⟩ := R.its ha hl
  exact ⟨vs, ⟨n, k _ _ (fun e => hn a e (List.mem_of_getElem? ha)) ho⟩, q.monoV (Pre.refl _) g⟩
theorem isLst_of {h : Heap} {a : Addr} {xs : Array Value} {o : Obj} (x : h.PlainList a xs) (e : h.get? a = some o) : IsLst o := by
  obtain ⟨n, q⟩ := x
  rw [e] at q; cases q
  exact ⟨rfl, _, _, rfl⟩
/-- a list is changed -/
theorem Rep.put {C : Cx} {tk : Nat} {am : Gh} {ls : LS} {h h' : Heap} (R : Rep C am ls h tk) {n : Nat} {a : Addr} {l l' : List PV} {vs' : List Value} (ha : am.l[n]? = some a) (hn : ls[n]? = some l) (hs : ∀ b, b ≠ a → h'.get? b = h.get? b) (hl : h'.PlainList a vs'.toArray) (hv : RVs am h l' vs') : Rep C am (ls.set n l') h' tk ∧ Gr h h' := by
  obtain ⟨vs₀, hp₀, _⟩ := R.its ha hn
  have g : Gr h h' := fun b o e k => by
    by_cases q : b = a
    · subst q; exact absurd (isLst_of hp₀ e) k
    · rw [hs b q]; exact e
  refine ⟨⟨R.pos, R.tks, fun b o e => ?_, by rw [List.length_set]; exact R.len, R.nd, R.new, fun {i b m} hb hm => ?_⟩, g⟩
  · have : b ≠ a := fun q => by have := R.new a (List.mem_of_getElem? ha); rw [← q, e] at this; cases this
    rw [hs b this]; exact R.old b o e
  · by_cases q : i = n
    · subst q
      rw [ha] at hb; cases hb
      rw [List.getElem?_set_self (by exact (List.getElem?_eq_some_iff.mp hn).1)] at hm
      cases hm
      exact ⟨vs', hl, RVs.mono (Pre.refl _) g hv⟩
    · rw [List.getElem?_set_ne (Ne.symm q)] at hm
      obtain ⟨vs, ⟨k, hp⟩, hr⟩ := R.its hb hm
      have hne : b ≠ a := fun e => by
        subst e
        obtain ⟨h1, e1⟩ := List.getElem?_eq_some_iff.mp hb
        obtain ⟨h2, e2⟩ := List.getElem?_eq_some_iff.mp ha
        exact q ((List.getElem_inj R.nd).mp (e1.trans e2.symm))
      exact ⟨vs, ⟨k, by rw [hs b hne]; exact hp⟩, RVs.mono (Pre.refl _) g hr⟩
/-- a list is new -/
theorem Rep.more {C : Cx} {tk : Nat} {am : Gh} {ls : LS} {h h' : Heap} (R : Rep C am ls h tk) {D : Addr} {l : List PV} {vs : List Value} (hD : h.get? D = none) (k : ∀ b o, h.get? b = some o → h'.get? b = some o) (hl : h'.PlainList D vs.toArray) (hv : RVs am h l vs) : Rep C (am.add (D)) (ls ++ [l]) h' tk := by
  have g := Gr.of_keeps k
  have pf : Pre am (am.add D) := Pre.add am D
  refine ⟨R.pos, R.tks, fun b o e => k b o (R.old b o e), by show (am.l ++ [D]).length = _; simp [R.len], ?_, fun a ha => ?_, fun {i a m} ha hm => ?_⟩
  · refine List.nodup_append.mpr ⟨R.nd, by simp, fun a ha b hb e => ?_⟩
    have : b = D := by simpa using hb
    subst this; subst e
    obtain ⟨i, hi, e⟩ := List.getElem_of_mem ha
    have hi' : i < ls.length := by rw [← R.len]; exact hi
    obtain ⟨vs, ⟨_, hp⟩, _⟩ := R.its (i := i) (a := a) (l := ls[i]) (by simp [hi, e]) (by simp [hi'])
    rw [hD] at hp; cases hp
  · have ha : a ∈ am.l ++ [D] := ha
    rcases List.mem_append.mp ha with h1 | h1
    · exact R.new a h1
    · have : a = D := by simpa using h1
      subst this
      cases e : C.hb.get? a with
      | none => rfl
      | some o => rw [R.old a o e] at hD; cases hD
  · have ha : (am.l ++ [D])[i]? = some a := ha
    by_cases q : i < am.l.length
    · rw [List.getElem?_append_left q] at ha
      rw [List.getElem?_append_left (by rw [← R.len]; exact q)] at hm
      obtain ⟨vs, ⟨n, hp⟩, hr⟩ := R.its ha hm
      exact ⟨vs, ⟨n, k _ _ hp⟩, RVs.mono pf g hr⟩
    · have hi : i < (am.l ++ [D]).length := (List.getElem?_eq_some_iff.mp ha).1
      have : i = am.l.length := by simp at hi; omega
      subst this
      rw [List.getElem?_append_right (Nat.le_refl _)] at ha
      rw [R.len, List.getElem?_append_right (Nat.le_refl _)] at hm
      simp at ha hm
      subst ha hm
      exact ⟨vs, hl, RVs.mono pf g hv⟩
theorem Rep.up {C : Cx} {tk tk' : Nat} {am : Gh} {ls : LS} {h : Heap} (R : Rep C am ls h tk) (e : tk ≤ tk') : Rep C am ls h tk' := ⟨Nat.lt_of_lt_of_le R.pos e, fun t x z => ⟨(R.tks t x z).1, Nat.lt_of_lt_of_le (R.tks t x z).2 e⟩, R.old, R.len, R.nd, R.new, R.its⟩
/-- a new float -/
theorem Rep.free {C : Cx} {tk : Nat} {am : Gh} {ls : LS} {h : Heap} (R : Rep C am ls h tk) : am.τ tk = none := by
  cases e : am.τ tk with
  | none => rfl
  | some x => exact absurd (R.tks tk x e).2 (Nat.lt_irrefl _)
theorem Rep.tok {C : Cx} {tk : Nat} {am : Gh} {ls : LS} {h : Heap} (R : Rep C am ls h tk) (x : UInt64) : Rep C (am.tok tk x) ls h (tk + 1) :=
  ⟨Nat.succ_pos _, fun t y z => by
    by_cases q : t = tk
    · rw [q]; exact ⟨R.pos, Nat.lt_succ_self _⟩
    · have z' : (if t = tk then some x else am.τ t) = some y := z
      rw [if_neg q] at z'
      exact ⟨(R.tks t y z').1, Nat.lt_succ_of_lt (R.tks t y z').2⟩, R.old, R.len, R.nd, R.new, fun {i a l} ha hl => by
    obtain ⟨vs, h1, h2⟩ := R.its (i := i) (a := a) (l := l) ha hl
    exact ⟨vs, h1, h2.mono (Pre.tok am tk x R.free) (Gr.refl _)⟩⟩
theorem Rep.last {C : Cx} {tk : Nat} {am : Gh} {ls : LS} {h : Heap} (R : Rep C am ls h tk) (D : Addr) : (am.add D).l[ls.length]? = some D := by rw [← R.len]; show (am.l ++ [D])[am.l.length]? = some D; simp
theorem Rep.nz {C : Cx} {tk : Nat} {am : Gh} {ls : LS} {h : Heap} (R : Rep C am ls h tk) : tk ≠ 0 := Nat.ne_of_gt R.pos

structure Room (A : Around) (d : Nat) : Prop where
  hand : A.handled = none
  depth : A.depth + d < recursionLimit
  units : A.units + 16 * d + 64 < cLine

/-- the frame's names -/
structure Fm (C : Cx) (env : Env) (am : Gh) (h : Heap) (ρ : Loc) : Prop where
  kind : env.scope.kind = .function
  gl : env.globals = mainGlobals
  bl : env.builtins = builtinsNs
  fr : C.hb.get? env.locals = none
  frc : ∀ x c, env.cells.lookup x = some c → C.hb.get? c = none
  ns : ∃ m, h.Ns env.locals m ∧ ∀ x p, ρ.lookup x = some p → env.kindOf x = some .local → ∃ v, m x = some v ∧ RV am h p v
  cel : ∀ x p, ρ.lookup x = some p → env.kindOf x ≠ some .local → ∃ c v, env.cells.lookup x = some c ∧ h.IsCell c (some v) ∧ RV am h p v
  all : ∀ x c, env.cells.lookup x = some c → ∃ ov, h.IsCell c ov
  apart : ∀ x y c, env.cells.lookup x = some c → env.cells.lookup y = some c → x = y

theorem Fm.mono {C : Cx} {env : Env} {am am' : Gh} {h h' : Heap} {ρ : Loc} (F : Fm C env am h ρ) (p : Pre am am') (g : Gr h h') : Fm C env am' h' ρ where
  kind := F.kind
  gl := F.gl
  bl := F.bl
  fr := F.fr
  frc := F.frc
  ns := by
    obtain ⟨m, hn, hm⟩ := F.ns
    refine ⟨m, ns_gr hn g, fun x q e k => ?_⟩
    obtain ⟨v, hv, r⟩ := hm x q e k
    exact ⟨v, hv, r.mono p g⟩
  cel := fun x q e k => by
    obtain ⟨c, v, hc, hv, r⟩ := F.cel x q e k
    exact ⟨c, v, hc, isCell_gr hv g, r.mono p g⟩
  all := fun x c e => let ⟨ov, h⟩ := F.all x c e; ⟨ov, isCell_gr h g⟩
  apart := F.apart
theorem Fm.less {C : Cx} {env : Env} {am : Gh} {h : Heap} {ρ ρ' : Loc} (F : Fm C env am h ρ) (k : ∀ x p, ρ'.lookup x = some p → ρ.lookup x = some p) : Fm C env am h ρ' where
  kind := F.kind
  gl := F.gl
  bl := F.bl
  fr := F.fr
  frc := F.frc
  ns := by
    obtain ⟨m, hn, hm⟩ := F.ns
    exact ⟨m, hn, fun x q e => hm x q (k x q e)⟩
  cel := fun x q e => F.cel x q (k x q e)
  all := F.all
  apart := F.apart

/-- the frame's own: its names, the cells that it has laid (behind its names) -/
def ownOf (env : Env) (b : Addr) : Prop := b = env.locals ∨ (env.locals < b ∧ ∃ x, env.cells.lookup x = some b)
/-- all that is neither a list nor of this frame stands as it stood -/
def GrS (env : Env) (h h' : Heap) : Prop := ∀ b o, h.get? b = some o → ¬ IsLst o → ¬ ownOf env b → h'.get? b = some o
theorem GrS.refl (env : Env) (h : Heap) : GrS env h h := fun _ _ e _ _ => e
theorem GrS.trans {env : Env} {a b c : Heap} (x : GrS env a b) (y : GrS env b c) : GrS env a c := fun d o e n l => y d o (x d o e n l) n l
theorem Gr.s {env : Env} {h h' : Heap} (g : Gr h h') : GrS env h h' := fun b o e n _ => g b o e n

inductive PF where
  | next
  | ret (p : PV)
inductive RF (am : Gh) (h : Heap) : PF → Flow → Prop where
  | next : RF am h .next .next
  | ret {p : PV} {v : Value} : RV am h p v → RF am h (.ret p) (.ret v)

def ETo (C : Cx) (env : Env) (d : Nat) (t : Sem Value) (ρ : Loc) (ls : LS) (p : PV) (ls' : LS) : Prop :=
  ∀ (A : Around) (s : Shared) (am : Gh) (Q : Value → Shared → Prop) (E : Value → Shared → Prop), Room A d → Rep C am ls s.heap s.toks → Fm C env am s.heap ρ →
    (∀ v h' tk am', Pre am am' → Gr s.heap h' → Rep C am' ls' h' tk → RV am' h' p v → Q v { s with heap := h', toks := tk }) →
    wpAny (model C.prog C.w) A t Q E s
def BTo (C : Cx) (env : Env) (d : Nat) (t : Sem Bool) (ρ : Loc) (ls : LS) (b : Bool) (ls' : LS) : Prop :=
  ∀ (A : Around) (s : Shared) (am : Gh) (Q : Bool → Shared → Prop) (E : Value → Shared → Prop), Room A d → Rep C am ls s.heap s.toks → Fm C env am s.heap ρ →
    (∀ h' tk am', Pre am am' → Gr s.heap h' → Rep C am' ls' h' tk → Q b { s with heap := h', toks := tk }) →
    wpAny (model C.prog C.w) A t Q E s
def LTo (C : Cx) (env : Env) (d : Nat) (t : Sem (List Value)) (ρ : Loc) (ls : LS) (ps : List PV) (ls' : LS) : Prop :=
  ∀ (A : Around) (s : Shared) (am : Gh) (Q : List Value → Shared → Prop) (E : Value → Shared → Prop), Room A d → Rep C am ls s.heap s.toks → Fm C env am s.heap ρ →
    (∀ vs h' tk am', Pre am am' → Gr s.heap h' → Rep C am' ls' h' tk → RVs am' h' ps vs → Q vs { s with heap := h', toks := tk }) →
    wpAny (model C.prog C.w) A t Q E s
/-- a tree over one value at hand, over two, over several -/
def V1To (C : Cx) (d : Nat) (p : PV) (t : Value → Sem Value) (ls : LS) (r : PV) (ls' : LS) : Prop :=
  ∀ (A : Around) (s : Shared) (am : Gh) (a : Value) (Q : Value → Shared → Prop) (E : Value → Shared → Prop), Room A d → Rep C am ls s.heap s.toks → RV am s.heap p a →
    (∀ v h' tk am', Pre am am' → Gr s.heap h' → Rep C am' ls' h' tk → RV am' h' r v → Q v { s with heap := h', toks := tk }) →
    wpAny (model C.prog C.w) A (t a) Q E s
def V2To (C : Cx) (d : Nat) (p q : PV) (t : Value → Value → Sem Value) (ls : LS) (r : PV) (ls' : LS) : Prop :=
  ∀ (A : Around) (s : Shared) (am : Gh) (a b : Value) (Q : Value → Shared → Prop) (E : Value → Shared → Prop), Room A d → Rep C am ls s.heap s.toks → RV am s.heap p a → RV am s.heap q b →
    (∀ v h' tk am', Pre am am' → Gr s.heap h' → Rep C am' ls' h' tk → RV am' h' r v → Q v { s with heap := h', toks := tk }) →
    wpAny (model C.prog C.w) A (t a b) Q E s
/-- a call: the callee, what is handed by place and by name -/
inductive RKs (am : Gh) (h : Heap) : List (Str × PV) → List (Str × Value) → Prop where
  | nil : RKs am h [] []
  | cons {x : Str} {p : PV} {v : Value} {ps : List (Str × PV)} {vs : List (Str × Value)} : RV am h p v → RKs am h ps vs → RKs am h ((x, p) :: ps) ((x, v) :: vs)
def CTo (C : Cx) (d : Nat) (f : Value) (ps : List PV) (ks : List (Str × PV)) (ls : LS) (r : PV) (ls' : LS) : Prop :=
  ∀ (A : Around) (s : Shared) (am : Gh) (vs : List Value) (kv : List (Str × Value)) (Q : Value → Shared → Prop) (E : Value → Shared → Prop), Room A d → Rep C am ls s.heap s.toks → RVs am s.heap ps vs → RKs am s.heap ks kv →
    (∀ v h' tk am', Pre am am' → Gr s.heap h' → Rep C am' ls' h' tk → RV am' h' r v → Q v { s with heap := h', toks := tk }) →
    wpAny (model C.prog C.w) A (call f vs kv) Q E s
def XTo (C : Cx) (env : Env) (d : Nat) (t : Sem Flow) (ρ : Loc) (ls : LS) (f : PF) (ρ' : Loc) (ls' : LS) : Prop :=
  ∀ (A : Around) (s : Shared) (am : Gh) (Q : Flow → Shared → Prop) (E : Value → Shared → Prop), Room A d → Rep C am ls s.heap s.toks → Fm C env am s.heap ρ →
    (∀ fl h' tk am', Pre am am' → GrS env s.heap h' → Rep C am' ls' h' tk → Fm C env am' h' ρ' → RF am' h' f fl → Q fl { s with heap := h', toks := tk }) →
    wpAny (model C.prog C.w) A t Q E s

theorem ETo.of {C : Cx} {env : Env} {d : Nat} {t : Sem Value} {ρ : Loc} {ls : LS} {p : PV} {ls' : LS}
    (h : ∀ (A : Around) (s : Shared) (am : Gh) (Q : Value → Shared → Prop) (E : Value → Shared → Prop), Room A d → Rep C am ls s.heap s.toks → Fm C env am s.heap ρ →
      (∀ v h' tk am', Pre am am' → Gr s.heap h' → Rep C am' ls' h' s.toks → RV am' h' p v → Q v { s with heap := h', toks := tk }) → wpAny (model C.prog C.w) A t Q E s) : ETo C env d t ρ ls p ls' :=
  fun A s am Q E hr R F K => toks_up (h A s am _ E hr R F fun v h' tk am' p g R' hv hle => K v h' tk am' p g (R'.up hle) hv)
theorem BTo.of {C : Cx} {env : Env} {d : Nat} {t : Sem Bool} {ρ : Loc} {ls : LS} {b : Bool} {ls' : LS}
    (h : ∀ (A : Around) (s : Shared) (am : Gh) (Q : Bool → Shared → Prop) (E : Value → Shared → Prop), Room A d → Rep C am ls s.heap s.toks → Fm C env am s.heap ρ →
      (∀ h' tk am', Pre am am' → Gr s.heap h' → Rep C am' ls' h' s.toks → Q b { s with heap := h', toks := tk }) → wpAny (model C.prog C.w) A t Q E s) : BTo C env d t ρ ls b ls' :=
  fun A s am Q E hr R F K => toks_up (h A s am _ E hr R F fun h' tk am' p g R' hle => K h' tk am' p g (R'.up hle))
theorem V1To.of {C : Cx} {d : Nat} {p : PV} {t : Value → Sem Value} {ls : LS} {r : PV} {ls' : LS}
    (h : ∀ (A : Around) (s : Shared) (am : Gh) (a : Value) (Q : Value → Shared → Prop) (E : Value → Shared → Prop), Room A d → Rep C am ls s.heap s.toks → RV am s.heap p a →
      (∀ v h' tk am', Pre am am' → Gr s.heap h' → Rep C am' ls' h' s.toks → RV am' h' r v → Q v { s with heap := h', toks := tk }) → wpAny (model C.prog C.w) A (t a) Q E s) : V1To C d p t ls r ls' :=
  fun A s am a Q E hr R ha K => toks_up (h A s am a _ E hr R ha fun v h' tk am' p g R' hv hle => K v h' tk am' p g (R'.up hle) hv)
theorem V2To.of {C : Cx} {d : Nat} {p q : PV} {t : Value → Value → Sem Value} {ls : LS} {r : PV} {ls' : LS}
    (h : ∀ (A : Around) (s : Shared) (am : Gh) (a b : Value) (Q : Value → Shared → Prop) (E : Value → Shared → Prop), Room A d → Rep C am ls s.heap s.toks → RV am s.heap p a → RV am s.heap q b →
      (∀ v h' tk am', Pre am am' → Gr s.heap h' → Rep C am' ls' h' s.toks → RV am' h' r v → Q v { s with heap := h', toks := tk }) → wpAny (model C.prog C.w) A (t a b) Q E s) : V2To C d p q t ls r ls' :=
  fun A s am a b Q E hr R ha hb K => toks_up (h A s am a b _ E hr R ha hb fun v h' tk am' p g R' hv hle => K v h' tk am' p g (R'.up hle) hv)
theorem CTo.of {C : Cx} {d : Nat} {f : Value} {ps : List PV} {ks : List (Str × PV)} {ls : LS} {r : PV} {ls' : LS}
    (h : ∀ (A : Around) (s : Shared) (am : Gh) (vs : List Value) (kv : List (Str × Value)) (Q : Value → Shared → Prop) (E : Value → Shared → Prop), Room A d → Rep C am ls s.heap s.toks → RVs am s.heap ps vs → RKs am s.heap ks kv →
      (∀ v h' tk am', Pre am am' → Gr s.heap h' → Rep C am' ls' h' s.toks → RV am' h' r v → Q v { s with heap := h', toks := tk }) → wpAny (model C.prog C.w) A (call f vs kv) Q E s) : CTo C d f ps ks ls r ls' :=
  fun A s am vs kv Q E hr R hvs hkv K => toks_up (h A s am vs kv _ E hr R hvs hkv fun v h' tk am' p g R' hv hle => K v h' tk am' p g (R'.up hle) hv)
end Mine
end
section
open PySem PySem.W PySem.Calls PyProof.Rows
set_option maxRecDepth 100000
set_option linter.unusedVariables false
namespace Mine
section
variable {C : Cx} {env : Env} {d : Nat} {ρ : Loc} {ls ls1 ls2 ls3 : LS} {p q r : PV}

/-! constants, names -/
theorem e_int {i : Int} {k : Nat} {pos : Pos} : ETo C env d (eval (.Constant (.int i) k pos) env) ρ ls (.int i) ls :=
  .of fun A s am Q E hr R F K => wpAny_Constant_int (K _ s.heap _ am (Pre.refl _) (Gr.refl _) R (.int _ _))
theorem e_flt {x : UInt64} {k : Nat} {pos : Pos} : ETo C env d (eval (.Constant (.float x) k pos) env) ρ ls (.flt x) ls :=
  fun A s am Q E hr R F K => wpAny_Constant_float (K (.float _ s.toks) s.heap _ (am.tok s.toks _) (Pre.tok _ _ _ R.free) (Gr.refl _) (R.tok _) (.flt _ _ (am.tok_self _ _)))
theorem e_str {x : Str} {k : Nat} {pos : Pos} : ETo C env d (eval (.Constant (.str x) k pos) env) ρ ls (.str x) ls :=
  .of fun A s am Q E hr R F K => wpAny_Constant_str (K _ s.heap _ am (Pre.refl _) (Gr.refl _) R (.str _ _))
theorem e_none {k : Nat} {pos : Pos} : ETo C env d (eval (.Constant .none k pos) env) ρ ls .none ls :=
  .of fun A s am Q E hr R F K => wpAny_Constant_none (K _ s.heap s.toks am (Pre.refl _) (Gr.refl _) R .none)
theorem e_bool {b : Bool} {k : Nat} {pos : Pos} : ETo C env d (eval (.Constant (.bool b) k pos) env) ρ ls (.bool b) ls :=
  .of fun A s am Q E hr R F K => wpAny_Constant_bool (K _ s.heap s.toks am (Pre.refl _) (Gr.refl _) R (.bool b))

theorem e_name {x : Str} {pos : Pos} (hp : ρ.lookup x = some p) (hk : env.kindOf x = some .local) (hd : (x == ("__debug__" : Str)) = false) : ETo C env d (eval (.Name x pos) env) ρ ls p ls :=
  .of fun A s am Q E hr R F K => by
    obtain ⟨m, hn, hm⟩ := F.ns
    obtain ⟨v, hv, hr⟩ := hm x p hp hk
    exact wpAny_Name (wpAny_loadName_local F.kind hk hn hv (K _ s.heap s.toks am (Pre.refl _) (Gr.refl _) R hr)) hd
theorem e_cell {x : Str} {pos : Pos} (hp : ρ.lookup x = some p) (hk : env.kindOf x = some .cell) (hd : (x == ("__debug__" : Str)) = false) : ETo C env d (eval (.Name x pos) env) ρ ls p ls :=
  .of fun A s am Q E hr R F K => by
    obtain ⟨c, v, hc, hv, hr⟩ := F.cel x p hp (by rw [hk]; decide)
    exact wpAny_Name (wpAny_loadName_cell F.kind hk hc hv (K _ s.heap s.toks am (Pre.refl _) (Gr.refl _) R hr)) hd
theorem e_free {x : Str} {pos : Pos} (hp : ρ.lookup x = some p) (hk : env.kindOf x = some .free) (hd : (x == ("__debug__" : Str)) = false) (hd' : (x == ("__classdict__" : Str)) = false) : ETo C env d (eval (.Name x pos) env) ρ ls p ls :=
  .of fun A s am Q E hr R F K => by
    obtain ⟨c, v, hc, hv, hr⟩ := F.cel x p hp (by rw [hk]; decide)
    exact wpAny_Name (wpAny_loadName_free F.kind hk hc hv (K _ s.heap s.toks am (Pre.refl _) (Gr.refl _) R hr) hd') hd

/-! operators -/
theorem e_bin {l rr : Expr} {op : Operator} {pos : Pos} (hl : ETo C env d (eval l env) ρ ls p ls1) (hr : ETo C env d (eval rr env) ρ ls1 q ls2) (ho : V2To C d p q (binaryOp op) ls2 r ls3) :
    ETo C env d (eval (.BinOp l op rr pos) env) ρ ls r ls3 :=
  fun A s am Q E hroom R F K => wpAny_BinOp (hl A s am _ E hroom R F fun a h1 t1 am1 p1 g1 R1 v1 =>
    hr A _ am1 _ E hroom R1 (F.mono p1 g1) fun b h2 t2 am2 p2 g2 R2 v2 =>
      ho A _ am2 a b Q E hroom R2 (v1.mono p2 g2) v2 fun v h3 t3 am3 p3 g3 R3 v3 => K v h3 t3 am3 (p1.trans (p2.trans p3)) (g1.trans (g2.trans g3)) R3 v3)
theorem e_cmp {l rr : Expr} {op : CmpOp} {pos : Pos} (hl : ETo C env d (eval l env) ρ ls p ls1) (hr : ETo C env d (eval rr env) ρ ls1 q ls2) (ho : V2To C d p q (compareOp op) ls2 r ls3)
    (hm : behindInMarks op rr = false) : ETo C env d (eval (.Compare l [op] [rr] pos) env) ρ ls r ls3 :=
  fun A s am Q E hroom R F K => wpAny_Compare1 (hl A s am _ E hroom R F fun a h1 t1 am1 p1 g1 R1 v1 =>
    hr A _ am1 _ E hroom R1 (F.mono p1 g1) fun b h2 t2 am2 p2 g2 R2 v2 =>
      ho A _ am2 a b Q E hroom R2 (v1.mono p2 g2) v2 fun v h3 t3 am3 p3 g3 R3 v3 => K v h3 t3 am3 (p1.trans (p2.trans p3)) (g1.trans (g2.trans g3)) R3 v3) hm
theorem b_cmp {l rr : Expr} {op : CmpOp} {pos : Pos} {whole : Sem Value} {b : Bool} (hl : ETo C env d (eval l env) ρ ls p ls1) (hr : ETo C env d (eval rr env) ρ ls1 q ls2) (ho : V2To C d p q (compareOp op) ls2 (.bool b) ls3)
    (hm : behindInMarks op rr = false) : BTo C env d (isTrue (.Compare l [op] [rr] pos) env whole) ρ ls b ls3 :=
  fun A s am Q E hroom R F K => wpAny_isTrue_Compare1 (hl A s am _ E hroom R F fun a h1 t1 am1 p1 g1 R1 v1 =>
    hr A _ am1 _ E hroom R1 (F.mono p1 g1) fun b h2 t2 am2 p2 g2 R2 v2 =>
      ho A _ am2 a b _ E hroom R2 (v1.mono p2 g2) v2 fun v h3 t3 am3 p3 g3 R3 v3 => by
        cases v3
        exact wpAny_truthy_bool (K h3 t3 am3 (p1.trans (p2.trans p3)) (g1.trans (g2.trans g3)) R3)) hm

section
variable {a b : Int} {x y : UInt64} {u v : Str}
theorem o_add_int : V2To C d (.int a) (.int b) (binaryOp .Add) ls (.int (a + b)) ls := .of fun A s am _ _ Q E _ R ha hb K => by
  cases ha; cases hb; exact PyProof.Rows.add_int (K _ s.heap _ am (Pre.refl _) (Gr.refl _) R (.int _ _))
theorem o_sub_int : V2To C d (.int a) (.int b) (binaryOp .Sub) ls (.int (a - b)) ls := .of fun A s am _ _ Q E _ R ha hb K => by
  cases ha; cases hb; exact PyProof.Rows.sub_int (K _ s.heap _ am (Pre.refl _) (Gr.refl _) R (.int _ _))
theorem o_lt_int : V2To C d (.int a) (.int b) (compareOp .Lt) ls (.bool (decide (a < b))) ls := .of fun A s am _ _ Q E _ R ha hb K => by
  cases ha; cases hb; exact PyProof.Rows.lt_int (K _ s.heap s.toks am (Pre.refl _) (Gr.refl _) R (.bool _))
theorem o_gt_int : V2To C d (.int a) (.int b) (compareOp .Gt) ls (.bool (decide (b < a))) ls := .of fun A s am _ _ Q E _ R ha hb K => by
  cases ha; cases hb; exact PyProof.Rows.gt_int (K _ s.heap s.toks am (Pre.refl _) (Gr.refl _) R (.bool _))
theorem o_eq_int : V2To C d (.int a) (.int b) (compareOp .Eq) ls (.bool (a == b)) ls := .of fun A s am _ _ Q E _ R ha hb K => by
  cases ha; cases hb; exact PyProof.Rows.eq_int (K _ s.heap s.toks am (Pre.refl _) (Gr.refl _) R (.bool _))
theorem o_mod_int (h : b ≠ 0) : V2To C d (.int a) (.int b) (binaryOp .Mod) ls (.int (a.fmod b)) ls := .of fun A s am _ _ Q E _ R ha hb K => by
  cases ha; cases hb; exact PyProof.Rows.mod_int h (K _ s.heap _ am (Pre.refl _) (Gr.refl _) R (.int _ _))
theorem o_add_flt : V2To C d (.flt x) (.flt y) (binaryOp .Add) ls (.flt (Float64.add x y)) ls := fun A s am _ _ Q E _ R ha hb K => by
  cases ha; cases hb; exact PyProof.Rows.add_float (K (.float _ s.toks) s.heap _ (am.tok s.toks _) (Pre.tok _ _ _ R.free) (Gr.refl _) (R.tok _) (.flt _ _ (am.tok_self _ _)))
theorem o_sub_flt : V2To C d (.flt x) (.flt y) (binaryOp .Sub) ls (.flt (Float64.sub x y)) ls := fun A s am _ _ Q E _ R ha hb K => by
  cases ha; cases hb; exact PyProof.Rows.sub_float (K (.float _ s.toks) s.heap _ (am.tok s.toks _) (Pre.tok _ _ _ R.free) (Gr.refl _) (R.tok _) (.flt _ _ (am.tok_self _ _)))
theorem o_mul_flt : V2To C d (.flt x) (.flt y) (binaryOp .Mult) ls (.flt (Float64.mul x y)) ls := fun A s am _ _ Q E _ R ha hb K => by
  cases ha; cases hb; exact PyProof.Rows.mul_float (K (.float _ s.toks) s.heap _ (am.tok s.toks _) (Pre.tok _ _ _ R.free) (Gr.refl _) (R.tok _) (.flt _ _ (am.tok_self _ _)))
theorem o_div_flt (h : Float64.isZero y = false) : V2To C d (.flt x) (.flt y) (binaryOp .Div) ls (.flt (Float64.div x y)) ls := fun A s am _ _ Q E hr R ha hb K => by
  cases ha; cases hb
  exact PyProof.Rows.truediv_float_or hr.hand (fun e => absurd e (by rw [h]; decide)) (fun _ => K (.float _ s.toks) s.heap _ (am.tok s.toks _) (Pre.tok _ _ _ R.free) (Gr.refl _) (R.tok _) (.flt _ _ (am.tok_self _ _)))
end
end
end Mine
end
section
open PySem PySem.W PySem.Calls PyProof.Rows
set_option maxRecDepth 100000
set_option linter.unusedVariables false
namespace Mine
theorem not_val_dict {o : Obj} {es : Array DictEntry} {ep : Nat} (hd : o.data = .dict es ep) : ¬ Val o := fun v => by
  rcases v with ⟨_, xs, n, e⟩ | ⟨_, vs, e⟩ <;> (rw [hd] at e; cases e)
theorem not_val_cell {o : Obj} {ov : Option Value} (hd : o.data = .cell ov) : ¬ Val o := fun v => by
  rcases v with ⟨_, xs, n, e⟩ | ⟨_, vs, e⟩ <;> (rw [hd] at e; cases e)
theorem ns_not_val {h : Heap} {a : Addr} {m : Str → Option Value} {o : Obj} (x : h.Ns a m) (e : h.get? a = some o) : ¬ Val o := by
  obtain ⟨o', es, ep, ho', hd', _⟩ := x
  rw [e] at ho'; cases ho'; exact not_val_dict hd'
theorem cell_not_val {h : Heap} {a : Addr} {m : Option Value} {o : Obj} (x : h.IsCell a m) (e : h.get? a = some o) : ¬ Val o := by
  obtain ⟨o', ho', hd'⟩ := x
  rw [e] at ho'; cases ho'; exact not_val_cell hd'
theorem ns_not_list {h : Heap} {a : Addr} {m : Str → Option Value} {xs : Array Value} (x : h.Ns a m) : ¬ h.IsList a xs := fun ⟨o, ho, _, n, hd⟩ => by
  obtain ⟨o', es, ep, ho', hd', _⟩ := x
  rw [ho] at ho'; cases ho'; rw [hd] at hd'; cases hd'
theorem cell_not_list {h : Heap} {a : Addr} {m : Option Value} {xs : Array Value} (x : h.IsCell a m) : ¬ h.IsList a xs := fun ⟨o, ho, _, n, hd⟩ => by
  obtain ⟨o', ho', hd'⟩ := x
  rw [ho] at ho'; cases ho'; rw [hd] at hd'; cases hd'
theorem cell_ne_ns {h : Heap} {a b : Addr} {m : Option Value} {n : Str → Option Value} (x : h.IsCell a m) (y : h.Ns b n) : a ≠ b := by
  rintro rfl
  obtain ⟨o', ho', hd'⟩ := x
  obtain ⟨o, es, ep, ho, hd, _⟩ := y
  rw [ho] at ho'; cases ho'; rw [hd] at hd'; cases hd'
theorem Fm.own {C : Cx} {env : Env} {am : Gh} {h : Heap} {ρ : Loc} (F : Fm C env am h ρ) : ∀ b o, ownOf env b → h.get? b = some o → ¬ Val o := fun b o hb e => by
  rcases hb with rfl | ⟨_, x, hx⟩
  · obtain ⟨m, hn, _⟩ := F.ns
    exact ns_not_val hn e
  · obtain ⟨ov, hc⟩ := F.all x b hx
    exact cell_not_val hc e
theorem GrS.v {C : Cx} {env : Env} {am : Gh} {h h' : Heap} {ρ : Loc} (g : GrS env h h') (F : Fm C env am h ρ) : GrV h h' := fun b o e v =>
  g b o e (fun l => by rcases v with ⟨c, _⟩ | ⟨c, _⟩ <;> (have := l.1; rw [c] at this; exact absurd this (by decide))) (fun q => F.own b o q e v)
theorem RV.monoS {C : Cx} {env : Env} {am am' : Gh} {h h' : Heap} {ρ : Loc} {x : PV} {v : Value} (r : RV am h x v) (p : Pre am am') (F : Fm C env am h ρ) (g : GrS env h h') : RV am' h' x v := r.monoV p (g.v F)

def pset : Loc → Str → PV → Loc
  | [], x, p => [(x, p)]
  | (y, q) :: r, x, p => if x == y then (y, p) :: r else (y, q) :: pset r x p
theorem lookup_pset : ∀ (ρ : Loc) (x : Str) (p : PV) (z : Str), (pset ρ x p).lookup z = if z = x then some p else ρ.lookup z
  | [], x, p, z => by
    simp only [pset, List.lookup_cons, List.lookup_nil]
    by_cases h : z = x
    · subst h; simp
    · have : (z == x) = false := by simpa using h
      simp [h, this]
  | (y, q) :: r, x, p, z => by
    unfold pset
    by_cases hxy : x = y
    · subst hxy
      rw [if_pos (by simp)]
      simp only [List.lookup_cons]
      by_cases h : z = x
      · subst h; simp
      · have : (z == x) = false := by simpa using h
        simp [h, this]
    · rw [if_neg (by simpa using hxy)]
      simp only [List.lookup_cons]
      by_cases h : z = y
      · subst h
        have : ¬ z = x := fun e => hxy e.symm
        simp [this]
      · have : (z == y) = false := by simpa using h
        simp only [this]
        exact lookup_pset r x p z

section
variable {C : Cx} {env : Env} {d : Nat} {ρ ρ1 ρ2 : Loc} {ls ls1 ls2 ls3 : LS} {p q r : PV} {f : PF}

theorem Rep.not_am {am : Gh} {h : Heap} {tk : Nat} (R : Rep C am ls h tk) {L : Addr} (hn : ∀ xs, ¬ h.IsList L xs) : L ∉ am.l := fun hm => by
  obtain ⟨i, hi, e⟩ := List.getElem_of_mem hm
  have hi' : i < ls.length := by rw [← R.len]; exact hi
  obtain ⟨vs, hl, _⟩ := R.its (i := i) (a := L) (l := ls[i]) (by simp [hi, e]) (by simp [hi'])
  exact hn _ hl.isList

/-- a name is bound -/
theorem st_local {x : Str} {v : Value} {A : Around} {s : Shared} {am : Gh} {Q : Unit → Shared → Prop} {E : Value → Shared → Prop} (R : Rep C am ls s.heap s.toks) (F : Fm C env am s.heap ρ) (hv : RV am s.heap p v)
    (hk : env.kindOf x = some .local) (K : ∀ h' tk, GrS env s.heap h' → Rep C am ls h' tk → Fm C env am h' (pset ρ x p) → Q () { s with heap := h', toks := tk }) :
    wpAny (model C.prog C.w) A (storeName env x v) Q E s := by
  obtain ⟨m, hn, hm⟩ := F.ns
  refine wpAny_storeName_local hk hn (fun h' hn' hs => ?_) (by rw [F.kind]; rfl)
  have g : GrS env s.heap h' := fun b o e _ hb => (hs.2 b fun q => hb (.inl q)).trans e
  have R' : Rep C am ls h' s.toks := R.change (X := fun b => b = env.locals) (fun b o hb e => (hs.2 b hb).trans e) (fun b q => by rw [q]; exact F.fr) (fun b q => by rw [q]; exact R.not_am fun xs => ns_not_list hn) fun b o q e => by rw [q] at e; exact ns_not_val hn e
  have mo : ∀ {y : PV} {u : Value}, RV am s.heap y u → RV am h' y u := fun r => r.monoS (Pre.refl _) F g
  refine K h' _ g (R'.up (Nat.le_succ _)) ⟨F.kind, F.gl, F.bl, F.fr, F.frc, ⟨_, hn', fun z q e hz => ?_⟩, fun z q e hz => ?_, fun z c e => ?_, F.apart⟩
  · rw [lookup_pset] at e
    by_cases h : z = x
    · subst h; simp at e; subst e
      exact ⟨v, by simp, mo hv⟩
    · rw [if_neg h] at e
      obtain ⟨u, hu, ru⟩ := hm z q e hz
      exact ⟨u, by simp [h, hu], mo ru⟩
  · rw [lookup_pset] at e
    by_cases h : z = x
    · subst h; exact absurd hk hz
    · rw [if_neg h] at e
      obtain ⟨c, u, hc, hu, ru⟩ := F.cel z q e hz
      exact ⟨c, u, hc, hu.sameBut hs (cell_ne_ns hu hn), mo ru⟩
  · obtain ⟨ov, ho⟩ := F.all z c e
    exact ⟨ov, ho.sameBut hs (cell_ne_ns ho hn)⟩
theorem st_cell {x : Str} {c : Addr} {v : Value} {A : Around} {s : Shared} {am : Gh} {Q : Unit → Shared → Prop} {E : Value → Shared → Prop} (R : Rep C am ls s.heap s.toks) (F : Fm C env am s.heap ρ) (hv : RV am s.heap p v)
    (hk : env.kindOf x = some .cell) (hc : env.cells.lookup x = some c) (hlt : env.locals < c) (K : ∀ h' tk, GrS env s.heap h' → Rep C am ls h' tk → Fm C env am h' (pset ρ x p) → Q () { s with heap := h', toks := tk }) :
    wpAny (model C.prog C.w) A (storeName env x v) Q E s := by
  obtain ⟨m, hn, hm⟩ := F.ns
  obtain ⟨ov, hcell⟩ := F.all x c hc
  refine wpAny_storeName_cell F.kind hk hc hcell (fun h' hc' hs => ?_)
  have g : GrS env s.heap h' := fun b o e _ hb => (hs.2 b (fun q => hb (.inr ⟨by rw [q]; exact hlt, x, by rw [q]; exact hc⟩))).trans e
  have R' : Rep C am ls h' s.toks := R.change (X := fun b => b = c) (fun b o hb e => (hs.2 b hb).trans e) (fun b q => by rw [q]; exact F.frc x c hc) (fun b q => by rw [q]; exact R.not_am fun xs => cell_not_list hcell) fun b o q e => by rw [q] at e; exact cell_not_val hcell e
  have mo : ∀ {y : PV} {u : Value}, RV am s.heap y u → RV am h' y u := fun r => r.monoS (Pre.refl _) F g
  have hL : env.locals ≠ c := fun e => cell_ne_ns hcell (by rw [e] at hn; exact hn) rfl
  refine K h' s.toks g R' ⟨F.kind, F.gl, F.bl, F.fr, F.frc, ⟨m, hn.sameBut hs hL, fun z q e hz => ?_⟩, fun z q e hz => ?_, fun z c' e => ?_, F.apart⟩
  · rw [lookup_pset] at e
    by_cases h : z = x
    · subst h; rw [hk] at hz; exact absurd hz (by decide)
    · rw [if_neg h] at e
      obtain ⟨u, hu, ru⟩ := hm z q e hz
      exact ⟨u, hu, mo ru⟩
  · rw [lookup_pset] at e
    by_cases h : z = x
    · subst h; simp at e; subst e
      exact ⟨c, v, hc, hc', mo hv⟩
    · rw [if_neg h] at e
      obtain ⟨c₂, u, hc₂, hu, ru⟩ := F.cel z q e hz
      exact ⟨c₂, u, hc₂, hu.sameBut hs (fun q => h (F.apart z x c (by rw [← q]; exact hc₂) hc)), mo ru⟩
  · by_cases h : c' = c
    · subst h; exact ⟨_, hc'⟩
    · obtain ⟨ov', ho⟩ := F.all z c' e
      exact ⟨ov', ho.sameBut hs h⟩

theorem x_nil : XTo C env d (execs [] env) ρ ls .next ρ ls := fun A s am Q E hr R F K =>
  wpAny_execs_nil (K _ s.heap s.toks am (Pre.refl _) (GrS.refl _ _) R F .next)
theorem x_cons {st : Stmt} {rest : List Stmt} (h1 : XTo C env d (exec st env) ρ ls .next ρ1 ls1) (h2 : XTo C env d (execs rest env) ρ1 ls1 f ρ2 ls2) : XTo C env d (execs (st :: rest) env) ρ ls f ρ2 ls2 :=
  fun A s am Q E hr R F K => wpAny_execs_cons (h1 A s am _ E hr R F fun fl h' tk am' p1 g1 R1 F1 rf => by
    cases rf
    exact h2 A _ am' Q E hr R1 F1 fun fl2 h2 tk2 am2 p2 g2 R2 F2 rf2 => K fl2 h2 tk2 am2 (p1.trans p2) (g1.trans g2) R2 F2 rf2)
theorem x_ret {st : Stmt} {rest : List Stmt} (h1 : XTo C env d (exec st env) ρ ls (.ret p) ρ1 ls1) : XTo C env d (execs (st :: rest) env) ρ ls (.ret p) ρ1 ls1 :=
  fun A s am Q E hr R F K => wpAny_execs_cons (h1 A s am _ E hr R F fun fl h' tk am' p1 g1 R1 F1 rf => by
    cases rf with
    | ret hv => exact K _ h' tk am' p1 g1 R1 F1 (.ret hv))
theorem x_return {e : Expr} {pos : Pos} (h : ETo C env d (eval e env) ρ ls p ls1) : XTo C env d (exec (.Return (some e) pos) env) ρ ls (.ret p) ρ ls1 :=
  fun A s am Q E hr R F K => wpAny_Return_some (h A s am _ E hr R F fun v h' tk am' p1 g1 R1 hv => K _ h' tk am' p1 g1.s R1 (F.mono p1 g1) (.ret hv))
theorem x_assign {x : Str} {pos' pos : Pos} {e : Expr} (h : ETo C env d (eval e env) ρ ls p ls1) (hk : env.kindOf x = some .local) (hs : swapsWith e (some (.Name x pos')) pos.line env = pure false) :
    XTo C env d (exec (.Assign [.Name x pos'] e pos) env) ρ ls .next (pset ρ x p) ls1 :=
  fun A s am Q E hr R F K => wpAny_Assign_Name (h A s am _ E hr R F fun v h' tk am' p1 g1 R1 hv =>
    st_local R1 (F.mono p1 g1) hv hk fun h2 tk2 g2 R2 F2 => K _ h2 tk2 am' p1 (g1.s.trans g2) R2 F2 .next) hs
theorem x_assignC {x : Str} {c : Addr} {pos' pos : Pos} {e : Expr} (h : ETo C env d (eval e env) ρ ls p ls1) (hk : env.kindOf x = some .cell) (hc : env.cells.lookup x = some c) (hlt : env.locals < c) (hs : swapsWith e (some (.Name x pos')) pos.line env = pure false) :
    XTo C env d (exec (.Assign [.Name x pos'] e pos) env) ρ ls .next (pset ρ x p) ls1 :=
  fun A s am Q E hr R F K => wpAny_Assign_Name (h A s am _ E hr R F fun v h' tk am' p1 g1 R1 hv =>
    st_cell R1 (F.mono p1 g1) hv hk hc hlt fun h2 tk2 g2 R2 F2 => K _ h2 tk2 am' p1 (g1.s.trans g2) R2 F2 .next) hs
/-- a test, then the rest behind either arm -/
theorem x_if {t : Expr} {body orelse : List Stmt} {pos : Pos} {b : Bool} (ht : BTo C env d (isTrue t env (eval t env)) ρ ls b ls1)
    (h1 : b = true → XTo C env d (execs body env) ρ ls1 f ρ1 ls2) (h2 : b = false → XTo C env d (execs orelse env) ρ ls1 f ρ1 ls2) : XTo C env d (exec (.If t body orelse pos) env) ρ ls f ρ1 ls2 :=
  fun A s am Q E hr R F K => wpAny_If (ht A s am _ E hr R F fun h' tk am' p1 g1 R1 => by
    cases b with
    | true => exact h1 rfl A _ am' Q E hr R1 (F.mono p1 g1) fun fl h2 tk2 am2 p2 g2 R2 F2 rf => K fl h2 tk2 am2 (p1.trans p2) (g1.s.trans g2) R2 F2 rf
    | false => exact h2 rfl A _ am' Q E hr R1 (F.mono p1 g1) fun fl h2 tk2 am2 p2 g2 R2 F2 rf => K fl h2 tk2 am2 (p1.trans p2) (g1.s.trans g2) R2 F2 rf)
end
end Mine
end
section
open PySem PySem.W PySem.Calls PyProof.Rows
set_option maxRecDepth 100000
set_option linter.unusedVariables false
namespace Mine
/-- a def's body: what it hands back -/
def valOf : Flow → Value
  | .ret v => v
  | _ => .none
def RTo (C : Cx) (env : Env) (d : Nat) (t : Sem Flow) (ρ : Loc) (ls : LS) (p : PV) (ls' : LS) : Prop :=
  ∀ (A : Around) (s : Shared) (am : Gh) (Q : Flow → Shared → Prop) (E : Value → Shared → Prop), Room A d → Rep C am ls s.heap s.toks → Fm C env am s.heap ρ →
    (∀ fl h' tk am', Pre am am' → GrS env s.heap h' → Rep C am' ls' h' tk → RV am' h' p (valOf fl) → Q fl { s with heap := h', toks := tk }) →
    wpAny (model C.prog C.w) A t Q E s

theorem RKs.mono {am am' : Gh} {h h' : Heap} (p : Pre am am') (g : Gr h h') : ∀ {xs : List (Str × PV)} {vs : List (Str × Value)}, RKs am h xs vs → RKs am' h' xs vs
  | _, _, .nil => .nil
  | _, _, .cons a b => .cons (a.mono p g) (RKs.mono p g b)
theorem RKs.names {am : Gh} {h : Heap} : ∀ {xs : List (Str × PV)} {vs : List (Str × Value)}, RKs am h xs vs → vs.map (·.1) = xs.map (·.1)
  | _, _, .nil => rfl
  | _, _, .cons _ b => by simp [RKs.names b]
theorem RKs.look {am : Gh} {h : Heap} : ∀ {xs : List (Str × PV)} {vs : List (Str × Value)}, RKs am h xs vs → ∀ {x : Str} {p : PV}, xs.lookup x = some p → ∃ v, vs.lookup x = some v ∧ RV am h p v
  | _, _, .nil, _, _, e => by simp at e
  | (y, q) :: _, _, .cons a b, x, p, e => by
    rw [List.lookup_cons] at e ⊢
    cases hb : x == y with
    | true => rw [hb] at e; cases e; exact ⟨_, rfl, a⟩
    | false => rw [hb] at e; exact RKs.look b e
theorem RKs.mem {am : Gh} {h : Heap} : ∀ {xs : List (Str × PV)} {vs : List (Str × Value)}, RKs am h xs vs → ∀ {x : Str} {v : Value}, (x, v) ∈ vs → x ∈ xs.map (·.1)
  | _, _, .nil, _, _, e => nomatch e
  | _, _, .cons a b, x, v, e => by
    rcases List.mem_cons.mp e with e | e
    · cases e; simp
    · simp only [List.map_cons, List.mem_cons]; exact .inr (RKs.mem b e)
theorem RKs.zip {am : Gh} {h : Heap} : ∀ {xs : List Str} {ps : List PV} {vs : List Value}, RVs am h ps vs → RKs am h (xs.zip ps) (xs.zip vs)
  | [], _, _, _ => .nil
  | _ :: _, _, _, .nil => .nil
  | _ :: _, _, _, .cons a b => .cons a (RKs.zip b)

theorem bindL_off (k : Str → Option NameKind) : ∀ (bs : List (Str × Value)) (m : Str → Option Value) (x : Str), x ∉ bs.map (·.1) → bindL k bs m x = m x
  | [], m, x, _ => rfl
  | (n, v) :: r, m, x, h => by
    simp only [List.map_cons, List.mem_cons, not_or] at h
    unfold bindL
    rw [bindL_off k r _ x h.2]
    split
    · simp [h.1]
    · rfl
theorem bindL_look (k : Str → Option NameKind) : ∀ (bs : List (Str × Value)) (m : Str → Option Value) (x : Str) (v : Value), (bs.map (·.1)).Nodup → bs.lookup x = some v → k x = some .local → bindL k bs m x = some v
  | [], m, x, v, _, h, _ => by simp at h
  | (n, u) :: r, m, x, v, hn, h, hk => by
    simp only [List.map_cons, List.nodup_cons] at hn
    rw [List.lookup_cons] at h
    unfold bindL
    cases hb : x == n with
    | true =>
      rw [hb] at h; cases h
      have e : x = n := by simpa using hb
      subst e
      rw [bindL_off k r _ x hn.1, if_pos hk]; simp
    | false => rw [hb] at h; exact bindL_look k r _ x v hn.2 h hk
theorem bindC_off (k : Str → Option NameKind) : ∀ (bs : List (Str × Value)) (m : Str → Option Value) (x : Str), x ∉ bs.map (·.1) → bindC k bs m x = m x
  | [], m, x, _ => rfl
  | (n, v) :: r, m, x, h => by
    simp only [List.map_cons, List.mem_cons, not_or] at h
    unfold bindC
    rw [bindC_off k r _ x h.2]
    split
    · rfl
    · simp [h.1]
theorem bindC_look (k : Str → Option NameKind) : ∀ (bs : List (Str × Value)) (m : Str → Option Value) (x : Str) (v : Value), (bs.map (·.1)).Nodup → bs.lookup x = some v → k x ≠ some .local → bindC k bs m x = some v
  | [], m, x, v, _, h, _ => by simp at h
  | (n, u) :: r, m, x, v, hn, h, hk => by
    simp only [List.map_cons, List.nodup_cons] at hn
    rw [List.lookup_cons] at h
    unfold bindC
    cases hb : x == n with
    | true =>
      rw [hb] at h; cases h
      have e : x = n := by simpa using hb
      subst e
      rw [bindC_off k r _ x hn.1, if_neg hk]; simp
    | false => rw [hb] at h; exact bindC_look k r _ x v hn.2 h hk

theorem Rep.fresh {C : Cx} {am : Gh} {ls : LS} {h : Heap} {tk : Nat} (R : Rep C am ls h tk) {a : Addr} (ha : h.objs.size ≤ a) : C.hb.get? a = none := by
  cases e : C.hb.get? a with
  | none => rfl
  | some o => exact absurd (Heap.lt_size (R.old a o e)) (Nat.not_lt.mpr ha)
theorem Room.less {A : Around} {d e : Nat} (r : Room A d) (h : e ≤ d) : Room A e := ⟨r.hand, by have := r.depth; omega, by have := r.units; omega⟩
theorem Room.deeper {A : Around} {d : Nat} (r : Room A (d + 1)) (env : Env) : Room (A.deeper env) d :=
  ⟨r.hand, by show A.depth + 1 + d < recursionLimit; have := r.depth; omega, by show A.units + 3 + 16 * d + 64 < cLine; have := r.units; omega⟩

section
variable {C : Cx} {env : Env} {d : Nat} {ρ ρ1 ρ2 : Loc} {ls ls1 ls2 ls3 : LS} {p q r : PV} {f : PF}

theorem r_nil : RTo C env d (execs [] env) ρ ls .none ls := fun A s am Q E hr R F K =>
  wpAny_execs_nil (K _ s.heap s.toks am (Pre.refl _) (GrS.refl _ _) R .none)
theorem r_cons {st : Stmt} {rest : List Stmt} (h1 : XTo C env d (exec st env) ρ ls .next ρ1 ls1) (h2 : RTo C env d (execs rest env) ρ1 ls1 p ls2) : RTo C env d (execs (st :: rest) env) ρ ls p ls2 :=
  fun A s am Q E hr R F K => wpAny_execs_cons (h1 A s am _ E hr R F fun fl h' tk am' p1 g1 R1 F1 rf => by
    cases rf
    exact h2 A _ am' Q E hr R1 F1 fun fl2 h2 tk2 am2 p2 g2 R2 rf2 => K fl2 h2 tk2 am2 (p1.trans p2) (g1.trans g2) R2 rf2)
theorem r_xret {st : Stmt} {rest : List Stmt} (h1 : XTo C env d (exec st env) ρ ls (.ret p) ρ1 ls1) : RTo C env d (execs (st :: rest) env) ρ ls p ls1 :=
  fun A s am Q E hr R F K => wpAny_execs_cons (h1 A s am _ E hr R F fun fl h' tk am' p1 g1 R1 F1 rf => by
    cases rf with
    | ret hv => exact K _ h' tk am' p1 g1 R1 hv)
theorem r_return {e : Expr} {pos : Pos} {rest : List Stmt} (h : ETo C env d (eval e env) ρ ls p ls1) : RTo C env d (execs (.Return (some e) pos :: rest) env) ρ ls p ls1 := r_xret (x_return h)
/-- an if whose arm returns -/
theorem r_if {t : Expr} {body rest : List Stmt} {pos : Pos} {b : Bool} (ht : BTo C env d (isTrue t env (eval t env)) ρ ls b ls1)
    (h1 : b = true → XTo C env d (execs body env) ρ ls1 (.ret p) ρ1 ls2) (h2 : b = false → RTo C env d (execs rest env) ρ ls1 p ls2) : RTo C env d (execs (.If t body [] pos :: rest) env) ρ ls p ls2 :=
  fun A s am Q E hr R F K => wpAny_execs_cons (wpAny_If (ht A s am _ E hr R F fun h' tk am' p1 g1 R1 => by
    cases b with
    | true =>
      refine h1 rfl A _ am' _ E hr R1 (F.mono p1 g1) fun fl h2 tk2 am2 p2 g2 R2 F2 rf => ?_
      cases rf with
      | ret hv => exact K _ h2 tk2 am2 (p1.trans p2) (g1.s.trans g2) R2 hv
    | false => exact wpAny_execs_nil (h2 rfl A _ am' Q E hr R1 (F.mono p1 g1) fun fl h2 tk2 am2 p2 g2 R2 rf => K fl h2 tk2 am2 (p1.trans p2) (g1.s.trans g2) R2 rf)))
theorem RTo.less {t : Sem Flow} {ρ' : Loc} (h : RTo C env d t ρ' ls p ls1) (k : ∀ x p, ρ'.lookup x = some p → ρ.lookup x = some p) : RTo C env d t ρ ls p ls1 :=
  fun A s am Q E hr R F K => h A s am Q E hr R (F.less k) K

/-- a def called by place: its cells (if any) are laid -/
theorem c_def {fa : Addr} {o : Obj} {fd : FuncData} {body : List Stmt} {ps : List PV} {xs : List Str} (ok : C.Ok)
    (ho : C.hb.get? fa = some o) (hdat : o.data = .func fd) (hcd : C.hb.CodeRec fd.code fd.qualname) (hbody : fd.body = .stmts body)
    (hbind : ∀ vs : List Value, vs.length = ps.length → bindArgs fd ⟨vs, []⟩ = pure (xs.zip vs)) (hlen : xs.length = ps.length)
    (hkind : ∀ L, xs.all (fun x => fd.scope.names.lookup x == some .local || (fd.scope.names.lookup x == some .cell && ((cellsFrom (L + 1) fd.scope.names []).lookup x).isSome)) = true)
    (hnd : xs.Nodup) (hclo : fd.closure = []) (hgl : fd.globals = mainGlobals) (hbl : fd.builtins = builtinsNs)
    (h : ∀ L, RTo C (callEnvC fd L fa) d (execs body (callEnvC fd L fa)) (xs.zip ps) ls p ls1)
    (hco : fd.scope.isCoroutine = false := by rfl) (hgen : fd.scope.isGenerator = false := by rfl) (hk : fd.scope.kind = .function := by rfl) :
    CTo C (d + 1) (.ref fa) ps [] ls p ls1 := by
  intro A s am vs kv Q E hr R hvs hkv K
  cases hkv
  have hl := hvs.length
  refine wpAny_call ?_
  have keep := R.old
  refine codeAny_call_function (by have := hr.depth; omega) (keep _ _ ho) hdat hco hgen hbody (hcd.keeps keep) ?_
  rw [hbind vs hl, hclo]
  refine wpAny_pure (toks_up (wpAny_newFunctionEnv_cells hk ?_ fun env he s₁ X hle => ?_))
  · intro x hx
    have hm : x.1 ∈ xs := (List.of_mem_zip hx).1
    have := List.all_eq_true.mp (hkind s.heap.objs.size) x.1 hm
    simp only [Bool.or_eq_true, Bool.and_eq_true, beq_iff_eq] at this
    exact this
  · subst he
    refine ⟨(ok.lim.keeps keep).keeps X.toInCall.keep, codeAny_func ?_⟩
    change InCallC s (callEnvC fd s.heap.objs.size fa).locals (bindL (callEnvC fd s.heap.objs.size fa).kindOf (xs.zip vs) fun _ => none) (callEnvC fd s.heap.objs.size fa).cells (bindC (callEnvC fd s.heap.objs.size fa).kindOf (xs.zip vs) fun _ => none) s₁ at X
    obtain ⟨h', tk, rfl⟩ := X.toInCall.same
    have R1 : Rep C am ls h' tk := (R.keeps X.toInCall.keep).up hle
    have rk : RKs am h' (xs.zip ps) (xs.zip vs) := RKs.zip (RVs.mono (Pre.refl _) (Gr.of_keeps X.toInCall.keep) hvs)
    have hnm : (xs.zip vs).map (·.1) = xs := by rw [List.map_fst_zip]; omega
    have F1 : Fm C (callEnvC fd s.heap.objs.size fa) am h' (xs.zip ps) := by
      refine ⟨hk, hgl, hbl, R.fresh (Nat.le_refl _), fun x c e => R.fresh ?_, ⟨_, X.toInCall.ns, fun x q e hx => ?_⟩, fun x q e hx => ?_, fun x c e => ?_, fun x y c e e' => ?_⟩
      · exact Nat.le_of_lt (X.above x c (mem_of_lookup e))
      · obtain ⟨v, hv, rv⟩ := rk.look e
        exact ⟨v, bindL_look _ _ _ _ _ (by rw [hnm]; exact hnd) hv hx, rv⟩
      · obtain ⟨v, hv, rv⟩ := rk.look e
        have hm : x ∈ xs := by
          have := mem_of_lookup hv
          exact (List.of_mem_zip this).1
        have hz := List.all_eq_true.mp (hkind s.heap.objs.size) x hm
        simp only [Bool.or_eq_true, Bool.and_eq_true, beq_iff_eq] at hz
        rcases hz with hz | ⟨_, hz⟩
        · exact absurd hz hx
        · obtain ⟨c, hc⟩ := Option.isSome_iff_exists.mp hz
          refine ⟨c, v, hc, ?_, rv⟩
          have := X.cell x c hc
          rwa [bindC_look _ _ _ _ _ (by rw [hnm]; exact hnd) hv hx] at this
      · exact ⟨_, X.cell x c e⟩
      · exact name_of_addr X.apart (mem_of_lookup e) (mem_of_lookup e')
    refine h s.heap.objs.size _ { s with heap := h', toks := tk } am _ _ (hr.deeper _) R1 F1 fun fl h2 tk2 am2 p2 g2 R2 rv => ?_
    have z := K _ h2 tk2 am2 p2 (fun b o e n => ?_) R2 rv
    · cases fl <;> exact z
    · have hb := X.toInCall.keep b o e
      have hlt : b < s.heap.objs.size := Heap.lt_size e
      refine g2 b o hb n fun z => ?_
      rcases z with z | ⟨_, x, hx⟩
      · have z' : b = s.heap.objs.size := z
        exact Nat.lt_irrefl _ (by rw [z'] at hlt; exact hlt)
      · exact Nat.lt_asymm hlt (X.above x b (mem_of_lookup hx))
end
end Mine
end
section
open PySem PySem.W PySem.Calls PyProof.Rows
set_option maxRecDepth 100000
set_option linter.unusedVariables false
namespace Mine
section
variable {C : Cx} {env : Env} {d : Nat} {ρ ρ1 ρ2 : Loc} {ls ls1 ls2 ls3 : LS} {p q r : PV} {f : PF} {ps qs : List PV}

/-- a value that stands for p in every heap -/
def Fix (p : PV) (v : Value) : Prop := ∀ am h, RV am h p v
theorem fix_ref (a : Addr) : Fix (.ref a) (.ref a) := fun _ _ => .ref a
theorem fix_bi (a : String) : Fix (.bi a) (.builtin a) := fun _ _ => .bi a
theorem fix_ty (a : String) : Fix (.ty a) (.type a) := fun _ _ => .ty a
theorem fix_str (s : Str) (t : Tok) : Fix (.str s) (.str s t) := fun _ _ => .str s t

theorem e_glob {x : Str} {v : Value} {pos : Pos} (ok : C.Ok) (hv : C.mg x = some v) (hf : Fix p v) (hk : env.kindOf x = some .globalImplicit) (hd : (x == ("__debug__" : Str)) = false) : ETo C env d (eval (.Name x pos) env) ρ ls p ls :=
  fun A s am Q E hr R F K => Calls.Name_function_global F.kind hk (Calls.loadGlobal_global (env := env) (mg := C.mg) (by rw [F.gl]; exact ok.g.keeps R.old) hv
    (K v s.heap s.toks am (Pre.refl _) (Gr.refl _) R (hf am s.heap))) hd
theorem e_blt {x : Str} {v : Value} {pos : Pos} (ok : C.Ok) (hn : C.mg x = none) (hv : C.mb x = some v) (hf : Fix p v) (hk : env.kindOf x = some .globalImplicit) (hd : (x == ("__debug__" : Str)) = false) : ETo C env d (eval (.Name x pos) env) ρ ls p ls :=
  fun A s am Q E hr R F K => Calls.Name_function_global F.kind hk (Calls.loadGlobal_builtin (env := env) (mg := C.mg) (mb := C.mb) (by rw [F.gl]; exact ok.g.keeps R.old) hn (by rw [F.bl]; exact ok.b.keeps R.old) hv
    (K v s.heap s.toks am (Pre.refl _) (Gr.refl _) R (hf am s.heap))) hd

/-! several in a row -/
theorem l_nil {pos : Pos} : LTo C env d (spliced (backTo pos (starEach [] env))) ρ ls [] ls := fun A s am Q E hr R F K =>
  PyProof.Rows.spliced_none (K _ s.heap s.toks am (Pre.refl _) (Gr.refl _) R .nil)
theorem l_cons {e : Expr} {rest : List Expr} {pos : Pos} (h1 : ETo C env d (eval e env) ρ ls p ls1) (h2 : LTo C env d (spliced (backTo pos (starEach rest env))) ρ ls1 ps ls2)
    (he : starEach (e :: rest) env = (false, eval e env) :: starEach rest env) : LTo C env d (spliced (backTo pos (starEach (e :: rest) env))) ρ ls (p :: ps) ls2 := fun A s am Q E hr R F K =>
  PyProof.Rows.spliced_more (h1 A s am _ E hr R F fun v h' tk am' p1 g1 R1 hv => h2 A _ am' _ E hr R1 (F.mono p1 g1) fun vs h2 tk2 am2 p2 g2 R2 hvs =>
    K _ h2 tk2 am2 (p1.trans p2) (g1.trans g2) R2 (.cons (hv.mono p2 g2) hvs)) he
/-! displays -/
theorem e_tup {elts : List Expr} {k : Nat} {pos : Pos} (h : LTo C env d (spliced (backTo pos (starEach elts env))) ρ ls ps ls1) (hl : ps.length ≤ sizeLine) : ETo C env d (eval (.Tuple elts k pos) env) ρ ls (.tup ps) ls1 :=
  fun A s am Q E hr R F K => wpAny_Tuple (h A s am _ E hr R F fun vs h' tk am' p1 g1 R1 hvs => ⟨by rw [hvs.length]; exact hl, by
    have g := Gr.push h' { cls := .type "tuple", data := .seq vs.toArray }
    exact K _ _ tk am' p1 (g1.trans g) (R1.keeps fun b o e => Heap.get?_push_of_some _ e) (.tup ⟨_, Heap.get?_push_size _ rfl, rfl, _, rfl⟩ (RVs.mono (Pre.refl _) g hvs))⟩)
theorem get_size {h : Heap} : h.get? h.objs.size = none := by
  cases e : h.get? h.objs.size with
  | none => rfl
  | some o => exact absurd (Heap.lt_size e) (Nat.lt_irrefl _)
theorem e_list {elts : List Expr} {pos : Pos} (h : LTo C env d (spliced (backTo pos (starEach elts env))) ρ ls ps ls1) (hl : ps.length ≤ sizeLine) : ETo C env d (eval (.List elts pos) env) ρ ls (.lst ls1.length) (ls1 ++ [ps]) :=
  fun A s am Q E hr R F K => wpAny_List (h A s am _ E hr R F fun vs h' tk am' p1 g1 R1 hvs => ⟨by rw [hvs.length]; exact hl, by
    have g := Gr.push h' { cls := .type "list", data := .seq vs.toArray }
    exact K _ _ tk (am'.add (h'.objs.size)) (p1.trans (Pre.add _ _)) (g1.trans g) (R1.more get_size (fun b o e => Heap.get?_push_of_some _ e) ⟨_, Heap.get?_push_size _ rfl⟩ hvs) (.lst (R1.last _))⟩)

/-! calls -/
theorem e_call {fn : Str} {fp pos : Pos} {e : Expr} {args : List Expr} {fa : Addr} {o : Obj} {fd : FuncData} (hf : ETo C env d (eval (.Name fn fp) env) ρ ls (.ref fa) ls) (ho : C.hb.get? fa = some o) (hd : o.data = .func fd)
    (ha : LTo C env d (spliced (backTo pos (starEach (e :: args) env))) ρ ls ps ls1) (hc : CTo C d (.ref fa) ps [] ls1 p ls2) (he : starEach (e :: args) env = (false, eval e env) :: starEach args env) :
    ETo C env d (eval (.Call (.Name fn fp) (e :: args) [] pos) env) ρ ls p ls2 := fun A s am Q E hr R F K =>
  wpAny_Call_NameR (hf A s am _ E hr R F fun v h' tk am' p1 g1 R1 hv => by
    cases hv
    refine PyProof.Rows.callWith_def (o := o) hd (ha A _ am' _ E hr R1 (F.mono p1 g1) fun vs h2 tk2 am2 p2 g2 R2 hvs => ⟨R2.old _ _ ho, hc A _ am2 vs [] Q E hr R2 hvs .nil fun v h3 tk3 am3 p3 g3 R3 hv => ?_⟩) he
    exact K v h3 tk3 am3 (p1.trans (p2.trans p3)) (g1.trans (g2.trans g3)) R3 hv)
theorem e_callB {fn : Str} {fp pos : Pos} {e : Expr} {args : List Expr} {id : String} (hf : ETo C env d (eval (.Name fn fp) env) ρ ls (.bi id) ls)
    (ha : LTo C env d (spliced (backTo pos (starEach (e :: args) env))) ρ ls ps ls1) (hc : CTo C d (.builtin id) ps [] ls1 p ls2) (he : starEach (e :: args) env = (false, eval e env) :: starEach args env) (hp : (backTo pos (starEach args env)).any (·.1) = false) :
    ETo C env d (eval (.Call (.Name fn fp) (e :: args) [] pos) env) ρ ls p ls2 := fun A s am Q E hr R F K =>
  wpAny_Call_NameR (hf A s am _ E hr R F fun v h' tk am' p1 g1 R1 hv => by
    cases hv
    refine PyProof.Rows.callWith_builtin1 (ha A _ am' _ E hr R1 (F.mono p1 g1) fun vs h2 tk2 am2 p2 g2 R2 hvs => hc A _ am2 vs [] Q E hr R2 hvs .nil fun v h3 tk3 am3 p3 g3 R3 hv => ?_) he hp
    exact K v h3 tk3 am3 (p1.trans (p2.trans p3)) (g1.trans (g2.trans g3)) R3 hv)
theorem e_callT {fn : Str} {fp pos : Pos} {e : Expr} {args : List Expr} {id : String} (hf : ETo C env d (eval (.Name fn fp) env) ρ ls (.ty id) ls)
    (ha : LTo C env d (spliced (backTo pos (starEach (e :: args) env))) ρ ls ps ls1) (hc : CTo C d (.type id) ps [] ls1 p ls2) (he : starEach (e :: args) env = (false, eval e env) :: starEach args env) (hp : (backTo pos (starEach args env)).any (·.1) = false) :
    ETo C env d (eval (.Call (.Name fn fp) (e :: args) [] pos) env) ρ ls p ls2 := fun A s am Q E hr R F K =>
  wpAny_Call_NameR (hf A s am _ E hr R F fun v h' tk am' p1 g1 R1 hv => by
    cases hv
    refine PyProof.Rows.callWith_type (by rw [he]; show (false || (backTo pos (starEach args env)).any (·.1)) = false; rw [hp]; rfl) (by
      rw [he]
      refine Calls.evalArgs_plain ?_
      have z := ha A { s with heap := h', toks := tk } am' (fun vs s₁ => wpAny (model C.prog C.w) A (call (.type id) ([] ++ vs)) Q E s₁) E hr R1 (F.mono p1 g1) fun vs h2 tk2 am2 p2 g2 R2 hvs => hc A _ am2 vs [] Q E hr R2 hvs .nil fun v h3 tk3 am3 p3 g3 R3 hv => ?_
      · rw [he] at z; exact z
      · exact K v h3 tk3 am3 (p1.trans (p2.trans p3)) (g1.trans (g2.trans g3)) R3 hv))
/-- handed by name -/
def KTo (C : Cx) (env : Env) (d : Nat) (t : Sem (List Value)) (ρ : Loc) (ls : LS) (ps : List PV) (ls' : LS) : Prop := LTo C env d t ρ ls ps ls'
theorem k_nil {pos : Pos} : LTo C env d (evalAll ((backToKw pos (keywordEach [] env)).map (·.2))) ρ ls [] ls := fun A s am Q E hr R F K => wpAny_evalAll_nil (K _ s.heap s.toks am (Pre.refl _) (Gr.refl _) R .nil)
theorem k_cons {n : Option Str} {e : Expr} {kp : Pos} {rest : List Keyword} {pos : Pos} (h1 : ETo C env d (eval e env) ρ ls p ls1) (h2 : LTo C env d (evalAll ((backToKw pos (keywordEach rest env)).map (·.2))) ρ ls1 ps ls2) :
    LTo C env d (evalAll ((backToKw pos (keywordEach (⟨n, e, kp⟩ :: rest) env)).map (·.2))) ρ ls (p :: ps) ls2 := fun A s am Q E hr R F K => by
  refine wpAny_evalAll_cons (x := do let v ← eval e env; standAt pos; pure v) (wpAny_bind (h1 A s am _ E hr R F fun v h' tk am' p1 g1 R1 hv => wpAny_bind (wpAny_standAt (wpAny_pure ?_))))
  exact h2 A _ am' _ E hr R1 (F.mono p1 g1) fun vs h2 tk2 am2 p2 g2 R2 hvs => K _ h2 tk2 am2 (p1.trans p2) (g1.trans g2) R2 (.cons (hv.mono p2 g2) hvs)
theorem e_callK {fn : Str} {fp pos : Pos} {e : Expr} {args : List Expr} {kws : List Keyword} {fa : Addr} {o : Obj} {fd : FuncData} {xs : List Str} (hf : ETo C env d (eval (.Name fn fp) env) ρ ls (.ref fa) ls) (ho : C.hb.get? fa = some o) (hd : o.data = .func fd)
    (ha : LTo C env d (spliced (backTo pos (starEach (e :: args) env))) ρ ls ps ls1) (hk : LTo C env d (evalAll ((backToKw pos (keywordEach kws env)).map (·.2))) ρ ls1 qs ls2) (hx : (backToKw pos (keywordEach kws env)).filterMap (·.1) = xs)
    (hall : (backToKw pos (keywordEach kws env)).all (·.1.isSome) = true) (hc : CTo C d (.ref fa) ps (xs.zip qs) ls2 p ls3) (he : backTo pos (starEach (e :: args) env) = (false, eval e env) :: backTo pos (starEach args env)) :
    ETo C env d (eval (.Call (.Name fn fp) (e :: args) kws pos) env) ρ ls p ls3 := fun A s am Q E hr R F K =>
  wpAny_Call_Name_kw (hf A s am _ E hr R F fun v h' tk am' p1 g1 R1 hv => by
    cases hv
    refine PyProof.Rows.callWith_def_kw (o := o) hd ?_
    rw [he]
    refine evalArgs_kw hall ?_
    have z := ha A { s with heap := h', toks := tk } am' (fun vs s₁ => wpAny (model C.prog C.w) A (evalAll ((backToKw pos (keywordEach kws env)).map (·.2))) (fun ks s₂ => s₂.heap.get? fa = some o ∧ wpAny (model C.prog C.w) A (call (.ref fa) vs (((backToKw pos (keywordEach kws env)).filterMap (·.1)).zip ks)) Q E s₂) E s₁) E hr R1 (F.mono p1 g1)
      fun vs h2 tk2 am2 p2 g2 R2 hvs => hk A _ am2 _ E hr R2 (F.mono (p1.trans p2) (g1.trans g2)) fun ks h3 tk3 am3 p3 g3 R3 hks => ⟨R3.old _ _ ho, ?_⟩
    · rw [hx]
      refine hc A _ am3 vs _ Q E hr R3 (RVs.mono p3 g3 hvs) (RKs.zip hks) fun v h4 tk4 am4 p4 g4 R4 hv => ?_
      exact K v h4 tk4 am4 (p1.trans (p2.trans (p3.trans p4))) (g1.trans (g2.trans (g3.trans g4))) R4 hv
    · rw [he] at z; exact z)

/-! items -/
theorem e_sub {value slice : Expr} {pos : Pos} (h1 : ETo C env d (eval value env) ρ ls p ls1) (h2 : ETo C env d (eval slice env) ρ ls1 q ls2) (ht : V2To C d p q (subscriptTail value slice) ls2 r ls3) : ETo C env d (eval (.Subscript value slice pos) env) ρ ls r ls3 :=
  fun A s am Q E hr R F K => Subscript_ (h1 A s am _ E hr R F fun a h1 t1 am1 p1 g1 R1 v1 =>
    h2 A _ am1 _ E hr R1 (F.mono p1 g1) fun b h2 t2 am2 p2 g2 R2 v2 =>
      ht A _ am2 a b Q E hr R2 (v1.mono p2 g2) v2 fun v h3 t3 am3 p3 g3 R3 v3 => K v h3 t3 am3 (p1.trans (p2.trans p3)) (g1.trans (g2.trans g3)) R3 v3)
/-- the place is no slice -/
def NoSlice : Expr → Prop
  | .Slice .. => False
  | _ => True
theorem sub_plain {slice : Expr} (h : NoSlice slice) (o i : Value) : subscripted slice false o i = operate [o, i] (getItem o i) := by
  cases slice <;> first | rfl | exact h.elim
theorem t_tup {value slice : Expr} {l : List PV} {k : Int} {j : Nat} (hn : NoSlice slice) (hj : seqIndex? k l.length = some j) (hx : l[j]? = some r) (hlo : -(2 ^ 63) ≤ k) (hhi : k < 2 ^ 63) : V2To C d (.tup l) (.int k) (subscriptTail value slice) ls r ls := fun A s am a b Q E hr R ha hb K => by
  cases hb
  cases ha with
  | tup ht hs =>
    obtain ⟨v, hv, rv⟩ := hs.get hx
    exact item_tupleT ht hlo hhi (by rw [hs.length]; exact hj) hv (K v s.heap s.toks am (Pre.refl _) (Gr.refl _) R rv) (sub_plain hn _ _)
theorem t_lst {value slice : Expr} {n : Nat} {l : List PV} {k : Int} (hn : NoSlice slice) (hl : ls[n]? = some l) (h0 : 0 ≤ k) (hhi : k < 2 ^ 63) (hx : l[k.toNat]? = some r) : V2To C d (.lst n) (.int k) (subscriptTail value slice) ls r ls := fun A s am a b Q E hr R ha hb K => by
  cases hb
  cases ha with
  | lst hm =>
    obtain ⟨vs, hp, hv⟩ := R.its hm hl
    obtain ⟨v, hv, rv⟩ := hv.get hx
    exact tail_any (T := "list") hp.isList.typeIs slot_list_getitem.lookup (wpAny_getItem_list hp.isList h0 hhi (by simpa using hv) (K v s.heap s.toks am (Pre.refl _) (Gr.refl _) R rv)) (sub_plain hn _ _)
theorem t_lst_neg {value slice : Expr} {n : Nat} {l : List PV} {k : Int} (hn : NoSlice slice) (hl : ls[n]? = some l) (h0 : k < 0) (h1 : -(l.length : Int) ≤ k) (hhi : -(2 ^ 63) ≤ k) (hx : l[(k + l.length).toNat]? = some r) : V2To C d (.lst n) (.int k) (subscriptTail value slice) ls r ls := fun A s am a b Q E hr R ha hb K => by
  cases hb
  cases ha with
  | lst hm =>
    obtain ⟨vs, hp, hv⟩ := R.its hm hl
    have hlen := hv.length
    obtain ⟨v, hv, rv⟩ := hv.get hx
    exact tail_any (T := "list") hp.isList.typeIs slot_list_getitem.lookup (wpAny_getItem_list_neg hp.isList h0 (by rw [List.size_toArray, hlen]; exact h1) hhi (by rw [List.size_toArray, hlen]; simpa using hv) (K v s.heap s.toks am (Pre.refl _) (Gr.refl _) R rv)) (sub_plain hn _ _)
end
end Mine
end
section
open PySem PySem.W PySem.Calls PyProof.Rows
set_option maxRecDepth 100000
set_option linter.unusedVariables false
namespace Mine
section
variable {C : Cx} {env : Env} {d : Nat} {ρ ρ1 ρ2 : Loc} {ls ls1 ls2 ls3 : LS} {p q r : PV} {f : PF} {ps qs : List PV}
variable {a b : Int} {x y : UInt64} {u v : Str}
theorem o_mul_int (h : IntMulOk a b) : V2To C d (.int a) (.int b) (binaryOp .Mult) ls (.int (a * b)) ls := .of fun A s am _ _ Q E _ R ha hb K => by
  cases ha; cases hb; exact PyProof.Rows.mul_int (K _ s.heap _ am (Pre.refl _) (Gr.refl _) R (.int _ _)) h
theorem o_fdiv_int (h0 : b ≠ 0) (h : b.natAbs < 1073741824) : V2To C d (.int a) (.int b) (binaryOp .FloorDiv) ls (.int (a.fdiv b)) ls := .of fun A s am _ _ Q E _ R ha hb K => by
  cases ha; cases hb; exact PyProof.Rows.floordiv_int h0 (K _ s.heap _ am (Pre.refl _) (Gr.refl _) R (.int _ _)) (.inl (PyProof.noPylong_small h))
theorem o_and_int : V2To C d (.int a) (.int b) (binaryOp .BitAnd) ls (.int (Builtin.bitAnd a b)) ls := .of fun A s am _ _ Q E _ R ha hb K => by
  cases ha; cases hb; exact PyProof.Rows.and_int (K _ s.heap _ am (Pre.refl _) (Gr.refl _) R (.int _ _))
theorem o_pow2 (h0 : 0 ≤ b) (h : b < 1000) : V2To C d (.int 2) (.int b) (binaryOp .Pow) ls (.int (2 ^ b.toNat)) ls := .of fun A s am _ _ Q E _ R ha hb K => by
  cases ha; cases hb
  by_cases hb0 : b = 0
  · subst hb0
    exact AutoIntOps.pow_0 (by decide) (by decide) (K (.int 1 s.toks) s.heap _ am (Pre.refl _) (Gr.refl _) R (.int _ _))
  · refine AutoIntOps.pow_4 h0 (by simpa using hb0) (by decide) (by decide) ?_ (K (.int _ s.toks) s.heap _ am (Pre.refl _) (Gr.refl _) R (.int _ _))
    have : Builtin.Int.intBits 2 = 2 := by decide +kernel
    rw [this]
    intro hh
    simp only [Builtin.Int.intTooBig, bitsLine, Nat.reducePow] at hh
    have hh' := of_decide_eq_true hh
    simp at hh'
    omega
theorem o_pow4 (h0 : 0 ≤ b) (h : b < 1000) : V2To C d (.int 4) (.int b) (binaryOp .Pow) ls (.int (4 ^ b.toNat)) ls := .of fun A s am _ _ Q E _ R ha hb K => by
  cases ha; cases hb
  by_cases hb0 : b = 0
  · subst hb0
    exact AutoIntOps.pow_0 (by decide) (by decide) (K (.int 1 s.toks) s.heap _ am (Pre.refl _) (Gr.refl _) R (.int _ _))
  · refine AutoIntOps.pow_4 h0 (by simpa using hb0) (by decide) (by decide) ?_ (K (.int _ s.toks) s.heap _ am (Pre.refl _) (Gr.refl _) R (.int _ _))
    have : Builtin.Int.intBits 4 = 3 := by decide +kernel
    rw [this]
    intro hh
    simp only [Builtin.Int.intTooBig, bitsLine, Nat.reducePow] at hh
    have hh' := of_decide_eq_true hh
    simp at hh'
    omega
theorem o_div_int (h0 : b ≠ 0) (h : Float64.isInf (Float64.ofFrac (decide (a < 0) != decide (b < 0)) a.natAbs b.natAbs) = false) : V2To C d (.int a) (.int b) (binaryOp .Div) ls (.flt (Float64.ofFrac (decide (a < 0) != decide (b < 0)) a.natAbs b.natAbs)) ls := fun A s am _ _ Q E _ R ha hb K => by
  cases ha; cases hb
  exact AutoIntOps.truediv_2 (by simpa using h0) (by rw [h]; decide) (K (.float _ s.toks) s.heap _ (am.tok s.toks _) (Pre.tok _ _ _ R.free) (Gr.refl _) (R.tok _) (.flt _ _ (am.tok_self _ _)))
theorem o_mod_flt (h : Float64.isZero y = false) : V2To C d (.flt x) (.flt y) (binaryOp .Mod) ls (.flt (Float64.divmod x y).2) ls := fun A s am _ _ Q E hr R ha hb K => by
  cases ha; cases hb
  refine AutoFloatOpsIf.mod ?_
  rw [if_neg (by rw [h]; decide)]
  exact K (.float _ s.toks) s.heap _ (am.tok s.toks _) (Pre.tok _ _ _ R.free) (Gr.refl _) (R.tok _) (.flt _ _ (am.tok_self _ _))
theorem o_sub_fi (h : b.natAbs < 2 ^ 1023) : V2To C d (.flt x) (.int b) (binaryOp .Sub) ls (.flt (Float64.sub x (Float64.ofInt b))) ls := fun A s am _ _ Q E hr R ha hb K => by
  cases ha; cases hb; exact PyProof.Rows.sub_fi_fits h (K (.float _ s.toks) s.heap _ (am.tok s.toks _) (Pre.tok _ _ _ R.free) (Gr.refl _) (R.tok _) (.flt _ _ (am.tok_self _ _)))
theorem o_add_str (h : u.length + v.length ≤ sizeLine) : V2To C d (.str u) (.str v) (binaryOp .Add) ls (.str (u ++ v)) ls := .of fun A s am _ _ Q E hr R ha hb K => by
  cases ha; cases hb; exact SB.add (fun t' k => K _ s.heap k am (Pre.refl _) (Gr.refl _) R (.str _ _)) h
theorem o_mul_str (h : MulOk u b) : V2To C d (.str u) (.int b) (binaryOp .Mult) ls (.str (Txt.mul u b)) ls := .of fun A s am _ _ Q E hr R ha hb K => by
  cases ha; cases hb; exact SB.mul h (fun t' k => K _ s.heap k am (Pre.refl _) (Gr.refl _) R (.str _ _))
/-! comparisons -/
theorem o_eq_flt : V2To C d (.flt x) (.flt y) (compareOp .Eq) ls (.bool (Float64.cmp x y == some Ordering.eq)) ls := .of fun A s am _ _ Q E _ R ha hb K => by
  cases ha; cases hb; exact AutoFloatOps.eq_0 (K _ s.heap s.toks am (Pre.refl _) (Gr.refl _) R (.bool _))
theorem o_lt_flt : V2To C d (.flt x) (.flt y) (compareOp .Lt) ls (.bool (Float64.cmp x y == some Ordering.lt)) ls := .of fun A s am _ _ Q E _ R ha hb K => by
  cases ha; cases hb; exact AutoFloatOps.lt_0 (K _ s.heap s.toks am (Pre.refl _) (Gr.refl _) R (.bool _))
theorem o_ge_flt : V2To C d (.flt x) (.flt y) (compareOp .GtE) ls (.bool (Float64.cmp x y == some Ordering.gt || Float64.cmp x y == some Ordering.eq)) ls := .of fun A s am _ _ Q E _ R ha hb K => by
  cases ha; cases hb; exact AutoFloatOps.ge_0 (K _ s.heap s.toks am (Pre.refl _) (Gr.refl _) R (.bool _))
theorem o_eq_fi : V2To C d (.flt x) (.int b) (compareOp .Eq) ls (.bool (Float64.cmpInt x b == some Ordering.eq)) ls := .of fun A s am _ _ Q E _ R ha hb K => by
  cases ha; cases hb; exact PyProof.Rows.eq_fi (K _ s.heap s.toks am (Pre.refl _) (Gr.refl _) R (.bool _))
theorem o_gt_fi : V2To C d (.flt x) (.int b) (compareOp .Gt) ls (.bool (Float64.cmpInt x b == some Ordering.gt)) ls := .of fun A s am _ _ Q E _ R ha hb K => by
  cases ha; cases hb; exact PyProof.Rows.gt_fi (K _ s.heap s.toks am (Pre.refl _) (Gr.refl _) R (.bool _))
theorem o_is_none : V2To C d .none .none (compareOp .Is) ls (.bool true) ls := .of fun A s am _ _ Q E _ R ha hb K => by
  cases ha; cases hb; exact PyProof.Rows.is_none_none (K _ s.heap s.toks am (Pre.refl _) (Gr.refl _) R (.bool _))
theorem o_is_ref (z : Addr) : V2To C d (.ref z) .none (compareOp .Is) ls (.bool false) ls := .of fun A s am _ _ Q E _ R ha hb K => by
  cases ha; cases hb; exact PyProof.Rows.is_ref_none (K _ s.heap s.toks am (Pre.refl _) (Gr.refl _) R (.bool _))
theorem o_is_int : V2To C d (.int a) .none (compareOp .Is) ls (.bool false) ls := .of fun A s am _ _ Q E _ R ha hb K => by
  cases ha; cases hb; exact PyProof.Rows.is_int_none (K _ s.heap s.toks am (Pre.refl _) (Gr.refl _) R (.bool _))
theorem o_eq_str : V2To C d (.str u) (.str v) (compareOp .Eq) ls (.bool (u == v)) ls := .of fun A s am _ _ Q E _ R ha hb K => by
  cases ha; cases hb; exact PyProof.Rows.eq_str (K _ s.heap s.toks am (Pre.refl _) (Gr.refl _) R (.bool _))
theorem o_ne_str : V2To C d (.str u) (.str v) (compareOp .NotEq) ls (.bool (u != v)) ls := .of fun A s am _ _ Q E _ R ha hb K => by
  cases ha; cases hb; exact PyProof.Rows.ne_str (K _ s.heap s.toks am (Pre.refl _) (Gr.refl _) R (.bool _))
end
end Mine
end
section
open PySem PySem.W PySem.Calls PyProof.Rows
set_option maxRecDepth 100000
set_option linter.unusedVariables false
namespace Mine
/-- an object that turns and is neither a list, nor a value's own, nor a frame's -/
def Tool (o : Obj) : Prop := ¬ IsLst o ∧ ¬ Val o ∧ (∀ es ep, o.data ≠ .dict es ep) ∧ ∀ v, o.data ≠ .cell v
theorem tool_of {o : Obj} {c : String} {vs : Array Value} (hc : o.cls = .type c) (hd : o.data = .fields vs) (h1 : (c == "range") = false) : Tool o := by
  refine ⟨fun x => ?_, fun x => ?_, fun es ep e => ?_, fun v e => ?_⟩
  · obtain ⟨_, xs, n, e⟩ := x; rw [hd] at e; cases e
  · rcases x with ⟨_, xs, n, e⟩ | ⟨e, _⟩
    · rw [hd] at e; cases e
    · rw [hc] at e; cases e; simp at h1
  · rw [hd] at e; cases e
  · rw [hd] at e; cases e
section
variable {C : Cx} {env : Env} {d : Nat} {ρ ρ1 ρ2 ρ3 : Loc} {ls ls1 ls2 ls3 : LS} {p q r : PV} {f : PF} {ps qs : List PV}

theorem Fm.keepsX {am : Gh} {h h' : Heap} {X : Addr → Prop} (F : Fm C env am h ρ) (k : ∀ b o, ¬ X b → h.get? b = some o → h'.get? b = some o) (hX : ∀ b o, X b → h.get? b = some o → Tool o) : Fm C env am h' ρ := by
  have g : GrV h h' := fun b o e v => k b o (fun x => (hX b o x e).2.1 v) e
  have kc : ∀ {c ov}, h.IsCell c ov → h'.IsCell c ov := fun {c ov} x => by
    obtain ⟨o, ho, hd⟩ := x
    exact ⟨o, k c o (fun q => (hX c o q ho).2.2.2 _ hd) ho, hd⟩
  refine ⟨F.kind, F.gl, F.bl, F.fr, F.frc, ?_, fun x q e hx => ?_, fun x c e => ?_, F.apart⟩
  · obtain ⟨m, hn, hm⟩ := F.ns
    refine ⟨m, ?_, fun x q e hx => ?_⟩
    · obtain ⟨o, es, ep, ho, hd, r⟩ := hn
      exact ⟨o, es, ep, k _ o (fun q => (hX _ o q ho).2.2.1 _ _ hd) ho, hd, r⟩
    · obtain ⟨v, hv, r⟩ := hm x q e hx
      exact ⟨v, hv, r.monoV (Pre.refl _) g⟩
  · obtain ⟨c, v, hc, hv, r⟩ := F.cel x q e hx
    exact ⟨c, v, hc, kc hv, r.monoV (Pre.refl _) g⟩
  · obtain ⟨ov, h⟩ := F.all x c e
    exact ⟨ov, kc h⟩

/-! targets -/
def ATo (C : Cx) (env : Env) (target : Expr) (ρ : Loc) (p : PV) (ρ' : Loc) : Prop :=
  ∀ (A : Around) (d : Nat) (s : Shared) (am : Gh) (ls : LS) (v : Value) (Q : Unit → Shared → Prop) (E : Value → Shared → Prop), Room A d → Rep C am ls s.heap s.toks → Fm C env am s.heap ρ → RV am s.heap p v →
    (∀ h' tk, GrS env s.heap h' → Rep C am ls h' tk → Fm C env am h' ρ' → Q () { s with heap := h', toks := tk }) → wpAny (model C.prog C.w) A (assign target env v) Q E s
theorem a_loc {x : Str} {pos : Pos} (hk : env.kindOf x = some .local) : ATo C env (.Name x pos) ρ p (pset ρ x p) := fun A d s am ls v Q E hr R F hv K =>
  wpAny_assign_Name (st_local R F hv hk K)
theorem a_cell {x : Str} {c : Addr} {pos : Pos} (hk : env.kindOf x = some .cell) (hc : env.cells.lookup x = some c) (hlt : env.locals < c) : ATo C env (.Name x pos) ρ p (pset ρ x p) := fun A d s am ls v Q E hr R F hv K =>
  wpAny_assign_Name (st_cell R F hv hk hc hlt K)
/-- several names at once -/
inductive As (C : Cx) (env : Env) : List Expr → Loc → List PV → Loc → Prop where
  | nil {ρ : Loc} : As C env [] ρ [] ρ
  | cons {t : Expr} {ts : List Expr} {ρ ρ1 ρ2 : Loc} {p : PV} {ps : List PV} : ATo C env t ρ p ρ1 → As C env ts ρ1 ps ρ2 → (∀ ts, assignEach (t :: ts) env = (false, assign t env) :: assignEach ts env) → As C env (t :: ts) ρ (p :: ps) ρ2
theorem As.len {ts : List Expr} (h : As C env ts ρ ps ρ1) : (assignEach ts env).length = ps.length ∧ (assignEach ts env).findIdx? (·.1) = none := by
  induction h with
  | nil => exact ⟨rfl, rfl⟩
  | cons _ _ he ih =>
    rw [he, List.length_cons, ih.1, List.length_cons, List.findIdx?_cons]
    exact ⟨rfl, by simp [ih.2]⟩
theorem As.run {ts : List Expr} (h : As C env ts ρ ps ρ1) : ∀ (A : Around) (d : Nat) (s : Shared) (am : Gh) (ls : LS) (vs : List Value) (Q : Unit → Shared → Prop) (E : Value → Shared → Prop), Room A d → Rep C am ls s.heap s.toks → Fm C env am s.heap ρ → RVs am s.heap ps vs →
    (∀ h' tk, GrS env s.heap h' → Rep C am ls h' tk → Fm C env am h' ρ1 → Q () { s with heap := h', toks := tk }) → wpAny (model C.prog C.w) A (assignInOrder ((assignEach ts env).map (·.2)) vs) Q E s := by
  induction h with
  | nil =>
    intro A d s am ls vs Q E hr R F hv K
    cases hv
    exact wpAny_assignInOrder_none (K s.heap s.toks (GrS.refl _ _) R F)
  | cons h1 _ he ih =>
    intro A d s am ls vs Q E hr R F hv K
    cases hv with
    | cons a b =>
      rw [he]
      refine wpAny_assignInOrder_more (h1 A d s am ls _ _ E hr R F a fun h' tk g R1 F1 => ?_)
      exact ih A d _ am ls _ Q E hr R1 F1 (b.monoV (Pre.refl _) (g.v F)) fun h2 tk2 g2 R2 F2 => K h2 tk2 (g.trans g2) R2 F2
theorem extBut_keeps {h h' : Heap} (hs : Heap.ExtBut h.objs.size h h') : ∀ b o, h.get? b = some o → h'.get? b = some o := fun b o e => hs b o (Nat.ne_of_lt (Heap.lt_size e)) e
theorem a_tup {elts : List Expr} {k : Nat} {pos : Pos} (h : As C env elts ρ ps ρ1) : ATo C env (.Tuple elts k pos) ρ (.tup ps) ρ1 := fun A d s am ls v Q E hr R F hv K => by
  cases hv with
  | tup ht hs =>
    refine wpAny_assign_Tuple hr.hand ht (by rw [h.len.1, List.size_toArray, hs.length]) h.len.2 fun h' he => ?_
    have kp := extBut_keeps he
    have g := Gr.of_keeps kp
    rw [show (List.toArray _).toList = _ from rfl]
    exact h.run A d { s with heap := h' } am ls _ Q E hr (R.keeps kp) (F.mono (Pre.refl _) g) (hs.mono (Pre.refl _) g) fun h2 tk2 g2 R2 F2 => K h2 tk2 (g.s.trans g2) R2 F2
/-- a, b, c = e -/
theorem x_assignT {elts : List Expr} {k : Nat} {pos' pos : Pos} {e : Expr} (h : ETo C env d (eval e env) ρ ls (.tup ps) ls1) (ha : As C env elts ρ ps ρ1) (hs : ∀ n, swapsWith e (some (.Tuple elts k pos')) n env = pure false) (hw : swappedStores [.Tuple elts k pos'] e env = pure none) :
    XTo C env d (exec (.Assign [.Tuple elts k pos'] e pos) env) ρ ls .next ρ1 ls1 := fun A s am Q E hr R F K => by
  show wpAny _ A (do
    standAt pos
    if ← swapsWithSole [.Tuple elts k pos'] e pos.line env then do
      evalThenUse e env fun v => assignAll v ((assignEach [.Tuple elts k pos'] env).map (·.2))
      pure .next
    else do
      let v ← eval e env
      assignStores env v (← swappedStores [.Tuple elts k pos'] e env) ((assignEach [.Tuple elts k pos'] env).map (·.2))) Q E s
  refine wpAny_bind (wpAny_standAt (wpAny_bind ?_))
  show wpAny _ A (swapsWith e (some (.Tuple elts k pos')) pos.line env) _ E s
  rw [hs]
  refine wpAny_pure ?_
  rw [if_neg (by decide)]
  refine wpAny_bind (h A s am _ E hr R F fun v h' tk am' p1 g1 R1 hv => ?_)
  rw [hw]
  refine wpAny_bind (wpAny_pure ?_)
  show wpAny _ A (do assignAll v [assign (.Tuple elts k pos') env]; pure .next) Q E _
  refine wpAny_bind ?_
  show wpAny _ A (assign (.Tuple elts k pos') env v) _ E _
  exact a_tup ha A d _ am' ls1 v _ E hr R1 (F.mono p1 g1) hv fun h2 tk2 g2 R2 F2 => wpAny_pure (K _ h2 tk2 am' p1 (g1.s.trans g2) R2 F2 .next)

/-! iterators -/
structure Itr (C : Cx) (target : Expr) (ok : LS → Prop) (I : Addr) (fp : List Addr) (items : List PV) (St : Nat → Gh → Heap → Prop) : Prop where
  item : ∀ {A : Around} {d : Nat} {s : Shared} {am : Gh} {ls : LS} {i : Nat} {p : PV} {Q : Value → Shared → Prop} {E : Value → Shared → Prop}, Room A d → Rep C am ls s.heap s.toks → ok ls → St i am s.heap → items[i]? = some p →
    (∀ v h' tk, s.toks ≤ tk → (∀ b o, b ∉ fp → s.heap.get? b = some o → h'.get? b = some o) → St (i + 1) am h' → RV am h' p v → Q v { s with heap := h', toks := tk }) →
    wpAny (model C.prog C.w) A (pyNext (.ref I)) (fun r s₁ => match r with
      | none => False
      | some v => wpAny (model C.prog C.w) A (letOwnedTupleGo target (.ref I) v) (fun _ s₂ => Q v s₂) E s₁) E s
  done : ∀ {A : Around} {d : Nat} {s : Shared} {am : Gh} {ls : LS} {Q : Option Value → Shared → Prop} {E : Value → Shared → Prop}, Room A d → Rep C am ls s.heap s.toks → ok ls → St items.length am s.heap →
    (∀ h' tk, s.toks ≤ tk → (∀ b o, b ∉ fp → s.heap.get? b = some o → h'.get? b = some o) → Q none { s with heap := h', toks := tk }) → wpAny (model C.prog C.w) A (pyNext (.ref I)) Q E s
  self : ∀ {A : Around} {s : Shared} {am : Gh} {i : Nat} {Q : Value → Shared → Prop} {E : Value → Shared → Prop}, St i am s.heap → Q (.ref I) s → wpAny (model C.prog C.w) A (pyIter (.ref I)) Q E s
  stay : ∀ {i : Nat} {am am' : Gh} {h h' : Heap}, St i am h → Pre am am' → (∀ b ∈ fp, ∀ o, h.get? b = some o → h'.get? b = some o) → St i am' h'
  obj : ∀ {i : Nat} {am : Gh} {h : Heap}, St i am h → ∀ b ∈ fp, ∃ o, h.get? b = some o ∧ Tool o

inductive Lp (C : Cx) (env : Env) (d : Nat) (target : Expr) (body : List Stmt) (ok : LS → Prop) : List PV → Loc → LS → PF → Loc → LS → Prop where
  | nil {ρ : Loc} {ls : LS} : ok ls → Lp C env d target body ok [] ρ ls .next ρ ls
  | next {p : PV} {ps : List PV} {ρ ρ1 ρ2 ρ3 : Loc} {ls ls2 ls3 : LS} {f : PF} : ok ls → ATo C env target ρ p ρ1 → XTo C env d (execs body env) ρ1 ls .next ρ2 ls2 → Lp C env d target body ok ps ρ2 ls2 f ρ3 ls3 → Lp C env d target body ok (p :: ps) ρ ls f ρ3 ls3
  | ret {p q : PV} {ps : List PV} {ρ ρ1 ρ2 : Loc} {ls ls2 : LS} : ok ls → ATo C env target ρ p ρ1 → XTo C env d (execs body env) ρ1 ls (.ret q) ρ2 ls2 → Lp C env d target body ok (p :: ps) ρ ls (.ret q) ρ2 ls2

def GrF (env : Env) (fp : List Addr) (h h' : Heap) : Prop := ∀ b o, h.get? b = some o → ¬ IsLst o → ¬ ownOf env b → b ∉ fp → h'.get? b = some o
theorem GrF.step {fp : List Addr} {h h1 h2 : Heap} (a : GrF env fp h h1) (g : GrS env h1 h2) : GrF env fp h h2 := fun b o e n l m => g b o (a b o e n l m) n l
theorem GrF.keep {fp : List Addr} {h h1 h2 : Heap} (a : GrF env fp h h1) (g : ∀ b o, b ∉ fp → h1.get? b = some o → h2.get? b = some o) : GrF env fp h h2 := fun b o e n l m => g b o m (a b o e n l m)
/-- a tool is no frame's -/
theorem Fm.notTool {am : Gh} {h : Heap} (F : Fm C env am h ρ) {b : Addr} {o : Obj} (e : h.get? b = some o) (t : Tool o) : ¬ ownOf env b := fun z => by
  rcases z with q | ⟨_, x, q⟩
  · obtain ⟨m, ⟨o'', es, ep, ho'', hd'', _⟩, _⟩ := F.ns
    rw [← q, e] at ho''; cases ho''; exact t.2.2.1 _ _ hd''
  · obtain ⟨ov, o'', ho'', hd''⟩ := F.all x b q
    rw [e] at ho''; cases ho''; exact t.2.2.2 _ hd''

theorem for_loop {ok : LS → Prop} {I : Addr} {fp : List Addr} {items : List PV} {St : Nat → Gh → Heap → Prop} {target : Expr} (W : Itr C target ok I fp items St) {body : List Stmt} {A : Around} {s : Shared} {am : Gh} {R : Result → Shared → Prop}
    (hr : Room A d) (hfr : ∀ b ∈ fp, C.hb.get? b = none) (Rp : Rep C am ls s.heap s.toks) (F : Fm C env am s.heap ρ) (st : St 0 am s.heap) (L : Lp C env d target body ok items ρ ls f ρ1 ls1)
    (K : ∀ fl h' tk am', Pre am am' → GrF env fp s.heap h' → Rep C am' ls1 h' tk → Fm C env am' h' ρ1 → RF am' h' f fl → R (.ok fl) { s with heap := h', toks := tk }) :
    codeAny (model C.prog C.w) A (.forLoop target (.ref I) body [] env) R s := by
  refine codeAny_forLoop_any (fun n s' => ∃ i am' ρ' ls' h' tk, s' = { s with heap := h', toks := tk } ∧ n = items.length - i ∧ i ≤ items.length ∧ Pre am am' ∧ Rep C am' ls' h' tk ∧ Fm C env am' h' ρ' ∧ St i am' h' ∧ Lp C env d target body ok (items.drop i) ρ' ls' f ρ1 ls1 ∧ GrF env fp s.heap h') ?_ items.length
    ⟨0, am, ρ, ls, s.heap, s.toks, rfl, rfl, Nat.zero_le _, Pre.refl _, Rp, F, st, L, fun b o e _ _ _ => e⟩
  rintro n s' ⟨i, am', ρ', ls', h', tk, rfl, rfl, hi, pf, R', F', st', L', g'⟩
  have fresh : ∀ b ∈ fp, b ∉ am'.l := fun b hb => R'.not_am fun xs hl => by
    obtain ⟨o, ho, ht⟩ := W.obj st' b hb
    obtain ⟨o', ho', hc, hn, hd⟩ := hl
    rw [ho] at ho'; cases ho'
    exact ht.1 ⟨hc, _, hn, hd⟩
  have tool : ∀ b o, b ∈ fp → h'.get? b = some o → Tool o := fun b o hb e => by
    obtain ⟨o', ho', ht⟩ := W.obj st' b hb
    rw [e] at ho'; cases ho'; exact ht
  have after : ∀ h2, (∀ b o, b ∉ fp → h'.get? b = some o → h2.get? b = some o) → Rep C am' ls' h2 tk ∧ Fm C env am' h2 ρ' := fun h2 k =>
    ⟨R'.change (X := fun b => b ∈ fp) (fun b o hb e => k b o hb e) hfr fresh fun b o hb e => (tool b o hb e).2.1, F'.keepsX (X := fun b => b ∈ fp) (fun b o hb e => k b o hb e) tool⟩
  cases e : items[i]? with
  | none =>
    have hi' : items.length ≤ i := by simpa using e
    have : i = items.length := Nat.le_antisymm hi hi'
    subst this
    rw [List.drop_length] at L'
    cases L' with
    | nil hok =>
      refine W.done hr R' hok st' fun h2 tk2 z2 k => ?_
      exact wpAny_execs_nil (K _ h2 tk2 am' pf (g'.keep k) ((after h2 k).1.up z2) (after h2 k).2 .next)
  | some p =>
    have hlt : i < items.length := (List.getElem?_eq_some_iff.mp e).1
    have hd : items.drop i = p :: items.drop (i + 1) := by
      rw [List.drop_eq_getElem_cons hlt, (List.getElem?_eq_some_iff.mp e).2]
    rw [hd] at L'
    have step : ∀ {ρa : Loc} {fb : PF} {ρb : Loc} {lsb : LS} (Qf : Flow → Shared → Prop) (E : Value → Shared → Prop) (N : Shared → Prop), ok ls' → ATo C env target ρ' p ρa → XTo C env d (execs body env) ρa ls' fb ρb lsb →
        (∀ fl h3 tk3 am3, Pre am' am3 → GrF env fp s.heap h3 → Rep C am3 lsb h3 tk3 → Fm C env am3 h3 ρb → St (i + 1) am3 h3 → RF am3 h3 fb fl → Qf fl { s with heap := h3, toks := tk3 }) →
        wpAny (model C.prog C.w) A (pyNext (.ref I)) (fun r s₁ => match r with
          | none => N s₁
          | some v => wpAny (model C.prog C.w) A (letOwnedTupleGo target (.ref I) v) (fun _ s₁' => wpAny (model C.prog C.w) A (assign target env v) (fun _ s₂ => wpAny (model C.prog C.w) A (execs body env) Qf E s₂) E s₁') E s₁) E { s with heap := h', toks := tk } := by
      intro ρa fb ρb lsb Qf E N hok ha hb KK
      refine wpAny_mono (W.item (Q := fun v s₁' => wpAny (model C.prog C.w) A (assign target env v) (fun _ s₂ => wpAny (model C.prog C.w) A (execs body env) Qf E s₂) E s₁') hr R' hok st' e fun v h2 tk2 z2 k st2 hv => ?_) (fun r s₁ x => ?_) fun _ _ x => x
      · refine ha A d _ am' ls' v _ E hr ((after h2 k).1.up z2) (after h2 k).2 hv fun h3 tk3 g3 R3 F3 => ?_
        have st3 : St (i + 1) am' h3 := W.stay st2 (Pre.refl _) fun b hb o eo => by
          obtain ⟨o', ho', ht⟩ := W.obj st2 b hb
          rw [eo] at ho'; cases ho'
          exact g3 b o eo ht.1 ((after h2 k).2.notTool eo ht)
        refine hb A _ am' Qf E hr R3 F3 fun fl h4 tk4 am4 p4 g4 R4 F4 rf => ?_
        refine KK fl h4 tk4 am4 p4 (((g'.keep k).step g3).step g4) R4 F4 (W.stay st3 p4 fun b hb o eo => ?_) rf
        obtain ⟨o', ho', ht⟩ := W.obj st3 b hb
        rw [eo] at ho'; cases ho'
        exact g4 b o eo ht.1 (F3.notTool eo ht)
      · cases r with
        | none => exact x.elim
        | some v => exact x
    cases L' with
    | next hok ha hb hl =>
      refine step _ _ _ hok ha hb fun fl h3 tk3 am3 p3 g3 R3 F3 st3 rf => ?_
      cases rf
      exact ⟨_, by omega, i + 1, am3, _, _, h3, tk3, rfl, rfl, hlt, pf.trans p3, R3, F3, st3, hl, g3⟩
    | ret hok ha hb =>
      refine step _ _ _ hok ha hb fun fl h3 tk3 am3 p3 g3 R3 F3 st3 rf => ?_
      cases rf with
      | ret hv => exact K _ h3 tk3 am3 (pf.trans p3) g3 R3 F3 (.ret hv)

/-- a list's iterator -/
theorem itr_list (n : Nat) (items : List PV) (I : Addr) {target : Expr} : Itr C target (fun ls => ls[n]? = some items) I [I] items (fun i am h => ∃ a, am.l[n]? = some a ∧ h.IsListIter I a i) where
  item := fun {A d s am ls i p} {Q E} hr R hok st e K => by
    obtain ⟨a, ha, hit⟩ := st
    obtain ⟨vs, hp, hv⟩ := R.its ha hok
    obtain ⟨v, hv, rv⟩ := hv.get e
    refine wpAny_pyNext_list_item hit hp.isList (x := v) (by simpa using hv) fun h' hit' hs => ?_
    have k : ∀ b o, b ∉ [I] → s.heap.get? b = some o → h'.get? b = some o := fun b o hb eo => (hs.2 b (by simpa using hb)).trans eo
    have gv : GrV s.heap h' := fun b o eo vo => k b o (fun hb => by
      have hb' : b = I := by simpa using hb
      subst hb'
      obtain ⟨o', ho', hc, hd⟩ := hit
      rw [eo] at ho'; cases ho'
      exact (tool_of hc hd (by decide)).2.1 vo) eo
    have z := K v h' s.toks (Nat.le_refl _) k ⟨a, ha, hit'⟩ (rv.monoV (Pre.refl _) gv)
    show wpAny _ A (letOwnedTupleGo target (.ref I) v) _ E _
    unfold letOwnedTupleGo
    split
    · split
      · rename_i r a' hra
        cases hra
        obtain ⟨o, ho, hc, hd⟩ := hit'
        refine wpAny_bind (wpAny_load ho ?_)
        rw [hc, hd]
        show wpAny _ A (if (["enumerate", "zip", "dict_itemiterator", "dict_reverseitemiterator", "odict_iterator", "itertools.zip_longest", "itertools.pairwise"].contains "list_iterator" && _) = true then _ else _) _ E _
        rw [if_neg (by simp)]
        exact wpAny_pure z
      · exact wpAny_pure z
    · split
      · rename_i r a' hra
        cases hra
        obtain ⟨o, ho, hc, hd⟩ := hit'
        refine wpAny_bind (wpAny_load ho ?_)
        rw [hc, hd]
        show wpAny _ A (if (["enumerate", "zip", "dict_itemiterator", "dict_reverseitemiterator", "odict_iterator", "itertools.zip_longest", "itertools.pairwise"].contains "list_iterator" && _) = true then _ else _) _ E _
        rw [if_neg (by simp)]
        exact wpAny_pure z
      · exact wpAny_pure z
    · exact wpAny_pure z
  done := fun {A d s am ls Q E} hr R hok st K => by
    obtain ⟨a, ha, hit⟩ := st
    obtain ⟨vs, hp, hv⟩ := R.its ha hok
    exact wpAny_pyNext_list_end hr.hand hit hp.isList (by simp [hv.length]) fun h' he => K h' s.toks (Nat.le_refl _) fun b o hb eo => he b o (by simpa using hb) eo
  self := fun st h => by obtain ⟨a, ha, hit⟩ := st; exact wpAny_pyIter_listiter hit h
  stay := fun st pf k => by
    obtain ⟨a, ha, o, ho, r⟩ := st
    exact ⟨a, prefix_get pf ha, o, k _ (by simp) o ho, r⟩
  obj := fun st b hb => by
    obtain ⟨a, ha, o, ho, hc, hd⟩ := st
    have : b = I := by simpa using hb
    subst this
    exact ⟨o, ho, tool_of hc hd (by decide)⟩
/-- a range's iterator -/
def rngItems (a b c : Int) : List PV := (List.range (Builtin.Range.rangeSize a b c).toNat).map fun (i : Nat) => .int (a + (i : Int) * c)
theorem letOwned_other {target : Expr} {I : Addr} {v : Value} {c : String} {vs : Array Value} {M : Model} {A : Around} {s : Shared} {Q : Unit → Shared → Prop} {E : Value → Shared → Prop} {o : Obj} (ho : s.heap.get? I = some o) (hc : o.cls = .type c) (hd : o.data = .fields vs)
    (hn : (["enumerate", "zip", "dict_itemiterator", "dict_reverseitemiterator", "odict_iterator", "itertools.zip_longest", "itertools.pairwise"].contains c) = false) (z : Q () s) : wpAny M A (letOwnedTupleGo target (.ref I) v) Q E s := by
  unfold letOwnedTupleGo
  split
  · split
    · rename_i r a' hra
      cases hra
      refine wpAny_bind (wpAny_load ho ?_)
      rw [hc, hd]
      show wpAny _ A (if (["enumerate", "zip", "dict_itemiterator", "dict_reverseitemiterator", "odict_iterator", "itertools.zip_longest", "itertools.pairwise"].contains c && _) = true then _ else _) _ E _
      rw [hn, if_neg (by simp)]
      exact wpAny_pure z
    · exact wpAny_pure z
  · split
    · rename_i r a' hra
      cases hra
      refine wpAny_bind (wpAny_load ho ?_)
      rw [hc, hd]
      show wpAny _ A (if (["enumerate", "zip", "dict_itemiterator", "dict_reverseitemiterator", "odict_iterator", "itertools.zip_longest", "itertools.pairwise"].contains c && _) = true then _ else _) _ E _
      rw [hn, if_neg (by simp)]
      exact wpAny_pure z
    · exact wpAny_pure z
  · exact wpAny_pure z
theorem itr_range (a b c : Int) (I : Addr) {target : Expr} : Itr C target (fun _ => True) I [I] (rngItems a b c) (fun i am h => IsRangeIter h I (a + i * c) (Builtin.Range.rangeSize a b c - i) c ∧ (i : Int) ≤ Builtin.Range.rangeSize a b c ∨ (IsRangeIter h I a (Builtin.Range.rangeSize a b c) c ∧ i = 0)) where
  item := fun {A d s am ls i p} {Q E} hr R hok st e K => by
    have hlt : i < (Builtin.Range.rangeSize a b c).toNat := by
      have := (List.getElem?_eq_some_iff.mp e).1
      simpa [rngItems] using this
    have hp : p = .int (a + i * c) := by
      have := (List.getElem?_eq_some_iff.mp e).2
      simp [rngItems] at this
      exact this.symm
    subst hp
    have hit : IsRangeIter s.heap I (a + i * c) (Builtin.Range.rangeSize a b c - i) c := by
      rcases st with st | ⟨st, h0⟩
      · exact st.1
      · subst h0; simpa using st
    refine wpAny_pyNext_range_item hit (by omega) fun h' hit' hs => ?_
    have k : ∀ b o, b ∉ [I] → s.heap.get? b = some o → h'.get? b = some o := fun b o hb eo => (hs.2 b (by simpa using hb)).trans eo
    have st' : IsRangeIter h' I (a + ((i + 1 : Nat) : Int) * c) (Builtin.Range.rangeSize a b c - ((i + 1 : Nat) : Int)) c := by
      have e1 : a + ((i + 1 : Nat) : Int) * c = a + i * c + c := by rw [Int.natCast_add, Int.add_mul]; omega
      have e2 : Builtin.Range.rangeSize a b c - ((i + 1 : Nat) : Int) = Builtin.Range.rangeSize a b c - i - 1 := by omega
      rw [e1, e2]; exact hit'
    have z := K _ h' (s.toks + 1) (Nat.le_succ _) k (.inl ⟨st', by omega⟩) (.int _ s.toks)
    exact letOwned_other hit' rfl rfl (by decide) z
  done := fun {A d s am ls Q E} hr R hok st K => by
    have hl : (rngItems a b c).length = (Builtin.Range.rangeSize a b c).toNat := by simp [rngItems]
    rw [hl] at st
    rcases st with ⟨st, h1⟩ | ⟨st, h1⟩
    · exact wpAny_pyNext_range_end hr.hand st (by omega) fun h' he => K h' s.toks (Nat.le_refl _) fun b o hb eo => he b o (by simpa using hb) eo
    · exact wpAny_pyNext_range_end hr.hand st (by omega) fun h' he => K h' s.toks (Nat.le_refl _) fun b o hb eo => he b o (by simpa using hb) eo
  self := fun st h => by rcases st with ⟨st, _⟩ | ⟨st, _⟩ <;> exact wpAny_pyIter_rangeiter st h
  stay := fun st pf k => by
    rcases st with ⟨st, h1⟩ | ⟨st, h1⟩
    · exact .inl ⟨k _ (by simp) _ st, h1⟩
    · exact .inr ⟨k _ (by simp) _ st, h1⟩
  obj := fun st b hb => by
    have : b = I := by simpa using hb
    subst this
    rcases st with ⟨st, _⟩ | ⟨st, _⟩
    · exact ⟨_, st, tool_of (c := "range_iterator") rfl rfl (by decide)⟩
    · exact ⟨_, st, tool_of (c := "range_iterator") rfl rfl (by decide)⟩

/-! for, over a list, over a range -/
theorem GrF.s {fp : List Addr} {h h0 h' : Heap} (k : ∀ b o, h.get? b = some o → h0.get? b = some o) (hfp : ∀ b ∈ fp, h.get? b = none) (g : GrF env fp h0 h') : GrS env h h' := fun b o e n l => g b o (k b o e) n l fun hb => by rw [hfp b hb] at e; cases e
theorem x_for_list {target iter : Expr} {body : List Stmt} {pos : Pos} {n : Nat} {items : List PV} (h : ETo C env d (eval iter env) ρ ls (.lst n) ls1) (L : Lp C env d target body (fun ls => ls[n]? = some items) items ρ ls1 f ρ1 ls2) (hn : ls1[n]? = some items)
    (hs : ∀ x, foldedSetIterable iter env x = pure x) : XTo C env d (exec (.For target iter body [] pos) env) ρ ls f ρ1 ls2 := fun A s am Q E hr R F K =>
  wpAny_For (h A s am _ E hr R F fun v h' tk am' p1 g1 R1 hv => by
    cases hv with
    | @lst _ la hm =>
      obtain ⟨vs, hp, hv⟩ := R1.its hm hn
      have kp : ∀ b o, h'.get? b = some o → (h'.push { cls := .type "list_iterator", data := .fields #[.ref la, .int 0 0] }).get? b = some o := fun b o e => Heap.get?_push_of_some _ e
      refine wpAny_pyIter_list hp.isList ?_
      refine for_loop (itr_list n items h'.objs.size) hr (fun b hb => ?_) (R1.keeps kp) ((F.mono p1 g1).mono (Pre.refl _) (Gr.of_keeps kp)) ⟨_, hm, ⟨_, Heap.get?_push_size _ rfl, rfl, rfl⟩⟩ L fun fl h2 tk2 am2 p2 g2 R2 F2 rf => ?_
      · have : b = h'.objs.size := by simpa using hb
        rw [this]; exact R1.fresh (Nat.le_refl _)
      · refine K fl h2 tk2 am2 (p1.trans p2) (g1.s.trans (g2.s kp fun b hb => ?_)) R2 F2 rf
        have : b = h'.objs.size := by simpa using hb
        rw [this]; exact get_size) hs
theorem x_for_range {target iter : Expr} {body : List Stmt} {pos : Pos} {a b c : Int} (h : ETo C env d (eval iter env) ρ ls (.rng a b c) ls1) (L : Lp C env d target body (fun _ => True) (rngItems a b c) ρ ls1 f ρ1 ls2) (hsm : Builtin.Range.small a b c = true) (h0 : 0 ≤ Builtin.Range.rangeSize a b c)
    (hs : ∀ x, foldedSetIterable iter env x = pure x) : XTo C env d (exec (.For target iter body [] pos) env) ρ ls f ρ1 ls2 := fun A s am Q E hr R F K =>
  wpAny_For (h A s am _ E hr R F fun v h' tk am' p1 g1 R1 hv => by
    cases hv with
    | rng hrg =>
      have kp : ∀ x o, h'.get? x = some o → (h'.push { cls := .type "range_iterator", data := .fields #[rawInt a, rawInt (Builtin.Range.rangeSize a b c), rawInt c] }).get? x = some o := fun b o e => Heap.get?_push_of_some _ e
      refine wpAny_pyIter_range hrg hsm ?_
      refine for_loop (itr_range a b c h'.objs.size) hr (fun b hb => ?_) (R1.keeps kp) ((F.mono p1 g1).mono (Pre.refl _) (Gr.of_keeps kp)) (.inr ⟨Heap.get?_push_size _ rfl, rfl⟩) L fun fl h2 tk2 am2 p2 g2 R2 F2 rf => ?_
      · have : b = h'.objs.size := by simpa using hb
        rw [this]; exact R1.fresh (Nat.le_refl _)
      · refine K fl h2 tk2 am2 (p1.trans p2) (g1.s.trans (g2.s kp fun b hb => ?_)) R2 F2 rf
        have : b = h'.objs.size := by simpa using hb
        rw [this]; exact get_size) hs
/-! while -/
inductive Wl (C : Cx) (env : Env) (d : Nat) (test : Expr) (body : List Stmt) : Nat → Loc → LS → PF → Loc → LS → Prop where
  | stop {n : Nat} {ρ : Loc} {ls ls1 : LS} : BTo C env d (isTrue test env (eval test env)) ρ ls false ls1 → Wl C env d test body n ρ ls .next ρ ls1
  | next {n : Nat} {ρ ρ1 ρ2 : Loc} {ls ls1 ls2 ls3 : LS} {f : PF} : BTo C env d (isTrue test env (eval test env)) ρ ls true ls1 → XTo C env d (execs body env) ρ ls1 .next ρ1 ls2 → Wl C env d test body n ρ1 ls2 f ρ2 ls3 → Wl C env d test body (n + 1) ρ ls f ρ2 ls3
theorem x_while {test : Expr} {body : List Stmt} {pos : Pos} {n : Nat} (L : Wl C env d test body n ρ ls f ρ1 ls1) : XTo C env d (exec (.While test body [] pos) env) ρ ls f ρ1 ls1 := fun A s am Q E hr R F K => by
  refine wpAny_While ?_
  refine codeAny_whileLoop (fun n s' => ∃ am' ρ' ls' h' tk, s' = { s with heap := h', toks := tk } ∧ Pre am am' ∧ Rep C am' ls' h' tk ∧ Fm C env am' h' ρ' ∧ Wl C env d test body n ρ' ls' f ρ1 ls1 ∧ GrS env s.heap h') ?_ n
    ⟨am, ρ, ls, s.heap, s.toks, rfl, Pre.refl _, R, F, L, GrS.refl _ _⟩
  rintro n s' ⟨am', ρ', ls', h', tk, rfl, pf, R', F', L', g'⟩
  cases L' with
  | stop ht =>
    refine ht A _ am' _ _ hr R' F' fun h2 tk2 am2 p2 g2 R2 => ?_
    rw [if_neg (by decide)]
    exact wpAny_execs_nil (K _ h2 tk2 am2 (pf.trans p2) (g'.trans g2.s) R2 (F'.mono p2 g2) .next)
  | next ht hb hl =>
    refine ht A _ am' _ _ hr R' F' fun h2 tk2 am2 p2 g2 R2 => ?_
    rw [if_pos rfl]
    refine hb A _ am2 _ _ hr R2 (F'.mono p2 g2) fun fl h3 tk3 am3 p3 g3 R3 F3 rf => ?_
    cases rf
    exact ⟨_, Nat.lt_succ_self _, am3, _, _, h3, tk3, rfl, pf.trans (p2.trans p3), R3, F3, hl, g'.trans (g2.s.trans g3)⟩
end
end Mine
end
section
open PySem PySem.W PySem.Calls PyProof.Rows
set_option maxRecDepth 100000
set_option linter.unusedVariables false
namespace Mine
inductive Ts (C : Cx) (env : Env) (d : Nat) : List Expr → Loc → LS → Bool → LS → Prop where
  | nil {ρ : Loc} {ls : LS} : Ts C env d [] ρ ls true ls
  | one {c : Expr} {ρ : Loc} {ls ls1 : LS} {b : Bool} : BTo C env d (isTrue c env (eval c env)) ρ ls b ls1 → Ts C env d [c] ρ ls b ls1
inductive Cp (C : Cx) (env : Env) (d : Nat) (target elt : Expr) (ifs : List Expr) (ok : LS → Prop) (k : Nat) : List PV → Loc → LS → Loc → LS → Prop where
  | nil {ρ : Loc} {ls : LS} : ok ls → Cp C env d target elt ifs ok k [] ρ ls ρ ls
  | skip {p : PV} {ps : List PV} {ρ ρ1 ρ2 : Loc} {ls ls1 ls2 : LS} : ok ls → ATo C env target ρ p ρ1 → Ts C env d ifs ρ1 ls false ls1 → Cp C env d target elt ifs ok k ps ρ1 ls1 ρ2 ls2 → Cp C env d target elt ifs ok k (p :: ps) ρ ls ρ2 ls2
  | emit {p q : PV} {ps acc : List PV} {ρ ρ1 ρ2 : Loc} {ls ls1 ls2 ls3 : LS} : ok ls → ATo C env target ρ p ρ1 → Ts C env d ifs ρ1 ls true ls1 → ETo C env d (eval elt env) ρ1 ls1 q ls2 → ls2[k]? = some acc → acc.length ≤ sizeLine →
      Cp C env d target elt ifs ok k ps ρ1 (ls2.set k (acc ++ [q])) ρ2 ls3 → Cp C env d target elt ifs ok k (p :: ps) ρ ls ρ2 ls3
section
variable {C : Cx} {env : Env} {d : Nat} {ρ ρ1 ρ2 ρ3 : Loc} {ls ls1 ls2 ls3 : LS} {p q r : PV} {f : PF} {ps qs : List PV}
theorem Ts.run {ifs : List Expr} {b : Bool} (h : Ts C env d ifs ρ ls b ls1) {A : Around} {s : Shared} {am : Gh} {Q : Bool → Shared → Prop} {E : Value → Shared → Prop} (hr : Room A d) (R : Rep C am ls s.heap s.toks) (F : Fm C env am s.heap ρ)
    (K : ∀ h' tk am', Pre am am' → Gr s.heap h' → Rep C am' ls1 h' tk → Q b { s with heap := h', toks := tk }) :
    wpAny (model C.prog C.w) A (forIn ifs true fun c r => if r = true then do let ok ← isTrue c env (eval c env); pure (ForInStep.yield ok) else pure (ForInStep.yield r)) Q E s := by
  cases h with
  | nil => rw [List.forIn_nil]; exact wpAny_pure (K s.heap s.toks am (Pre.refl _) (Gr.refl _) R)
  | one hb =>
    rw [List.forIn_cons, if_pos rfl]
    refine wpAny_bind (wpAny_bind (hb A s am _ E hr R F fun h' tk am' p1 g1 R1 => wpAny_pure ?_))
    show wpAny _ A (forIn [] b _) Q E _
    rw [List.forIn_nil]
    exact wpAny_pure (K h' tk am' p1 g1 R1)
theorem comp_any {prog : Program} {w : World} {A : Around} {R : Result → Shared → Prop} {s : Shared} {elt target iter : Expr} {ifs : List Expr} {scope : Scope} {pos : Pos} {it acc : Value} {env : Env} (I : Nat → Shared → Prop)
    (turn : ∀ n s, I n s → wpAny (model prog w) A (pyNext it) (fun r s₁ => match r with
      | none => R (.ok .next) s₁
      | some v => wpAny (model prog w) A (letOwnedTupleGo target it v) (fun _ s₁' => wpAny (model prog w) A (assign target env v) (fun _ s₂ =>
          wpAny (model prog w) A (forIn ifs true fun c r => if r = true then do let ok ← isTrue c env (eval c env); pure (ForInStep.yield ok) else pure (ForInStep.yield r)) (fun ok s₃ =>
            if ok = true then wpAny (model prog w) A (eval elt env) (fun x s₄ =>
              wpAny (model prog w) A (call (.builtin "list.append") [acc, x]) (fun _ s₅ => ∃ m, m < n ∧ I m s₅) (notedBy (model prog w) A env fun e s' => R (.error e) s') s₄) (notedBy (model prog w) A env fun e s' => R (.error e) s') s₃
            else ∃ m, m < n ∧ I m s₃) (notedBy (model prog w) A env fun e s' => R (.error e) s') s₂) (notedBy (model prog w) A env fun e s' => R (.error e) s') s₁') (notedBy (model prog w) A env fun e s' => R (.error e) s') s₁) (notedBy (model prog w) A env fun e s' => R (.error e) s') s)
    (n : Nat) (h : I n s) : codeAny (model prog w) A (.compLoop (.ListComp elt [⟨target, iter, ifs, 0⟩] scope pos) 0 it acc env) R s := by
  refine codeAny_loop rfl I (fun n s hI => ?_) n h
  show wpAny _ A ((compTurn (.ListComp elt [⟨target, iter, ifs, 0⟩] scope pos) 0 it acc env).onRaise (fun x => do noteFrame x env; theTreesLotGoes x)) _ _ s
  refine wpAny_noted ?_
  rw [compTurn_list]
  refine wpAny_bind (wpAny_standAt (wpAny_bind (wpAny_mono (turn n s hI) (fun r s₁ h₁ => ?_) fun _ _ h' => h')))
  cases r with
  | none => exact wpAny_pure h₁
  | some v =>
    refine wpAny_bind (wpAny_mono h₁ (fun _ s₁' h₁' => ?_) fun _ _ h' => h')
    refine wpAny_bind (wpAny_mono h₁' (fun _ s₂ h₂ => wpAny_bind (wpAny_mono h₂ (fun ok s₃ h₃ => ?_) fun _ _ h' => h')) fun _ _ h' => h')
    cases ok with
    | false => exact wpAny_pure ⟨rfl, h₃⟩
    | true => exact wpAny_bind (wpAny_bind (wpAny_mono h₃ (fun x s₄ h₄ => wpAny_bind (wpAny_mono h₄ (fun _ s₅ h₅ => wpAny_pure (wpAny_pure ⟨rfl, h₅⟩)) fun _ _ h' => h')) fun _ _ h' => h'))
theorem comp_loop {ok : LS → Prop} {I D : Addr} {k : Nat} {fp : List Addr} {items : List PV} {St : Nat → Gh → Heap → Prop} {target elt iter : Expr} (W : Itr C target ok I fp items St) {ifs : List Expr} {scope : Scope} {pos : Pos} {A : Around} {s : Shared} {am : Gh} {R : Result → Shared → Prop}
    (hr : Room A d) (hfr : ∀ b ∈ fp, C.hb.get? b = none) (Rp : Rep C am ls s.heap s.toks) (F : Fm C env am s.heap ρ) (st : St 0 am s.heap) (hk : am.l[k]? = some D) (L : Cp C env d target elt ifs ok k items ρ ls ρ1 ls1)
    (K : ∀ h' tk am', Pre am am' → GrF env fp s.heap h' → Rep C am' ls1 h' tk → Fm C env am' h' ρ1 → R (.ok .next) { s with heap := h', toks := tk }) :
    codeAny (model C.prog C.w) A (.compLoop (.ListComp elt [⟨target, iter, ifs, 0⟩] scope pos) 0 (.ref I) (.ref D) env) R s := by
  refine comp_any (fun n s' => ∃ i am' ρ' ls' h' tk, s' = { s with heap := h', toks := tk } ∧ n = items.length - i ∧ i ≤ items.length ∧ Pre am am' ∧ Rep C am' ls' h' tk ∧ Fm C env am' h' ρ' ∧ St i am' h' ∧ Cp C env d target elt ifs ok k (items.drop i) ρ' ls' ρ1 ls1 ∧ GrF env fp s.heap h') ?_ items.length
    ⟨0, am, ρ, ls, s.heap, s.toks, rfl, rfl, Nat.zero_le _, Pre.refl _, Rp, F, st, L, fun b o e _ _ _ => e⟩
  rintro n s' ⟨i, am', ρ', ls', h', tk, rfl, rfl, hi, pf, R', F', st', L', g'⟩
  have fresh : ∀ b ∈ fp, b ∉ am'.l := fun b hb => R'.not_am fun xs hl => by
    obtain ⟨o, ho, ht⟩ := W.obj st' b hb
    obtain ⟨o', ho', hc, hn, hd⟩ := hl
    rw [ho] at ho'; cases ho'
    exact ht.1 ⟨hc, _, hn, hd⟩
  have tool : ∀ b o, b ∈ fp → h'.get? b = some o → Tool o := fun b o hb e => by
    obtain ⟨o', ho', ht⟩ := W.obj st' b hb
    rw [e] at ho'; cases ho'; exact ht
  have after : ∀ h2, (∀ b o, b ∉ fp → h'.get? b = some o → h2.get? b = some o) → Rep C am' ls' h2 tk ∧ Fm C env am' h2 ρ' := fun h2 k =>
    ⟨R'.change (X := fun b => b ∈ fp) (fun b o hb e => k b o hb e) hfr fresh fun b o hb e => (tool b o hb e).2.1, F'.keepsX (X := fun b => b ∈ fp) (fun b o hb e => k b o hb e) tool⟩
  cases e : items[i]? with
  | none =>
    have hi' : items.length ≤ i := by simpa using e
    have : i = items.length := Nat.le_antisymm hi hi'
    subst this
    rw [List.drop_length] at L'
    cases L' with
    | nil hok =>
      refine W.done hr R' hok st' fun h2 tk2 z2 k => ?_
      exact K h2 tk2 am' pf (g'.keep k) ((after h2 k).1.up z2) (after h2 k).2
  | some p =>
    have hlt : i < items.length := (List.getElem?_eq_some_iff.mp e).1
    have hd : items.drop i = p :: items.drop (i + 1) := by
      rw [List.drop_eq_getElem_cons hlt, (List.getElem?_eq_some_iff.mp e).2]
    rw [hd] at L'
    have head : ∀ {ρa : Loc} (Qa : Shared → Prop) (E : Value → Shared → Prop) (N : Shared → Prop), ok ls' → ATo C env target ρ' p ρa →
        (∀ h3 tk3, GrF env fp s.heap h3 → Rep C am' ls' h3 tk3 → Fm C env am' h3 ρa → St (i + 1) am' h3 → Qa { s with heap := h3, toks := tk3 }) →
        wpAny (model C.prog C.w) A (pyNext (.ref I)) (fun r s₁ => match r with
          | none => N s₁
          | some v => wpAny (model C.prog C.w) A (letOwnedTupleGo target (.ref I) v) (fun _ s₁' => wpAny (model C.prog C.w) A (assign target env v) (fun _ s₂ => Qa s₂) E s₁') E s₁) E { s with heap := h', toks := tk } := by
      intro ρa Qa E N hok ha KK
      refine wpAny_mono (W.item (Q := fun v s₁' => wpAny (model C.prog C.w) A (assign target env v) (fun _ s₂ => Qa s₂) E s₁') hr R' hok st' e fun v h2 tk2 z2 k st2 hv => ?_) (fun r s₁ x => ?_) fun _ _ x => x
      · refine ha A d _ am' ls' v _ E hr ((after h2 k).1.up z2) (after h2 k).2 hv fun h3 tk3 g3 R3 F3 => ?_
        refine KK h3 tk3 ((g'.keep k).step g3) R3 F3 (W.stay st2 (Pre.refl _) fun b hb o eo => ?_)
        obtain ⟨o', ho', ht⟩ := W.obj st2 b hb
        rw [eo] at ho'; cases ho'
        exact g3 b o eo ht.1 ((after h2 k).2.notTool eo ht)
      · cases r with
        | none => exact x.elim
        | some v => exact x
    have moved : ∀ {h3 h4 am4}, St (i + 1) am' h3 → Pre am' am4 → Gr h3 h4 → St (i + 1) am4 h4 := fun {h3 h4 am4} st3 p4 g4 => W.stay st3 p4 fun b hb o eo => by
      obtain ⟨o', ho', ht⟩ := W.obj st3 b hb
      rw [eo] at ho'; cases ho'
      exact g4 b o eo ht.1
    cases L' with
    | skip hok ha ht hl =>
      refine head _ _ _ hok ha fun h3 tk3 g3 R3 F3 st3 => ?_
      refine ht.run hr R3 F3 fun h4 tk4 am4 p4 g4 R4 => ?_
      rw [if_neg (by decide)]
      exact ⟨_, by omega, i + 1, am4, _, _, h4, tk4, rfl, rfl, hlt, pf.trans p4, R4, F3.mono p4 g4, moved st3 p4 g4, hl, g3.step g4.s⟩
    | emit hok ha ht he hacc hsz hl =>
      refine head _ _ _ hok ha fun h3 tk3 g3 R3 F3 st3 => ?_
      refine ht.run hr R3 F3 fun h4 tk4 am4 p4 g4 R4 => ?_
      rw [if_pos rfl]
      refine he A _ am4 _ _ hr R4 (F3.mono p4 g4) fun v h5 tk5 am5 p5 g5 R5 hv => ?_
      have hD : am5.l[k]? = some D := prefix_get (pf.trans (p4.trans p5)) hk
      obtain ⟨vs, hp, hvs⟩ := R5.its hD hacc
      refine wpAny_list_append_plain hp (fun h6 hp6 hs6 => ?_) (by rw [List.size_toArray, hvs.length]; exact hsz)
      obtain ⟨R6, g6⟩ := R5.put (l' := _ ++ [_]) (vs' := vs ++ [v]) hD hacc (fun b hb => hs6.2 b hb) (by simpa using hp6) (hvs.append (.cons hv .nil))
      have gg := g4.trans (g5.trans g6)
      exact ⟨_, by omega, i + 1, am5, _, _, h6, tk5, rfl, rfl, hlt, pf.trans (p4.trans p5), R6, F3.mono (p4.trans p5) gg, moved st3 (p4.trans p5) gg, hl, g3.step gg.s⟩
end
end Mine
end
section
open PySem PySem.W PySem.Calls PyProof.Rows
set_option maxRecDepth 100000
set_option linter.unusedVariables false
namespace Mine
/-- the block of a comprehension -/
def cenvOf (scope : Scope) (env : Env) (L : Addr) (cl : List (Str × Addr)) : Env :=
  { scope := relabel scope env, locals := L, globals := env.globals, cells := cellsFrom (L + 1) scope.names cl, qual := env.qual, func := none, code := env.code, frame := env.frame, builtins := env.builtins }
inductive ClOk (env : Env) : List (Str × Addr) → Prop where
  | nil : ClOk env []
  | cons {x : Str} {c : Addr} {cl : List (Str × Addr)} : env.cells.lookup x = some c → ClOk env cl → ClOk env ((x, c) :: cl)
theorem ClOk.look {env : Env} {cl : List (Str × Addr)} (h : ClOk env cl) : ∀ {x : Str} {c : Addr}, cl.lookup x = some c → env.cells.lookup x = some c := by
  induction h with
  | nil => intro x c e; simp at e
  | cons h1 _ ih =>
    intro x c e
    rw [List.lookup_cons] at e
    split at e
    · rename_i hb
      have hb' := beq_iff_eq.mp hb
      rw [hb']; cases e; exact h1
    · exact ih e
inductive Cl (env : Env) (scope : Scope) (cl : List (Str × Addr)) (ρ : Loc) : Loc → Prop where
  | nil : Cl env scope cl ρ []
  | cons {x : Str} {p : PV} {c : Addr} {ρc : Loc} : ρ.lookup x = some p → env.kindOf x ≠ some .local → env.cells.lookup x = some c → (relabel scope env).names.lookup x ≠ some .local → (∀ n, (cellsFrom n scope.names cl).lookup x = some c) → Cl env scope cl ρ ρc → Cl env scope cl ρ ((x, p) :: ρc)
theorem Cl.look {env : Env} {scope : Scope} {cl : List (Str × Addr)} {ρ ρc : Loc} (h : Cl env scope cl ρ ρc) : ∀ {x : Str} {p : PV}, ρc.lookup x = some p → ∃ c, ρ.lookup x = some p ∧ env.kindOf x ≠ some .local ∧ env.cells.lookup x = some c ∧ (relabel scope env).names.lookup x ≠ some .local ∧ ∀ n, (cellsFrom n scope.names cl).lookup x = some c := by
  induction h with
  | nil => intro x p e; simp at e
  | cons h1 h2 h3 h4 h5 _ ih =>
    intro x p e
    rw [List.lookup_cons] at e
    split at e
    · rename_i hb
      have hb' := beq_iff_eq.mp hb
      subst hb'; cases e; exact ⟨_, h1, h2, h3, h4, h5⟩
    · exact ih e
theorem cellsFrom_look : ∀ (names : List (Str × NameKind)) (h : Heap) (cl : List (Str × Addr)) {x : Str} {c : Addr}, (cellsFrom h.objs.size names cl).lookup x = some c → (h.objs.size ≤ c ∧ (pushCells h names).IsCell c none) ∨ cl.lookup x = some c
  | [], h, cl, x, c, e => .inr e
  | (name, kind) :: r, h, cl, x, c, e => by
    unfold cellsFrom at e
    unfold pushCells
    split at e
    · rename_i hk
      rw [if_pos hk]
      have hs : (h.push { cls := .type "cell", data := .cell none }).objs.size = h.objs.size + 1 := Heap.size_push ..
      rw [← hs] at e
      rcases cellsFrom_look r _ _ e with ⟨h1, h2⟩ | h1
      · exact .inl ⟨by rw [hs] at h1; exact Nat.le_of_succ_le h1, h2⟩
      · rw [List.lookup_cons] at h1
        split at h1
        · cases h1
          exact .inl ⟨Nat.le_refl _, ⟨_, pushCells_keeps r _ _ _ (Heap.get?_push_size _ rfl), rfl⟩⟩
        · exact .inr h1
    · rename_i hk
      rw [if_neg hk]
      exact cellsFrom_look r h cl e
theorem cellsFrom_inj : ∀ (names : List (Str × NameKind)) (n : Nat) (cl : List (Str × Addr)), (∀ x y c, cl.lookup x = some c → cl.lookup y = some c → x = y) → (∀ x c, cl.lookup x = some c → c < n) →
    ∀ x y c, (cellsFrom n names cl).lookup x = some c → (cellsFrom n names cl).lookup y = some c → x = y
  | [], n, cl, h1, h2 => h1
  | (name, kind) :: r, n, cl, h1, h2 => by
    unfold cellsFrom
    split
    · refine cellsFrom_inj r (n + 1) ((name, n) :: cl) (fun x y c ex ey => ?_) fun x c ex => ?_
      · rw [List.lookup_cons] at ex ey
        split at ex
        · rename_i _ a
          cases ex
          split at ey
          · rename_i _ b; exact (beq_iff_eq.mp a).trans (beq_iff_eq.mp b).symm
          · exact absurd (h2 _ _ ey) (Nat.lt_irrefl _)
        · split at ey
          · cases ey; exact absurd (h2 _ _ ex) (Nat.lt_irrefl _)
          · exact h1 x y c ex ey
      · rw [List.lookup_cons] at ex
        split at ex
        · cases ex; exact Nat.lt_succ_self _
        · exact Nat.lt_succ_of_lt (h2 _ _ ex)
    · exact cellsFrom_inj r n cl h1 h2
theorem pushCells_size : ∀ (names : List (Str × NameKind)) (h : Heap), h.objs.size ≤ (pushCells h names).objs.size
  | [], h => Nat.le_refl _
  | (_, kind) :: r, h => by
    unfold pushCells
    split
    · exact Nat.le_trans (by rw [Heap.size_push]; exact Nat.le_succ _) (pushCells_size r _)
    · exact pushCells_size r h
section
variable {C : Cx} {env : Env} {d : Nat} {ρ ρ1 ρ2 ρ3 : Loc} {ls ls1 ls2 ls3 : LS} {p q r : PV} {f : PF} {ps qs : List PV}
theorem wp_compEnv {M : Model} {A : Around} {s : Shared} {Q : Env → Shared → Prop} {E : Value → Shared → Prop} {scope : Scope} {cl : List (Str × Addr)}
    (h : Q { scope, locals := s.heap.objs.size, globals := env.globals, cells := cellsFrom (s.heap.objs.size + 1) scope.names cl, qual := env.qual, func := none, code := env.code, frame := env.frame, builtins := env.builtins } { s with heap := pushCells (s.heap.push { cls := .type "dict", data := .dict #[] }) scope.names }) :
    wpAny M A (newFunctionEnv scope env.globals cl [] env.qual none .none (some env)) Q E s := by
  simp only [newFunctionEnv, Option.isSome_some, if_true]
  refine wpAny_bind (wpAny_alloc ?_)
  refine wpAny_bind (wpAny_layCells _ (fun name kind cells => by cases hkc : kind == NameKind.cell <;> simp [hkc]) _ _ _ _ ?_)
  rw [show ({ s with heap := s.heap.push { cls := .type "dict", data := .dict #[] } } : Shared).heap.objs.size = s.heap.objs.size + 1 from Heap.size_push ..]
  exact wpAny_bind (wpAny_pure (wpAny_pure h))
theorem comp_block {ok : LS → Prop} {I : Addr} {fp : List Addr} {items : List PV} {St : Nat → Gh → Heap → Prop} {target elt iter : Expr} (W : Itr C target ok I fp items St) {ifs : List Expr} {scope : Scope} {pos : Pos} {cl : List (Str × Addr)} {ρc : Loc} {A : Around} {s : Shared} {am : Gh} {RR : Value → Addr → Result → Shared → Prop} {E : Value → Shared → Prop}
    (hr : Room A d) (hfr : ∀ b ∈ fp, C.hb.get? b = none) (Rp : Rep C am ls s.heap s.toks) (F : Fm C env am s.heap ρ) (st : St 0 am s.heap) (hkind : scope.kind = .function) (hcl : ClOk env cl) (hρ : Cl env scope cl ρ ρc)
    (L : ∀ Lc, ∃ ρ1, Cp C (cenvOf scope env Lc cl) d target elt ifs ok ls.length items ρc (ls ++ [[]]) ρ1 ls1)
    (K : ∀ D Lc h' tk am' m, Pre (am.add (D)) (am') → s.heap.get? Lc = none → C.hb.get? Lc = none → Lc ∉ am'.l → h'.Ns Lc m → (∀ b o, s.heap.get? b = some o → ¬ IsLst o → b ∉ fp → h'.get? b = some o) → Rep C am' ls1 h' tk → RR (.ref D) Lc (.ok .next) { s with heap := h', toks := tk }) :
    wpAny (model C.prog C.w) A (newList []) (fun acc s₃ => wpAny (model C.prog C.w) A (newFunctionEnv scope env.globals cl [] env.qual none .none (some env)) (fun cenv s₄ =>
      codeAny (model C.prog C.w) A (.compStart (.ListComp elt [⟨target, iter, ifs, 0⟩] scope pos) 0 (.ref I) acc { cenv with scope := relabel scope env }) (RR acc cenv.locals) s₄) E s₃) E s := by
  refine wpAny_newList ?_ (Nat.zero_le _)
  refine wp_compEnv ?_
  dsimp only
  generalize hh1 : s.heap.push { cls := .type "list", data := .seq ([] : List Value).toArray } = h1
  have hs1 : h1.objs.size = s.heap.objs.size + 1 := by rw [← hh1]; exact Heap.size_push ..
  have k1 : ∀ b o, s.heap.get? b = some o → h1.get? b = some o := fun b o e => by rw [← hh1]; exact Heap.get?_push_of_some _ e
  have R1 : Rep C (am.add (s.heap.objs.size)) (ls ++ [[]]) h1 s.toks := Rp.more get_size k1 ⟨_, by rw [← hh1]; exact Heap.get?_push_size _ rfl⟩ .nil
  generalize hh2 : h1.push { cls := .type "dict", data := .dict #[] } = h2
  have hs2 : h2.objs.size = h1.objs.size + 1 := by rw [← hh2]; exact Heap.size_push ..
  have hn2 : h2.Ns h1.objs.size fun _ => none := by rw [← hh2]; exact Heap.Ns.new ..
  have k2 : ∀ b o, h1.get? b = some o → h2.get? b = some o := fun b o e => by rw [← hh2]; exact Heap.get?_push_of_some _ e
  have k3 := pushCells_keeps scope.names h2
  have kk : ∀ b o, s.heap.get? b = some o → (pushCells h2 scope.names).get? b = some o := fun b o e => k3 b o (k2 b o (k1 b o e))
  have R3 : Rep C (am.add (s.heap.objs.size)) (ls ++ [[]]) (pushCells h2 scope.names) s.toks := R1.keeps fun b o e => k3 b o (k2 b o e)
  have pf : Pre am (am.add (s.heap.objs.size)) := Pre.add _ _
  have oldc : ∀ x c, env.cells.lookup x = some c → c < s.heap.objs.size := fun x c e => by
    obtain ⟨ov, o, ho, _⟩ := F.all x c e
    exact Heap.lt_size ho
  have F3 : Fm C (cenvOf scope env h1.objs.size cl) (am.add (s.heap.objs.size)) (pushCells h2 scope.names) ρc := by
    refine ⟨hkind, F.gl, F.bl, ?_, fun x c e => ?_, ⟨_, hn2.keeps k3, fun x q e hx => ?_⟩, fun x q e hx => ?_, fun x c e => ?_, ?_⟩
    · exact Rp.fresh (by show s.heap.objs.size ≤ h1.objs.size; rw [hs1]; exact Nat.le_succ _)
    · have e' : (cellsFrom h2.objs.size scope.names cl).lookup x = some c := by rw [hs2]; exact e
      rcases cellsFrom_look _ _ _ e' with ⟨h, _⟩ | h
      · exact Rp.fresh (Nat.le_trans (by rw [hs2, hs1]; exact Nat.le_succ_of_le (Nat.le_succ _)) h)
      · exact F.frc x c (hcl.look h)
    · obtain ⟨c, _, _, _, h4, _⟩ := hρ.look e
      exact absurd hx h4
    · obtain ⟨c, e1, e2, e3, e4, e5⟩ := hρ.look e
      obtain ⟨c', v, hc', hv, rv⟩ := F.cel x q e1 e2
      rw [e3] at hc'; cases hc'
      exact ⟨c, v, e5 _, hv.keeps kk, rv.mono pf (Gr.of_keeps kk)⟩
    · have e' : (cellsFrom h2.objs.size scope.names cl).lookup x = some c := by rw [hs2]; exact e
      rcases cellsFrom_look _ _ _ e' with ⟨_, h⟩ | h
      · exact ⟨_, h⟩
      · obtain ⟨ov, ho⟩ := F.all x c (hcl.look h)
        exact ⟨ov, ho.keeps kk⟩
    · exact cellsFrom_inj _ _ _ (fun x y c ex ey => F.apart x y c (hcl.look ex) (hcl.look ey)) fun x c ex => by
        have := oldc x c (hcl.look ex)
        rw [hs1]; exact Nat.lt_succ_of_lt (Nat.lt_succ_of_lt this)
  have st3 : St 0 (am.add (s.heap.objs.size)) (pushCells h2 scope.names) := W.stay st pf fun b _ o e => kk b o e
  obtain ⟨ρ1, L1⟩ := L h1.objs.size
  have fin : codeAny (model C.prog C.w) A (.compLoop (.ListComp elt [⟨target, iter, ifs, 0⟩] scope pos) 0 (.ref I) (.ref s.heap.objs.size) (cenvOf scope env h1.objs.size cl)) (RR (.ref s.heap.objs.size) h1.objs.size) { s with heap := pushCells h2 scope.names } := by
    refine comp_loop W hr hfr R3 F3 st3 (D := s.heap.objs.size) (Rp.last _) L1 fun h' tk am' p' g' R' F' => ?_
    obtain ⟨m, hn, _⟩ := F'.ns
    refine K s.heap.objs.size h1.objs.size h' tk am' m p' ?_ ?_ (R'.not_am fun xs => ns_not_list hn) hn (fun b o e n hb => ?_) R'
    · cases e : s.heap.get? h1.objs.size with
      | none => rfl
      | some o => have := Heap.lt_size e; rw [hs1] at this; exact absurd this (Nat.not_lt.mpr (Nat.le_succ _))
    · exact Rp.fresh (by rw [hs1]; exact Nat.le_succ _)
    · refine g' b o (kk b o e) n (fun z => ?_) hb
      have hlt := Heap.lt_size e
      rcases z with z | ⟨z, _⟩
      · have z' : b = h1.objs.size := z
        rw [z', hs1] at hlt; exact absurd hlt (Nat.not_lt.mpr (Nat.le_succ _))
      · have z' : h1.objs.size < b := z
        rw [hs1] at z'
        exact absurd (Nat.lt_trans (Nat.lt_succ_self _) z') (Nat.lt_asymm hlt)
  exact codeAny_compStart_list fin (W.self st3 fin)

/-- what may be gone through -/
def Src (C : Cx) (target : Expr) (p : PV) (ls : LS) (ok : LS → Prop) (items : List PV) : Prop :=
  ∀ (A : Around) (d : Nat) (s : Shared) (am : Gh) (v : Value) (Q : Value → Shared → Prop) (E : Value → Shared → Prop), Room A d → Rep C am ls s.heap s.toks → RV am s.heap p v →
    (∀ I fp St h' tk, s.toks ≤ tk → Itr C target ok I fp items St → (∀ b o, s.heap.get? b = some o → h'.get? b = some o) → (∀ b ∈ fp, s.heap.get? b = none) → St 0 am h' → Q (.ref I) { s with heap := h', toks := tk }) → wpAny (model C.prog C.w) A (pyIter v) Q E s
theorem src_list {target : Expr} {n : Nat} {items : List PV} (hn : ls[n]? = some items) : Src C target (.lst n) ls (fun ls => ls[n]? = some items) items := fun A d s am v Q E hr R hv K => by
  cases hv with
  | lst hm =>
    obtain ⟨vs, hp, _⟩ := R.its hm hn
    refine wpAny_pyIter_list hp.isList ?_
    refine K s.heap.objs.size [s.heap.objs.size] _ _ s.toks (Nat.le_refl _) (itr_list n items _) (fun b o e => Heap.get?_push_of_some _ e) (fun b hb => ?_) ⟨_, hm, ⟨_, Heap.get?_push_size _ rfl, rfl, rfl⟩⟩
    have : b = s.heap.objs.size := by simpa using hb
    rw [this]; exact get_size
theorem src_range {target : Expr} {a b c : Int} (hsm : Builtin.Range.small a b c = true) : Src C target (.rng a b c) ls (fun _ => True) (rngItems a b c) := fun A d s am v Q E hr R hv K => by
  cases hv with
  | rng hrg =>
    refine wpAny_pyIter_range hrg hsm ?_
    refine K s.heap.objs.size [s.heap.objs.size] _ _ s.toks (Nat.le_refl _) (itr_range a b c _) (fun b o e => Heap.get?_push_of_some _ e) (fun b hb => ?_) (.inr ⟨Heap.get?_push_size _ rfl, rfl⟩)
    have : b = s.heap.objs.size := by simpa using hb
    rw [this]; exact get_size
theorem x_for {target iter : Expr} {body : List Stmt} {pos : Pos} {ok : LS → Prop} {items : List PV} (h : ETo C env d (eval iter env) ρ ls p ls1) (S : Src C target p ls1 ok items) (L : Lp C env d target body ok items ρ ls1 f ρ1 ls2)
    (hs : ∀ x, foldedSetIterable iter env x = pure x) : XTo C env d (exec (.For target iter body [] pos) env) ρ ls f ρ1 ls2 := fun A s am Q E hr R F K =>
  wpAny_For (h A s am _ E hr R F fun v h' tk am' p1 g1 R1 hv => by
    refine S A d _ am' v _ E hr R1 hv fun I fp St h2 tk2 z2 W kp hfp st => ?_
    refine for_loop W hr (fun b hb => ?_) ((R1.keeps kp).up z2) ((F.mono p1 g1).mono (Pre.refl _) (Gr.of_keeps kp)) st L fun fl h3 tk3 am3 p3 g3 R3 F3 rf => ?_
    · cases e : C.hb.get? b with
      | none => rfl
      | some o => have := R1.old b o e; rw [show h'.get? b = none from hfp b hb] at this; cases this
    · exact K fl h3 tk3 am3 (p1.trans p3) (g1.s.trans (g3.s kp hfp)) R3 F3 rf) hs
theorem e_comp {target elt iter : Expr} {ifs : List Expr} {scope : Scope} {pos : Pos} {cl : List (Str × Addr)} {ρc : Loc} {ok : LS → Prop} {items : List PV} (h : ETo C env d (eval iter env) ρ ls p ls1) (S : Src C target p ls1 ok items)
    (hclos : closureFor scope env = pure cl) (hcl : ClOk env cl) (hρ : Cl env scope cl ρ ρc) (L : ∀ Lc, ∃ ρ1, Cp C (cenvOf scope env Lc cl) d target elt ifs ok ls1.length items ρc (ls1 ++ [[]]) ρ1 ls2)
    (hkind : scope.kind = .function) (hnames : ∀ x ∈ scope.names, x.2 = .local → scope.names.lookup x.1 = some .local) (hs : ∀ x, foldedSetIterable iter env x = pure x) :
    ETo C env d (eval (.ListComp elt [⟨target, iter, ifs, 0⟩] scope pos) env) ρ ls (.lst ls1.length) ls2 := fun A s am Q E hr R F K => by
  rw [eval_ListComp]
  refine wpAny_comprehension_free (use := none) rfl hs hclos hkind hnames (h A s am _ E hr R F fun v h' tk am' p1 g1 R1 hv => ?_)
  refine S A d _ am' v _ E hr R1 hv fun I fp St h2 tk2 z2 W kp hfp st => ?_
  have hfr : ∀ b ∈ fp, C.hb.get? b = none := fun b hb => by
    cases e : C.hb.get? b with
    | none => rfl
    | some o => have := R1.old b o e; rw [show h'.get? b = none from hfp b hb] at this; cases this
  refine comp_block (RR := fun acc Lc => compPost (model C.prog C.w) A E none Q acc Lc) W hr hfr ((R1.keeps kp).up z2) ((F.mono p1 g1).mono (Pre.refl _) (Gr.of_keeps kp)) st hkind hcl hρ L ?_
  intro D Lc h3 tk3 am3 m p3 hL1 hL2 hL3 hn3 k3 R3
  refine ⟨m, hn3, fun h4 hs4 => ?_⟩
  have R4 : Rep C am3 ls2 h4 tk3 := R3.change (X := fun b => b = Lc) (fun b o hb e => (hs4.2 b hb).trans e) (fun b q => by rw [q]; exact hL2) (fun b q => by rw [q]; exact hL3) fun b o q e => by rw [q] at e; exact ns_not_val hn3 e
  refine K (.ref D) h4 tk3 am3 (p1.trans ((Pre.add _ _).trans p3)) (fun b o e n => ?_) R4 (.lst (prefix_get p3 (R1.last _)))
  have e1 := g1 b o e n
  have e2 := kp b o e1
  have hbL : b ≠ Lc := fun q => by rw [q] at e2; rw [show h2.get? Lc = none from hL1] at e2; cases e2
  rw [hs4.2 b hbL]
  exact k3 b o e2 n fun hb => by rw [show h'.get? b = none from hfp b hb] at e1; cases e1
/-- y = [..], the store ahead of the block's end -/
theorem x_acomp {target elt iter : Expr} {ifs : List Expr} {scope : Scope} {pos spos py : Pos} {y : Str} {cl : List (Str × Addr)} {ρc : Loc} {ok : LS → Prop} {items : List PV} (h : ETo C env d (eval iter env) ρ ls p ls1) (S : Src C target p ls1 ok items)
    (hclos : closureFor scope env = pure cl) (hcl : ClOk env cl) (hρ : Cl env scope cl ρ ρc) (L : ∀ Lc, ∃ ρ1, Cp C (cenvOf scope env Lc cl) d target elt ifs ok ls1.length items ρc (ls1 ++ [[]]) ρ1 ls2)
    (hy : env.kindOf y = some .local) (hsw : swapsWith (.ListComp elt [⟨target, iter, ifs, 0⟩] scope pos) (some (.Name y py)) spos.line env = pure true)
    (hkind : scope.kind = .function) (hnames : ∀ x ∈ scope.names, x.2 = .local → scope.names.lookup x.1 = some .local) (hs : ∀ x, foldedSetIterable iter env x = pure x) :
    XTo C env d (exec (.Assign [.Name y py] (.ListComp elt [⟨target, iter, ifs, 0⟩] scope pos) spos) env) ρ ls .next (pset ρ y (.lst ls1.length)) ls2 := fun A s am Q E hr R F K => by
  rw [exec_Assign_Name_used _ _ _ _ hsw]
  refine wpAny_bind (wpAny_standAt (wpAny_bind ?_))
  show wpAny _ A (do let _ ← comprehension (.ListComp elt [⟨target, iter, ifs, 0⟩] scope pos) scope env _ (newList []) false (eval iter env) (some (assign (.Name y py) env))) _ _ s
  refine wpAny_bind (wpAny_mono (wpAny_comprehension_free (use := some (assign (.Name y py) env)) (Q := fun _ s' => Q .next s') rfl hs hclos hkind hnames
    (h A s am _ E hr R F fun v h' tk am' p1 g1 R1 hv => ?_)) (fun _ s' hq => wpAny_pure (wpAny_pure hq)) fun _ _ e => e)
  refine S A d _ am' v _ E hr R1 hv fun I fp St h2 tk2 z2 W kp hfp st => ?_
  have hfr : ∀ b ∈ fp, C.hb.get? b = none := fun b hb => by
    cases e : C.hb.get? b with
    | none => rfl
    | some o => have := R1.old b o e; rw [show h'.get? b = none from hfp b hb] at this; cases this
  have F2 := (F.mono p1 g1).mono (Pre.refl _) (Gr.of_keeps kp)
  refine comp_block (RR := fun acc Lc => compPost (model C.prog C.w) A E (some (assign (.Name y py) env)) (fun _ s' => Q .next s') acc Lc) W hr hfr ((R1.keeps kp).up z2) F2 st hkind hcl hρ L ?_
  intro D Lc h3 tk3 am3 m p3 hL1 hL2 hL3 hn3 k3 R3
  have pam : Pre am' am3 := (Pre.add _ _).trans p3
  have tool : ∀ b o, b ∈ fp → h2.get? b = some o → Tool o := fun b o hb e => by
    obtain ⟨o', ho', ht⟩ := W.obj st b hb
    rw [e] at ho'; cases ho'; exact ht
  have g3 : GrV h2 h3 := fun b o e v => k3 b o e (fun l => by rcases v with ⟨c, _⟩ | ⟨c, _⟩ <;> (have := l.1; rw [c] at this; exact absurd this (by decide))) fun hb => (tool b o hb e).2.1 v
  have kc : ∀ {c ov}, h2.IsCell c ov → h3.IsCell c ov := fun {c ov} x => by
    obtain ⟨o, ho, hd⟩ := x
    exact ⟨o, k3 c o ho (fun l => by obtain ⟨xs, n, e⟩ := l.2; rw [hd] at e; cases e) (fun hb => (tool c o hb ho).2.2.2 _ hd), hd⟩
  have F3 : Fm C env am3 h3 ρ := by
    refine ⟨F2.kind, F2.gl, F2.bl, F2.fr, F2.frc, ?_, fun x q e hx => ?_, fun x c e => ?_, F2.apart⟩
    · obtain ⟨m, hn, hm⟩ := F2.ns
      refine ⟨m, ?_, fun x q e hx => ?_⟩
      · obtain ⟨o, es, ep, ho, hd, r⟩ := hn
        exact ⟨o, es, ep, k3 _ o ho (fun l => by obtain ⟨xs, n, e⟩ := l.2; rw [hd] at e; cases e) (fun hb => (tool _ o hb ho).2.2.1 _ _ hd), hd, r⟩
      · obtain ⟨v, hv, r⟩ := hm x q e hx
        exact ⟨v, hv, r.monoV pam g3⟩
    · obtain ⟨c, v, hc, hv, r⟩ := F2.cel x q e hx
      exact ⟨c, v, hc, kc hv, r.monoV pam g3⟩
    · obtain ⟨ov, h⟩ := F2.all x c e
      exact ⟨ov, kc h⟩
  show wpAny _ A (assign (.Name y py) env (.ref D)) _ _ _
  have hD : RV am3 h3 (.lst ls1.length) (.ref D) := .lst (prefix_get p3 (R1.last _))
  refine wpAny_assign_Name (st_local R3 F3 hD hy fun h4 tk4 g4 R4 F4 => ?_)
  have hLne : Lc ≠ env.locals := fun q => by
    obtain ⟨m2, ⟨o, _, _, ho, _⟩, _⟩ := F2.ns
    rw [← q, show h2.get? Lc = none from hL1] at ho; cases ho
  have hLc : ¬ ownOf env Lc := fun z => by
    rcases z with z | ⟨_, x, hx⟩
    · exact hLne z
    · obtain ⟨ov, o, ho, _⟩ := F2.all x Lc hx
      rw [show h2.get? Lc = none from hL1] at ho; cases ho
  have hn4 : h4.Ns Lc m := by
    obtain ⟨o, es, ep, ho, hd, r⟩ := hn3
    exact ⟨o, es, ep, g4 Lc o ho (fun l => by obtain ⟨xs, n, e⟩ := l.2; rw [hd] at e; cases e) hLc, hd, r⟩
  refine ⟨m, hn4, fun h5 hs5 => ?_⟩
  have R5 : Rep C am3 ls2 h5 tk4 := R4.change (X := fun b => b = Lc) (fun b o hb e => (hs5.2 b hb).trans e) (fun b q => by rw [q]; exact hL2) (fun b q => by rw [q]; exact hL3) fun b o q e => by rw [q] at e; exact ns_not_val hn4 e
  have v5 : GrV h4 h5 := fun b o e v => by
    by_cases q : b = Lc
    · subst q; exact absurd v (ns_not_val hn4 e)
    · rw [hs5.2 b q]; exact e
  have F5 : Fm C env am3 h5 (pset ρ y (.lst ls1.length)) := by
    refine ⟨F4.kind, F4.gl, F4.bl, F4.fr, F4.frc, ?_, fun x q e hx => ?_, fun x c e => ?_, F4.apart⟩
    · obtain ⟨m, hn, hm⟩ := F4.ns
      refine ⟨m, hn.sameBut hs5 (Ne.symm hLne), fun x q e hx => ?_⟩
      obtain ⟨v, hv, r⟩ := hm x q e hx
      exact ⟨v, hv, r.monoV (Pre.refl _) v5⟩
    · obtain ⟨c, v, hc, hv, r⟩ := F4.cel x q e hx
      exact ⟨c, v, hc, hv.sameBut hs5 (cell_ne_ns hv hn4), r.monoV (Pre.refl _) v5⟩
    · obtain ⟨ov, h⟩ := F4.all x c e
      exact ⟨ov, h.sameBut hs5 (cell_ne_ns h hn4)⟩
  refine K .next h5 tk4 am3 (p1.trans pam) (fun b o e n hb => ?_) R5 F5 .next
  have e1 := g1 b o e n
  have e2 := kp b o e1
  have hbL : b ≠ Lc := fun q => by rw [q] at e2; rw [show h2.get? Lc = none from hL1] at e2; cases e2
  rw [hs5.2 b hbL]
  exact g4 b o (k3 b o e2 n fun hb => by rw [show h'.get? b = none from hfp b hb] at e1; cases e1) n hb
end
end Mine
end
section
open PySem PySem.W PySem.Calls PyProof.Rows
set_option maxRecDepth 100000
set_option linter.unusedVariables false
namespace Mine
theorem lookup_rev : ∀ (l : List (Str × Value)) (acc : List (Str × Value)) (x : Str) (v : Value), (l.map (·.1)).Nodup → l.lookup x = some v → (l.reverse ++ acc).lookup x = some v
  | [], _, _, _, _, h => by simp at h
  | (n, u) :: r, acc, x, v, hn, h => by
    simp only [List.map_cons, List.nodup_cons] at hn
    rw [List.lookup_cons] at h
    rw [List.reverse_cons, List.append_assoc]
    cases hb : x == n with
    | true =>
      rw [hb] at h; cases h
      have e : x = n := by simpa using hb
      subst e
      have : r.reverse.lookup x = none := by
        cases hz : r.reverse.lookup x with
        | none => rfl
        | some w =>
          have := mem_of_lookup hz
          exact absurd (List.mem_map_of_mem (f := (·.1)) (List.mem_reverse.mp this)) hn.1
      rw [List.lookup_append, this]
      simp
    | false => rw [hb] at h; exact lookup_rev r _ x v hn.2 h

section
variable {C : Cx} {env : Env} {d : Nat} {ρ ρ1 ρ2 : Loc} {ls ls1 ls2 ls3 : LS} {p q r : PV} {f : PF} {ps qs : List PV} {ks : List (Str × PV)}
/-- a def called in any way (defaults, keywords), without cells -/
theorem c_defK {fa : Addr} {o : Obj} {fd : FuncData} {body : List Stmt} {ρ0 : Loc} (ok : C.Ok)
    (ho : C.hb.get? fa = some o) (hdat : o.data = .func fd) (hcd : C.hb.CodeRec fd.code fd.qualname) (hbody : fd.body = .stmts body)
    (hbind : ∀ (s : Shared) am vs kv, (∀ b o, C.hb.get? b = some o → s.heap.get? b = some o) → RVs am s.heap ps vs → RKs am s.heap ks kv → ∃ binds, BindsTo s fd ⟨vs, kv⟩ binds ∧ RKs am s.heap ρ0 binds)
    (hcell : ∀ x ∈ fd.scope.names, x.2 ≠ .cell) (hloc : ∀ x ∈ ρ0.map (·.1), fd.scope.names.lookup x = some .local)
    (hnd : (ρ0.map (·.1)).Nodup) (hclo : fd.closure = []) (hgl : fd.globals = mainGlobals) (hbl : fd.builtins = builtinsNs)
    (h : ∀ L, RTo C (callEnv fd L fa) d (execs body (callEnv fd L fa)) ρ0 ls p ls1)
    (hco : fd.scope.isCoroutine = false := by rfl) (hgen : fd.scope.isGenerator = false := by rfl) (hk : fd.scope.kind = .function := by rfl) :
    CTo C (d + 1) (.ref fa) ps ks ls p ls1 := by
  intro A s am vs kv Q E hr R hvs hkv K
  refine wpAny_call ?_
  have keep := R.old
  obtain ⟨binds, hb, rk⟩ := hbind s am vs kv keep hvs hkv
  have hnm := rk.names
  refine codeAny_call_def (by have := hr.depth; omega) (keep _ _ ho) hdat (ok.lim.keeps keep) (hcd.keeps keep) hbody hb hcell ?_ ?_ hco hgen hk
  · intro x hx
    exact hloc _ (by rw [← hnm]; exact List.mem_map_of_mem (f := (·.1)) hx)
  · intro h' hns hkeep
    have R1 : Rep C am ls h' (s.toks + binds.length) := (R.keeps hkeep).up (Nat.le_add_right _ _)
    have rk1 := RKs.mono (Pre.refl _) (Gr.of_keeps hkeep) rk
    have hcl : (callEnv fd s.heap.objs.size fa).cells = [] := by show fd.closure = []; exact hclo
    have F1 : Fm C (callEnv fd s.heap.objs.size fa) am h' ρ0 := by
      refine ⟨hk, hgl, hbl, R.fresh (Nat.le_refl _), fun x c e => ?_, ⟨_, hns, fun x q e hx => ?_⟩, fun x q e hx => ?_, fun x c e => ?_, fun x y c e e' => ?_⟩
      · rw [hcl] at e; simp at e
      · obtain ⟨v, hv, rv⟩ := rk1.look e
        refine ⟨v, ?_, rv⟩
        have := lookup_rev binds [] x v (by rw [hnm]; exact hnd) hv
        simpa using this
      · obtain ⟨v, hv, rv⟩ := rk1.look e
        exact absurd (hloc x (by rw [← hnm]; exact List.mem_map_of_mem (f := (·.1)) (mem_of_lookup hv))) hx
      · rw [hcl] at e; simp at e
      · rw [hcl] at e; simp at e
    refine h s.heap.objs.size _ { s with heap := h', toks := s.toks + binds.length } am _ _ (hr.deeper _) R1 F1 fun fl h2 tk2 am2 p2 g2 R2 rv => ?_
    have z := K _ h2 tk2 am2 p2 (fun b o e n => ?_) R2 rv
    · cases fl <;> exact z
    · have hb := hkeep b o e
      have hlt : b < s.heap.objs.size := Heap.lt_size e
      refine g2 b o hb n fun z => ?_
      rcases z with z | ⟨_, x, hx⟩
      · have z' : b = s.heap.objs.size := z
        exact Nat.lt_irrefl _ (by rw [z'] at hlt; exact hlt)
      · rw [hcl] at hx; simp at hx
end
end Mine
end
section
open PySem PySem.W PySem.Calls PyProof.Rows
set_option maxRecDepth 100000
set_option linter.unusedVariables false
namespace Mine
theorem cmp_gt_flt {prog : Program} {w : World} {A : Around} {P : Nat → Value → Prop} (val : Nat → UInt64) (hval : ∀ i v, P i v → ∃ t, v = .float (val i) t) :
    CmpOf prog w A .Gt P (fun i j => Float64.cmp (val i) (val j) == some Ordering.gt) := fun i j vi vj s Q E hi hj h => by
  obtain ⟨t, rfl⟩ := hval i vi hi
  obtain ⟨u, rfl⟩ := hval j vj hj
  exact richCompare_gives (op := .Gt) (AutoFloatOps.typeIs_float s _ t) (AutoFloatOps.typeIs_float s _ u) F.slot_float_gt F.entry_float_gt (F.args_float_gt_2 _ _) (AutoFloatG4.float___gt___float_float_0 _ t _ u) (fun x => nomatch x) h
theorem cmp_lt_flt {prog : Program} {w : World} {A : Around} {P : Nat → Value → Prop} (val : Nat → UInt64) (hval : ∀ i v, P i v → ∃ t, v = .float (val i) t) :
    CmpOf prog w A .Lt P (fun i j => Float64.cmp (val i) (val j) == some Ordering.lt) := fun i j vi vj s Q E hi hj h => by
  obtain ⟨t, rfl⟩ := hval i vi hi
  obtain ⟨u, rfl⟩ := hval j vj hj
  exact richCompare_gives (op := .Lt) (AutoFloatOps.typeIs_float s _ t) (AutoFloatOps.typeIs_float s _ u) F.slot_float_lt F.entry_float_lt (F.args_float_lt_2 _ _) (AutoFloatG5.float___lt___float_float_0 _ t _ u) (fun x => nomatch x) h
def fmax (a b c : UInt64) : UInt64 := if (Float64.cmp b a == some Ordering.gt) = true then (if (Float64.cmp c b == some Ordering.gt) = true then c else b) else (if (Float64.cmp c a == some Ordering.gt) = true then c else a)
def fmin (a b c : UInt64) : UInt64 := if (Float64.cmp b a == some Ordering.lt) = true then (if (Float64.cmp c b == some Ordering.lt) = true then c else b) else (if (Float64.cmp c a == some Ordering.lt) = true then c else a)
def fat (a b c : UInt64) : Nat → UInt64
  | 0 => a
  | 1 => b
  | _ => c
theorem fat_at {a b c : UInt64} {t u x : Tok} {P : Tok → UInt64 → Prop} (ht : P t a) (hu : P u b) (hx : P x c) : ∀ (i : Nat) (v : Value), (#[Value.float a t, .float b u, .float c x])[i]? = some v → ∃ t, P t (fat a b c i) ∧ v = .float (fat a b c i) t
  | 0, v, h => by simp at h; exact ⟨t, ht, h.symm⟩
  | 1, v, h => by simp at h; exact ⟨u, hu, h.symm⟩
  | 2, v, h => by simp at h; exact ⟨x, hx, h.symm⟩
  | n + 3, v, h => by simp at h
section
variable {C : Cx} {env : Env} {d : Nat} {ρ ρ1 ρ2 : Loc} {ls ls1 ls2 ls3 : LS} {p q r : PV} {f : PF} {ps qs : List PV} {ks : List (Str × PV)}
theorem c_max3 {a b c : UInt64} : CTo C d (.builtin "max") [.flt a, .flt b, .flt c] [] ls (.flt (fmax a b c)) ls := .of fun A s am vs kv Q E hr R hvs hkv K => by
  cases hkv
  cases hvs with
  | cons h1 h2 => cases h2 with
    | cons h2 h3 => cases h3 with
      | cons h3 h4 =>
        cases h4; cases h1; cases h2; cases h3
        rename_i t ht u hu x hx
        have hT : (s.heap.push { cls := .type "tuple", data := .seq #[.float a t, .float b u, .float c x] }).IsTuple s.heap.objs.size #[.float a t, .float b u, .float c x] := ⟨_, Heap.get?_push_size _ rfl, rfl, 0, rfl⟩
        refine call_max_three (wpAny_pyIter_tuple hT ?_)
        have hsz : (s.heap.push { cls := .type "tuple", data := .seq #[.float a t, .float b u, .float c x] }).objs.size = s.heap.objs.size + 1 := Heap.size_push ..
        refine ⟨_, [_, s.heap.objs.size], [_], _, _, _, _, rfl, Walks.tuple (A := A.in1) hr.hand _ s.heap.objs.size (by rw [hsz]; exact Nat.ne_of_lt (Nat.lt_succ_self _)) #[.float a t, .float b u, .float c x],
          ⟨⟨_, Heap.get?_push_size _ rfl, rfl, rfl⟩, hT.push _⟩, fun d hd => ?_, by simp, cmp_gt_flt (fat a b c) (fun i v h => let ⟨t, _, e⟩ := fat_at (P := fun t x => am.τ t = some x) ht hu hx i v h; ⟨t, e⟩), fun v h' tk hP hk => ?_⟩
        · show d < ((s.heap.push _).push _).objs.size
          rw [Heap.size_push, hsz]
          rcases List.mem_cons.mp hd with rfl | hd
          · rw [hsz]; exact Nat.lt_succ_self _
          · rcases List.mem_cons.mp hd with rfl | hd
            · exact Nat.lt_succ_of_lt (Nat.lt_succ_self _)
            · cases hd
        · have hold : ∀ d o, s.heap.get? d = some o → h'.get? d = some o := fun d o e => by
            refine hk d o (fun hm => ?_) (Heap.get?_push_of_some _ (Heap.get?_push_of_some _ e))
            rcases List.mem_cons.mp hm with e1 | hm
            · have := Heap.lt_size e; rw [e1, hsz] at this; exact Nat.lt_irrefl _ (Nat.lt_of_succ_lt this)
            · cases hm
          obtain ⟨t', ht', rfl⟩ := fat_at (P := fun t x => am.τ t = some x) ht hu hx _ _ hP
          have e : fat a b c (argBest (fun i j => Float64.cmp (fat a b c i) (fat a b c j) == some Ordering.gt) (#[Value.float a t, .float b u, .float c x].size - 1)) = fmax a b c := by
            show fat a b c (argBest _ 2) = _
            unfold fmax
            simp only [argBest]
            by_cases h1 : (Float64.cmp b a == some Ordering.gt) = true
            · by_cases h2 : (Float64.cmp c b == some Ordering.gt) = true <;> simp [fat, h1, h2]
            · by_cases h2 : (Float64.cmp c a == some Ordering.gt) = true <;> simp [fat, h1, h2]
          rw [e] at ht' ⊢
          exact K (.float _ t') h' tk am (Pre.refl _) (Gr.of_keeps hold) (R.keeps hold) (.flt _ _ ht')
theorem c_min3 {a b c : UInt64} : CTo C d (.builtin "min") [.flt a, .flt b, .flt c] [] ls (.flt (fmin a b c)) ls := .of fun A s am vs kv Q E hr R hvs hkv K => by
  cases hkv
  cases hvs with
  | cons h1 h2 => cases h2 with
    | cons h2 h3 => cases h3 with
      | cons h3 h4 =>
        cases h4; cases h1; cases h2; cases h3
        rename_i t ht u hu x hx
        have hT : (s.heap.push { cls := .type "tuple", data := .seq #[.float a t, .float b u, .float c x] }).IsTuple s.heap.objs.size #[.float a t, .float b u, .float c x] := ⟨_, Heap.get?_push_size _ rfl, rfl, 0, rfl⟩
        refine call_min_three (wpAny_pyIter_tuple hT ?_)
        have hsz : (s.heap.push { cls := .type "tuple", data := .seq #[.float a t, .float b u, .float c x] }).objs.size = s.heap.objs.size + 1 := Heap.size_push ..
        refine ⟨_, [_, s.heap.objs.size], [_], _, _, _, _, rfl, Walks.tuple (A := A.in1) hr.hand _ s.heap.objs.size (by rw [hsz]; exact Nat.ne_of_lt (Nat.lt_succ_self _)) #[.float a t, .float b u, .float c x],
          ⟨⟨_, Heap.get?_push_size _ rfl, rfl, rfl⟩, hT.push _⟩, fun d hd => ?_, by simp, cmp_lt_flt (fat a b c) (fun i v h => let ⟨t, _, e⟩ := fat_at (P := fun t x => am.τ t = some x) ht hu hx i v h; ⟨t, e⟩), fun v h' tk hP hk => ?_⟩
        · show d < ((s.heap.push _).push _).objs.size
          rw [Heap.size_push, hsz]
          rcases List.mem_cons.mp hd with rfl | hd
          · rw [hsz]; exact Nat.lt_succ_self _
          · rcases List.mem_cons.mp hd with rfl | hd
            · exact Nat.lt_succ_of_lt (Nat.lt_succ_self _)
            · cases hd
        · have hold : ∀ d o, s.heap.get? d = some o → h'.get? d = some o := fun d o e => by
            refine hk d o (fun hm => ?_) (Heap.get?_push_of_some _ (Heap.get?_push_of_some _ e))
            rcases List.mem_cons.mp hm with e1 | hm
            · have := Heap.lt_size e; rw [e1, hsz] at this; exact Nat.lt_irrefl _ (Nat.lt_of_succ_lt this)
            · cases hm
          obtain ⟨t', ht', rfl⟩ := fat_at (P := fun t x => am.τ t = some x) ht hu hx _ _ hP
          have e : fat a b c (argBest (fun i j => Float64.cmp (fat a b c i) (fat a b c j) == some Ordering.lt) (#[Value.float a t, .float b u, .float c x].size - 1)) = fmin a b c := by
            show fat a b c (argBest _ 2) = _
            unfold fmin
            simp only [argBest]
            by_cases h1 : (Float64.cmp b a == some Ordering.lt) = true
            · by_cases h2 : (Float64.cmp c b == some Ordering.lt) = true <;> simp [fat, h1, h2]
            · by_cases h2 : (Float64.cmp c a == some Ordering.lt) = true <;> simp [fat, h1, h2]
          rw [e] at ht' ⊢
          exact K (.float _ t') h' tk am (Pre.refl _) (Gr.of_keeps hold) (R.keeps hold) (.flt _ _ ht')

/-- a call of one value -/
theorem c_one {f : Value} (h : V1To C d p (fun v => call f [v]) ls r ls1) : CTo C d f [p] [] ls r ls1 := fun A s am vs kv Q E hr R hvs hkv K => by
  cases hkv
  cases hvs with
  | cons h1 h2 => cases h2; exact h A s am _ Q E hr R h1 K
theorem c_two {f : Value} (h : V2To C d p q (fun v w => call f [v, w]) ls r ls1) : CTo C d f [p, q] [] ls r ls1 := fun A s am vs kv Q E hr R hvs hkv K => by
  cases hkv
  cases hvs with
  | cons h1 h2 => cases h2 with
    | cons h2 h3 => cases h3; exact h A s am _ _ Q E hr R h1 h2 K
theorem c_len_lst {n : Nat} {l : List PV} (hn : ls[n]? = some l) (hl : (l.length : Int) < 2 ^ 63) : CTo C d (.builtin "len") [.lst n] [] ls (.int l.length) ls := c_one <| .of fun A s am a Q E hr R ha K => by
  cases ha with
  | lst hm =>
    obtain ⟨vs, hp, hv⟩ := R.its hm hn
    have hlen := hv.length
    refine PyProof.Rows.len_list hp.isList (by rw [List.size_toArray, hlen]; exact hl) ?_
    rw [List.size_toArray, hlen]
    exact K _ s.heap _ am (Pre.refl _) (Gr.refl _) R (.int _ _)
theorem c_len_str {x : Str} (hl : ¬ (x.length : Int) ≥ 2 ^ 63) : CTo C d (.builtin "len") [.str x] [] ls (.int x.length) ls := c_one <| .of fun A s am a Q E hr R ha K => by
  cases ha
  exact PyProof.Rows.len_str hl (K _ s.heap _ am (Pre.refl _) (Gr.refl _) R (.int _ _))
theorem c_range1 {n : Int} : CTo C d (.type "range") [.int n] [] ls (.rng 0 n 1) ls := c_one <| .of fun A s am a Q E hr R ha K => by
  cases ha
  have k : ∀ o b p, s.heap.get? b = some p → (s.heap.push o).get? b = some p := fun o b p e => Heap.get?_push_of_some _ e
  exact call_range_1 (K _ _ _ am (Pre.refl _) (Gr.push _ _) (R.keeps (k _)) (.rng (IsRange.new _ _ _ _ _ _ _)))
theorem c_range2 {m n : Int} : CTo C d (.type "range") [.int m, .int n] [] ls (.rng m n 1) ls := c_two <| .of fun A s am a b Q E hr R ha hb K => by
  cases ha; cases hb
  have k : ∀ o b p, s.heap.get? b = some p → (s.heap.push o).get? b = some p := fun o b p e => Heap.get?_push_of_some _ e
  exact call_range_2 (K _ _ _ am (Pre.refl _) (Gr.push _ _) (R.keeps (k _)) (.rng (IsRange.new _ _ _ _ _ _ _)))
theorem c_int_flt {x : UInt64} {sg : Bool} {m : Nat} {e : Int} (hd : Float64.decode x = .fin sg m e) : CTo C d (.type "int") [.flt x] [] ls (.int (Float64.truncOf sg m e)) ls := c_one <| .of fun A s am a Q E hr R ha K => by
  cases ha
  exact call_int_float hd (K _ s.heap _ am (Pre.refl _) (Gr.refl _) R (.int _ _))
theorem RVs.ints {am : Gh} {h : Heap} : ∀ {ns : List Int} {vs : List Value}, RVs am h (ns.map .int) vs → IntsAre vs ns
  | [], _, .nil => .nil
  | _ :: _, _, .cons a b => by cases a; exact .cons _ _ (RVs.ints b)
theorem RVs.ofInts {am : Gh} {h : Heap} : ∀ {ns : List Int} {vs : List Value}, IntsAre vs ns → RVs am h (ns.map .int) vs
  | _, _, .nil => .nil
  | _, _, .cons _ _ b => .cons (.int _ _) (RVs.ofInts b)
theorem ints_items : ∀ {vs : List Value} {ns : List Int}, IntsAre vs ns → ∃ xs : Array (Int × Tok), vs.toArray = intItems xs ∧ xs.toList.map (·.1) = ns
  | _, _, .nil => ⟨#[], by simp [intItems], rfl⟩
  | _, _, .cons n t b => by
    obtain ⟨xs, h1, h2⟩ := ints_items b
    refine ⟨((n, t) :: xs.toList).toArray, ?_, by simp [h2]⟩
    apply Array.toList_inj.mp
    have := congrArg Array.toList h1
    simp [intItems] at this ⊢
    exact this
theorem preSum_eq : ∀ (f : Nat → Int) (n : Nat), preSum f n = ((List.range n).map f).sum
  | f, 0 => rfl
  | f, n + 1 => by rw [preSum, preSum_eq f n, List.range_succ]; simp
theorem preSum_list {xs : Array (Int × Tok)} {ns : List Int} (h : xs.toList.map (·.1) = ns) : ∀ n, n ≤ ns.length → preSum (numAt xs) n = (ns.take n).sum
  | 0, _ => rfl
  | n + 1, hn => by
    have hl : xs.size = ns.length := by rw [← h]; simp
    have hx : n < xs.size := by omega
    rw [preSum, preSum_list h n (by omega)]
    have e : ns.take (n + 1) = ns.take n ++ [numAt xs n] := by
      rw [List.take_add_one]
      congr 1
      subst h
      simp [numAt, hx]
    rw [e]; simp
theorem c_sum {n : Nat} {ns : List Int} (hn : ls[n]? = some (ns.map .int)) (hf : ∀ j, j < ns.length → InLong (ns.getD j 0) ∧ InLong (ns.take (j + 1)).sum) : CTo C d (.builtin "sum") [.lst n] [] ls (.int ns.sum) ls := c_one <| .of fun A s am a Q E hr R ha K => by
  cases ha with
  | lst hm =>
    obtain ⟨vs, hp, hv⟩ := R.its hm hn
    obtain ⟨xs, h1, h2⟩ := ints_items hv.ints
    have hl : xs.size = ns.length := by rw [← h2]; simp
    rw [h1] at hp
    refine sum_intList hr.hand hp.isList (fun j hj => ?_) fun h' tk t' hk => ?_
    · have := hf j (by omega)
      rw [preSum_list h2 _ (by omega)]
      refine ⟨?_, this.2⟩
      have e : numAt xs j = ns.getD j 0 := by subst h2; simp [numAt, hj]
      rw [e]; exact this.1
    · rw [preSum_list h2 _ (by omega), hl, List.take_length]
      exact K _ h' tk am (Pre.refl _) (Gr.of_keeps hk) (R.keeps hk) (.int _ _)
theorem c_sorted {n : Nat} {ns ms : List Int} (hn : ls[n]? = some (ns.map .int)) (h64 : ns.length < 64) (hms : ∀ ns' : List Int, ns'.Perm ns → ns'.Pairwise (· ≤ ·) → ns' = ms) : CTo C d (.builtin "sorted") [.lst n] [] ls (.lst ls.length) (ls ++ [ms.map .int]) := c_one <| .of fun A s am a Q E hr R ha K => by
  cases ha with
  | lst hm =>
    obtain ⟨vs, hp, hv⟩ := R.its hm hn
    have hl : vs.length = ns.length := by rw [hv.length]; simp
    refine sorted_ints hp.isList hv.ints (by omega) fun out ns' a1 a2 a3 => ?_
    obtain ⟨e, he⟩ := sortedAll_at s.heap vs out
    have hk : ∀ b o, s.heap.get? b = some o → (sortedAll s.heap vs out).get? b = some o := fun _ _ => sortedAll_old
    have := hms ns' a2 a3
    subst this
    refine K _ _ _ (am.add (s.heap.objs.size + 1)) (Pre.add _ _) (Gr.of_keeps hk) (R.more ?_ hk ⟨_, he⟩ (RVs.ofInts a1)) (.lst (R.last _))
    cases q : s.heap.get? (s.heap.objs.size + 1) with
    | none => rfl
    | some o => exact absurd (Heap.lt_size q) (by simp)
/-! methods -/
theorem c_append {n : Nat} {l : List PV} (hn : ls[n]? = some l) (hz : l.length ≤ sizeLine) : CTo C d (.builtin "list.append") [.lst n, p] [] ls .none (ls.set n (l ++ [p])) := c_two <| .of fun A s am a b Q E hr R ha hb K => by
  cases ha with
  | lst hm =>
    obtain ⟨vs, hp, hv⟩ := R.its hm hn
    refine wpAny_list_append_plain hp (fun h' hp' hsb => ?_) (by rw [List.size_toArray, hv.length]; exact hz)
    have e : vs.toArray.push b = (vs ++ [b]).toArray := by simp
    rw [e] at hp'
    obtain ⟨R', g⟩ := R.put hm hn (fun x hx => hsb.2 x hx) hp' (hv.append (.cons hb .nil))
    exact K .none h' s.toks am (Pre.refl _) g R' .none
def ins (l : List PV) (k : Int) (p : PV) : List PV := l.take k.toNat ++ p :: l.drop k.toNat
theorem insert_raw {prog : Program} {w : World} {A : Around} {E : Value → Shared → Prop} {s : Shared} {D : Addr} {vs : List Value} {k : Int} {u : Tok} {b : Value} {Q : Value → Shared → Prop} (hp : s.heap.PlainList D vs.toArray) (h0 : 0 ≤ k) (h1 : k.toNat ≤ vs.length)
    (hf : Builtin.List.listFitsIndex k = true) (hz : vs.length ≤ sizeLine) (hQ : ∀ h', h'.PlainList D (vs.take k.toNat ++ b :: vs.drop k.toNat).toArray → (∀ x, x ≠ D → h'.get? x = s.heap.get? x) → Q .none { s with heap := h' }) :
    wpAny (model prog w) A (call (.builtin "list.insert") [.ref D, .int k u, b]) Q E s := by
  obtain ⟨c, ho⟩ := hp
  refine call_meets PySem.F.slot_list_insert ⟨_, ho, rfl⟩ PySem.F.entry_list_insert (PySem.F.args_list_insert_3 _ _ _) (PySem.AutoSeq1.list_insert_list_int_val_1 D _ c k u b (by simp [hf]) (by rw [List.size_toArray]; exact hz)) ⟨ho, hQ _ ?_ fun x hx => (Heap.SameBut.update s.heap D _).2 x hx⟩
  have q := PySem.IsL.update ho (fun xs => have k := if k < 0 then (k + (xs.size : Int)).toNat else min k.toNat xs.size; (xs.extract 0 k).push b ++ xs.extract k)
  have e : (fun xs : Array Value => have k := if k < 0 then (k + (xs.size : Int)).toNat else min k.toNat xs.size; (xs.extract 0 k).push b ++ xs.extract k) vs.toArray = (vs.take k.toNat ++ b :: vs.drop k.toNat).toArray := by
    show (vs.toArray.extract 0 (if k < 0 then (k + (vs.toArray.size : Int)).toNat else min k.toNat vs.toArray.size)).push b ++ vs.toArray.extract (if k < 0 then (k + (vs.toArray.size : Int)).toNat else min k.toNat vs.toArray.size) = _
    rw [if_neg (by omega), List.size_toArray, Nat.min_eq_left (by omega)]
    apply Array.toList_inj.mp
    simp
    exact List.take_of_length_le (by simp)
  have e' : ∀ n, ({ cls := .type "list", dict := none, data := .seq ((fun xs : Array Value => have k := if k < 0 then (k + (xs.size : Int)).toNat else min k.toNat xs.size; (xs.extract 0 k).push b ++ xs.extract k) vs.toArray) n, slots := #[] } : Obj) = { cls := .type "list", dict := none, data := .seq (vs.take k.toNat ++ b :: vs.drop k.toNat).toArray n, slots := #[] } := fun n => by rw [e]
  exact ⟨_, q.trans (congrArg some (e' _))⟩
theorem c_insert {n : Nat} {l : List PV} {k : Int} (hn : ls[n]? = some l) (h0 : 0 ≤ k) (h1 : k.toNat ≤ l.length) (hf : Builtin.List.listFitsIndex k = true) (hz : l.length ≤ sizeLine) : CTo C d (.builtin "list.insert") [.lst n, .int k, p] [] ls .none (ls.set n (ins l k p)) := .of fun A s am ws kv Q E hr R hvs hkv K => by
  cases hkv
  cases hvs with
  | cons ha h2 => cases h2 with
    | cons hi h3 => cases h3 with
      | cons hb h4 =>
        cases h4; cases hi
        cases ha with
        | lst hm =>
          obtain ⟨vs, hp, hv⟩ := R.its hm hn
          have hlen := hv.length
          refine insert_raw hp h0 (by omega) hf (by omega) fun h' hp' hsb => ?_
          obtain ⟨R', g⟩ := R.put hm hn hsb hp' ((hv.take _).append (.cons hb (hv.drop _)))
          exact K .none h' s.toks am (Pre.refl _) g R' .none
theorem e_meth {o e : Expr} {name : Str} {apos pos : Pos} {args : List Expr} {T id : String} (h1 : ETo C env d (eval o env) ρ ls p ls1) (hT : ∀ am h tk v (s : Shared), s.heap = h → Rep C am ls1 h tk → RV am h p v → s.TypeIs v T ∧ (∀ a, v = .ref a → ∃ ob, h.get? a = some ob ∧ ob.dict = none))
    (pa : PlainAttrs T) (slot : Slot T name id) (hty : typeOf (.builtin id) = pure (.type "method_descriptor")) 
    (ha : LTo C env d (spliced (backTo pos (starEach (e :: args) env))) ρ ls1 ps ls2) (hc : CTo C d (.builtin id) (p :: ps) [] ls2 r ls3)
    (hbase : attributeBase o name env (eval o env) = eval o env)
    (hfew : ((backTo pos (starEach (e :: args) env)).all (fun x => !x.1) && (backToKw pos (keywordEach [] env)).all (fun x => x.1.isSome) && decide ((e :: args).length + ([] : List Keyword).length + (if ([] : List Keyword).isEmpty then 0 else 1) < 30)) = true)
    (hline : (apos.endLine == pos.line) = true)
    (he : starEach (e :: args) env = (false, eval e env) :: starEach args env) (hp : (backTo pos (starEach args env)).any (·.1) = false) :
    ETo C env d (eval (.Call (.Attribute o name apos) (e :: args) [] pos) env) ρ ls r ls3 := fun A s am Q E hr R F K =>
  wpAny_Call_method hbase hfew hline pa slot hty (h1 A s am _ E hr R F fun v h' tk am' p1 g1 R1 hv => by
    obtain ⟨t1, t2⟩ := hT am' h' tk v { s with heap := h', toks := tk } rfl R1 hv
    refine ⟨t1, t2, callWith_method1 (ha A _ am' _ E hr R1 (F.mono p1 g1) fun vs h2 tk2 am2 p2 g2 R2 hvs => hc A _ am2 (v :: vs) [] Q E hr R2 (.cons (hv.mono p2 g2) hvs) .nil fun v h3 tk3 am3 p3 g3 R3 hv => ?_) he hp⟩
    exact K v h3 tk3 am3 (p1.trans (p2.trans p3)) (g1.trans (g2.trans g3)) R3 hv)
theorem ty_lst {n : Nat} {l : List PV} (hn : ls[n]? = some l) : ∀ am h tk v (s : Shared), s.heap = h → Rep C am ls h tk → RV am h (.lst n) v → s.TypeIs v "list" ∧ (∀ a, v = .ref a → ∃ ob, h.get? a = some ob ∧ ob.dict = none) := fun am h tk v s e R hv => by
  cases hv with
  | lst hm =>
    obtain ⟨vs, ⟨c, ho⟩, _⟩ := R.its hm hn
    subst e
    exact ⟨⟨_, ho, rfl⟩, fun a ea => by cases ea; exact ⟨_, ho, rfl⟩⟩
theorem ty_str {x : Str} : ∀ am h tk v (s : Shared), s.heap = h → Rep C am ls h tk → RV am h (.str x) v → s.TypeIs v "str" ∧ (∀ a, v = .ref a → ∃ ob, h.get? a = some ob ∧ ob.dict = none) := fun am h tk v s e R hv => by
  cases hv
  exact ⟨typeIs_str _ _ _, fun _ e => nomatch e⟩
end
end Mine
end
section
open PySem PySem.W PySem.Calls PyProof.Rows PySem.SeqAt
set_option maxRecDepth 100000
set_option linter.unusedVariables false
namespace Mine
section
variable {C : Cx} {env : Env} {d : Nat} {ρ ρ1 ρ2 : Loc} {ls ls1 ls2 ls3 : LS} {p q r : PV} {f : PF} {ps qs : List PV} {ks : List (Str × PV)}
/-! tests -/
theorem b_name {x : Str} {pos : Pos} {b : Bool} (h : ETo C env d (eval (.Name x pos) env) ρ ls (.bool b) ls1) : BTo C env d (isTrue (.Name x pos) env (eval (.Name x pos) env)) ρ ls b ls1 := fun A s am Q E hr R F K =>
  wpAny_isTrue_value (h A s am _ E hr R F fun v h' tk am' p1 g1 R1 hv => by cases hv; exact wpAny_truthy_bool (K h' tk am' p1 g1 R1))
theorem b_call {fn : Expr} {args : List Expr} {kw : List Keyword} {pos : Pos} {b : Bool} (h : ETo C env d (eval (.Call fn args kw pos) env) ρ ls (.bool b) ls1) : BTo C env d (isTrue (.Call fn args kw pos) env (eval (.Call fn args kw pos) env)) ρ ls b ls1 := fun A s am Q E hr R F K =>
  wpAny_isTrue_value (h A s am _ E hr R F fun v h' tk am' p1 g1 R1 hv => by cases hv; exact wpAny_truthy_bool (K h' tk am' p1 g1 R1))
theorem b_not {x : Expr} {pos : Pos} {whole : Sem Value} {b : Bool} (h : BTo C env d (isTrue x env (eval x env)) ρ ls b ls1) : BTo C env d (isTrue (.UnaryOp .Not x pos) env whole) ρ ls (!b) ls1 := fun A s am Q E hr R F K =>
  wpAny_isTrue_Not (h A s am _ E hr R F fun h' tk am' p1 g1 R1 => K h' tk am' p1 g1 R1)
theorem b_and {es : List Expr} {pos : Pos} {whole : Sem Value} {b : Bool} (h : BTo C env d (allTrue .And es env) ρ ls b ls1) : BTo C env d (isTrue (.BoolOp .And es pos) env whole) ρ ls b ls1 := fun A s am Q E hr R F K => wpAny_isTrue_BoolOp (h A s am _ E hr R F K)
theorem b_or {es : List Expr} {pos : Pos} {whole : Sem Value} {b : Bool} (h : BTo C env d (allTrue .Or es env) ρ ls b ls1) : BTo C env d (isTrue (.BoolOp .Or es pos) env whole) ρ ls b ls1 := fun A s am Q E hr R F K => wpAny_isTrue_BoolOp (h A s am _ E hr R F K)
theorem b_and_nil : BTo C env d (allTrue .And [] env) ρ ls true ls := fun A s am Q E hr R F K => wpAny_allTrue_And_nil (K s.heap s.toks am (Pre.refl _) (Gr.refl _) R)
theorem b_or_nil : BTo C env d (allTrue .Or [] env) ρ ls false ls := fun A s am Q E hr R F K => wpAny_allTrue_Or_nil (K s.heap s.toks am (Pre.refl _) (Gr.refl _) R)
theorem b_and_cons {x : Expr} {rest : List Expr} {b c : Bool} (h1 : BTo C env d (isTrue x env (eval x env)) ρ ls b ls) (h2 : b = true → BTo C env d (allTrue .And rest env) ρ ls c ls) : BTo C env d (allTrue .And (x :: rest) env) ρ ls (b && c) ls := fun A s am Q E hr R F K =>
  wpAny_allTrue_And_cons (h1 A s am _ E hr R F fun h' tk am' p1 g1 R1 => by
    cases b with
    | false => exact K h' tk am' p1 g1 R1
    | true => exact h2 rfl A _ am' _ E hr R1 (F.mono p1 g1) fun h2 tk2 am2 p2 g2 R2 => K h2 tk2 am2 (p1.trans p2) (g1.trans g2) R2)
theorem b_or_cons {x : Expr} {rest : List Expr} {b c : Bool} (h1 : BTo C env d (isTrue x env (eval x env)) ρ ls b ls) (h2 : b = false → BTo C env d (allTrue .Or rest env) ρ ls c ls) : BTo C env d (allTrue .Or (x :: rest) env) ρ ls (b || c) ls := fun A s am Q E hr R F K =>
  wpAny_allTrue_Or_cons (h1 A s am _ E hr R F fun h' tk am' p1 g1 R1 => by
    cases b with
    | true => exact K h' tk am' p1 g1 R1
    | false => exact h2 rfl A _ am' _ E hr R1 (F.mono p1 g1) fun h2 tk2 am2 p2 g2 R2 => K h2 tk2 am2 (p1.trans p2) (g1.trans g2) R2)
theorem BTo.to {t : Sem Bool} {b c : Bool} (h : BTo C env d t ρ ls b ls1) (e : b = c) : BTo C env d t ρ ls c ls1 := e ▸ h
theorem ETo.to {t : Sem Value} (h : ETo C env d t ρ ls p ls1) (e : p = q) : ETo C env d t ρ ls q ls1 := e ▸ h
theorem V2To.to {t : Value → Value → Sem Value} {p' : PV} (h : V2To C d p q t ls r ls1) (e : r = p') : V2To C d p q t ls p' ls1 := e ▸ h
theorem CTo.to {f : Value} (h : CTo C d f ps ks ls p ls1) (e : p = q) : CTo C d f ps ks ls q ls1 := e ▸ h
/-- an expression for its deed alone -/
theorem x_expr {e : Expr} {pos : Pos} (h : ETo C env d (eval e env) ρ ls .none ls1) (hi : interactive env = false) (hs : swapsWith e none pos.line env = pure false) : XTo C env d (exec (.Expr e pos) env) ρ ls .next ρ ls1 := fun A s am Q E hr R F K =>
  wpAny_Expr (h A s am _ E hr R F fun v h' tk am' p1 g1 R1 hv => by cases hv; exact K .next h' tk am' p1 g1.s R1 (F.mono p1 g1) .next) hi hs
end
/-! equal -/
theorem Cx.Ok.bkAt {C : Cx} {am : Gh} {ls : LS} {h : Heap} {tk : Nat} (ok : C.Ok) (R : Rep C am ls h tk) : NoneBooked h := let ⟨mc, h1, h2⟩ := ok.bk; ⟨mc, h1.keeps R.old, h2⟩
theorem same_flt {M : Model} {A : Around} {E : Value → Shared → Prop} {s : Shared} {x y : UInt64} {u v : Tok} {Q : Bool → Shared → Prop}
    (h0 : (u == 0 || v == 0) = false) (hb : NoneBooked s.heap) (hq : ∀ b, (b = true → (u == v) = true ∨ x = y) → Q b s) : wpAny M A (isSame (.float x u) (.float y v)) Q E s := by
  show wpAny M A (isSame.created (x == y && !Float64.isNaN x) u v) Q E s
  unfold isSame.created
  refine wpAny_ite ?_
  split
  · rename_i h; rw [h0] at h; exact absurd h Bool.false_ne_true
  refine wpAny_ite ?_
  split
  · rename_i h; exact wpAny_pure (hq _ fun _ => .inl h)
  refine wpAny_ite ?_
  split
  · exact wpAny_pure (hq _ fun e => nomatch e)
  rename_i hne
  have hxy : x = y := by
    have := hne
    simp at this
    exact this.1
  refine wpAny_bind (wpAny_sharingNotTold_none hb ?_)
  first | rw [if_neg Bool.false_ne_true] | simp only [Bool.false_eq_true, if_false]
  refine wpAny_bind (wpAny_sharingNotTold_none hb ?_)
  first | rw [if_neg Bool.false_ne_true] | simp only [Bool.false_eq_true, if_false]
  exact wpAny_bind (wpAny_rule (wpAny_bind (wpAny_askSetting (wpAny_pure (hq _ fun _ => .inr hxy)))))
theorem eqat_flt {A : Around} {s : Shared} {x y : UInt64} {t u : Tok} (hb : NoneBooked s.heap) (ht : t ≠ 0) (hu : u ≠ 0) (hne : t = u → x = y) (hx : Float64.cmp x x = some .eq) : EqAt A s (.float x t) (.float y u) (Float64.cmp x y == some Ordering.eq) := fun prog w E Q h => by
  unfold eqBool
  refine wpAny_holding ?_
  refine wpAny_ite_split (fun hab => ?_) (fun _ => ?_)
  · have e : x = y := by have := eq_of_beq hab; injection this
    subst e
    rw [hx] at h
    exact wpAny_bind (wpAny_rule (wpAny_pure h))
  · have hrc : RcAt A s (.float x t) (.float y u) (Float64.cmp x y == some Ordering.eq) := fun prog w E Q h => richCompare_gives (op := .Eq) (AutoFloatOps.typeIs_float s _ t) (AutoFloatOps.typeIs_float s _ u) F.slot_float_eq F.entry_float_eq (F.args_float_eq_2 _ _) (AutoFloatG5.float___eq___float_float_0 _ t _ u) (fun x => nomatch x) h
    refine wpAny_bind (same_flt (by simp [ht, hu]) hb fun b hbb => ?_)
    cases b with
    | true =>
      have e : x = y := by
        rcases hbb rfl with h | h
        · exact hne (by simpa using h)
        · exact h
      subst e
      rw [hx] at h
      exact wpAny_pure h
    | false => exact wpAny_bind (hrc prog w E _ (wpAny_truthy_bool h))
def feqs : List UInt64 → List UInt64 → Bool
  | [], [] => true
  | a :: as, b :: bs => (Float64.cmp a b == some Ordering.eq) && feqs as bs
  | _, _ => false
def Nums (l : List UInt64) : Prop := ∀ x ∈ l, Float64.cmp x x = some .eq
theorem feqs_self : ∀ {l : List UInt64}, Nums l → feqs l l = true
  | [], _ => rfl
  | a :: as, h => by
    have h2 : feqs as as = true := feqs_self fun x hx => h x (List.mem_cons_of_mem _ hx)
    simp only [feqs, h a (by simp), h2]; rfl
abbrev ft (l : List UInt64) : PV := .tup (l.map .flt)
theorem RVs.flts {am : Gh} {h : Heap} : ∀ {fs : List UInt64} {vs : List Value}, RVs am h (fs.map .flt) vs → ∀ (j : Nat) (hj : j < vs.length), ∃ t, am.τ t = some (fs.getD j 0) ∧ vs[j] = .float (fs.getD j 0) t
  | [], _, .nil, j, hj => by simp at hj
  | f :: _, _, .cons a b, 0, hj => by cases a with | flt _ t z => exact ⟨t, z, rfl⟩
  | f :: fs, v :: vs, .cons a b, j + 1, hj => by
    obtain ⟨t, z, e⟩ := RVs.flts b j (by simpa using hj)
    exact ⟨t, by simpa using z, by simpa using e⟩
theorem RVs.flts_det {am : Gh} {h : Heap} : ∀ {fs gs : List UInt64} {vs : List Value}, RVs am h (fs.map .flt) vs → RVs am h (gs.map .flt) vs → fs = gs
  | [], [], _, _, _ => rfl
  | [], _ :: _, _, .nil, k => nomatch k
  | _ :: _, [], _, .cons _ _, k => nomatch k
  | f :: fs, g :: gs, _, .cons a b, k => by
    cases k with
    | cons c e => cases a; cases c; rw [RVs.flts_det b e]
theorem range_feqs : ∀ (fs gs : List UInt64), fs.length = gs.length → (List.range fs.length).all (fun j => Float64.cmp (fs.getD j 0) (gs.getD j 0) == some Ordering.eq) = feqs fs gs
  | [], [], _ => rfl
  | [], _ :: _, h => by simp at h
  | _ :: _, [], h => by simp at h
  | f :: fs, g :: gs, h => by
    rw [List.length_cons, List.range_succ_eq_map, List.all_cons, List.all_map]
    simp only [feqs]
    rw [← range_feqs fs gs (by simpa using h)]
    rfl
theorem feqs_len : ∀ (fs gs : List UInt64), fs.length ≠ gs.length → feqs fs gs = false
  | [], [], h => by simp at h
  | [], _ :: _, _ => rfl
  | _ :: _, [], _ => rfl
  | f :: fs, g :: gs, h => by simp only [feqs]; rw [feqs_len fs gs (by simpa using h)]; simp
theorem eqat_ft {A : Around} {s : Shared} {am : Gh} {fs gs : List UInt64} {v w : Value} (hb : NoneBooked s.heap) (hz : ∀ t x, am.τ t = some x → 0 < t) (hu : A.units < cLine) (hn : Nums fs) (hv : RV am s.heap (ft fs) v) (hw : RV am s.heap (ft gs) w) : EqAt A s v w (feqs fs gs) := by
  cases hv with
  | tup ht hs => cases hw with
    | tup ht2 hs2 =>
      rename_i a vs b ws
      by_cases hab : a = b
      · subst hab
        have e : vs = ws := by
          obtain ⟨o, ho, _, n, hd⟩ := ht
          obtain ⟨o2, ho2, _, n2, hd2⟩ := ht2
          rw [ho] at ho2; cases ho2
          rw [hd] at hd2
          injection hd2 with h1
          exact (List.toArray_inj h1)
        subst e
        rw [hs.flts_det hs2, feqs_self (by rw [← hs.flts_det hs2]; exact hn)]
        exact EqAt.same _
      · refine EqAt.of_refs hab ?_
        have l1 := hs.length
        have l2 := hs2.length
        rw [List.length_map] at l1 l2
        have z := RcAt.tuples (A := A) (e := fun j => Float64.cmp (fs.getD j 0) (gs.getD j 0) == some Ordering.eq) ht ht2 hu (fun j h1 h2 => by
          obtain ⟨t, z1, e1⟩ := hs.flts j (by simpa using h1)
          obtain ⟨u, z2, e2⟩ := hs2.flts j (by simpa using h2)
          simp only [List.getElem_toArray]
          rw [e1, e2]
          have hj : j < fs.length := by rw [← l1]; simpa using h1
          refine eqat_flt hb (Nat.ne_of_gt (hz _ _ z1)) (Nat.ne_of_gt (hz _ _ z2)) (fun e => by rw [e, z2] at z1; exact (Option.some.inj z1).symm) (hn _ ?_)
          rw [List.getD_eq_getElem?_getD, List.getElem?_eq_getElem hj]
          exact List.getElem_mem hj)
        rw [List.size_toArray, List.size_toArray, l1, l2] at z
        by_cases hlen : fs.length = gs.length
        · rw [← hlen, Nat.min_self, range_feqs fs gs hlen] at z
          simpa using z
        · rw [feqs_len fs gs hlen]
          have : (fs.length == gs.length) = false := by simpa using hlen
          rw [this, Bool.and_false] at z
          exact z
theorem Room.u {A : Around} {d : Nat} (h : Room A d) : A.in1.units < cLine ∧ A.units < cLine := by
  have := h.units
  constructor
  · show A.units + 1 < cLine; omega
  · omega
section
variable {C : Cx} {env : Env} {d : Nat} {ρ ρ1 ρ2 : Loc} {ls ls1 ls2 ls3 : LS} {p q r : PV} {f : PF} {ps qs : List PV} {ks : List (Str × PV)}
theorem RVs.mem {am : Gh} {h : Heap} : ∀ {xs : List PV} {vs : List Value}, RVs am h xs vs → ∀ v ∈ vs, ∃ x ∈ xs, RV am h x v
  | _, _, .nil, v, hv => nomatch hv
  | _, _, .cons a b, v, hv => by
    rcases List.mem_cons.mp hv with rfl | hv
    · exact ⟨_, by simp, a⟩
    · obtain ⟨x, hx, rx⟩ := RVs.mem b v hv
      exact ⟨x, by simp [hx], rx⟩
theorem RV.ft_det {am : Gh} {h : Heap} {fs gs : List UInt64} {v : Value} (hv : RV am h (ft fs) v) (hw : RV am h (ft gs) v) : fs = gs := by
  cases hv with
  | tup ht hs => cases hw with
    | tup ht2 hs2 =>
      rename_i a vs ws
      obtain ⟨o, ho, _, n, hd⟩ := ht
      obtain ⟨o2, ho2, _, n2, hd2⟩ := ht2
      rw [ho] at ho2; cases ho2
      rw [hd] at hd2
      injection hd2 with h1
      have := List.toArray_inj h1
      subst this
      exact hs.flts_det hs2
open Classical in
theorem any_ft {am : Gh} {h : Heap} (fs : List UInt64) : ∀ {L : List (List UInt64)} {vs : List Value}, RVs am h (L.map ft) vs → vs.any (fun v => decide (∃ g, RV am h (ft g) v ∧ feqs g fs = true)) = L.any (fun g => feqs g fs)
  | [], _, .nil => rfl
  | g :: L, _, .cons a b => by
    rw [List.any_cons, List.any_cons, any_ft fs b]
    congr 1
    cases hg : feqs g fs with
    | true => exact decide_eq_true ⟨g, a, hg⟩
    | false => exact decide_eq_false fun ⟨g', h1, h2⟩ => by rw [a.ft_det h1, h2] at hg; cases hg
open Classical in
theorem o_notin_ft (ok : C.Ok) {n : Nat} {L : List (List UInt64)} {fs : List UInt64} (hn : ls[n]? = some (L.map ft)) (hN : ∀ g ∈ L, Nums g) : V2To C d (ft fs) (.lst n) (compareOp .NotIn) ls (.bool (!L.any (fun g => feqs g fs))) ls := .of fun A s am a b Q E hr R ha hb K => by
  cases hb with
  | lst hm =>
    obtain ⟨vs, hp, hv⟩ := R.its hm hn
    refine notIn_listAt (fun v => decide (∃ g, RV am s.heap (ft g) v ∧ feqs g fs = true)) hp.isList (fun y hy => ?_) ?_
    · obtain ⟨x, hx, rx⟩ := RVs.mem hv y (by simpa using hy)
      obtain ⟨g, hg, rfl⟩ := List.mem_map.mp hx
      have e : decide (∃ g, RV am s.heap (ft g) y ∧ feqs g fs = true) = feqs g fs := by
        cases hq : feqs g fs with
        | true => exact decide_eq_true ⟨g, rx, hq⟩
        | false => exact decide_eq_false fun ⟨g', h1, h2⟩ => by rw [rx.ft_det h1, h2] at hq; cases hq
      rw [e]
      exact eqat_ft (ok.bkAt R) (fun t x z => (R.tks t x z).1) hr.u.1 (hN g hg) rx ha
    · rw [List.any_toArray, any_ft fs hv]
      exact K _ s.heap s.toks am (Pre.refl _) (Gr.refl _) R (.bool _)
theorem any_ints {k : Int} : ∀ {vs : List Value} {ns : List Int}, IntsAre vs ns → vs.any (isInt k) = ns.contains k
  | _, _, .nil => rfl
  | _, _, .cons n t b => by
    rw [List.any_cons, List.contains_cons, any_ints b]
    congr 1
    show (n == k) = (k == n)
    exact Bool.beq_comm
theorem o_notin_int {n : Nat} {ns : List Int} {k : Int} (hn : ls[n]? = some (ns.map .int)) : V2To C d (.int k) (.lst n) (compareOp .NotIn) ls (.bool (!ns.contains k)) ls := .of fun A s am a b Q E hr R ha hb K => by
  cases ha
  cases hb with
  | lst hm =>
    obtain ⟨vs, hp, hv⟩ := R.its hm hn
    refine notIn_listAt (isInt k) hp.isList (fun y hy => (eq_isInt k _ hv.ints y (by simpa using hy)).at _ _) ?_
    rw [List.any_toArray, any_ints hv.ints]
    exact K _ s.heap s.toks am (Pre.refl _) (Gr.refl _) R (.bool _)
/-- two lists of float tuples that are alike -/
theorem RVs.getj {am : Gh} {h : Heap} : ∀ {xs : List PV} {vs : List Value}, RVs am h xs vs → ∀ (j : Nat) (hj : j < vs.length), ∃ x, xs[j]? = some x ∧ RV am h x vs[j]
  | _, _, .nil, j, hj => by simp at hj
  | _, _, .cons a b, 0, hj => ⟨_, rfl, a⟩
  | _, _, .cons a b, j + 1, hj => by
    obtain ⟨x, h1, h2⟩ := RVs.getj b j (by simpa using hj)
    exact ⟨x, by simpa using h1, by simpa using h2⟩
theorem o_ne_fts (ok : C.Ok) {n m : Nat} {L : List (List UInt64)} (hn : ls[n]? = some (L.map ft)) (hm' : ls[m]? = some (L.map ft)) (hN : ∀ g ∈ L, Nums g) : V2To C d (.lst n) (.lst m) (compareOp .NotEq) ls (.bool false) ls := .of fun A s am a b Q E hr R ha hb K => by
  cases ha with
  | lst h1 => cases hb with
    | lst h2 =>
      obtain ⟨vs, hp, hv⟩ := R.its h1 hn
      obtain ⟨ws, hq, hw⟩ := R.its h2 hm'
      have l1 := hv.length
      have l2 := hw.length
      have z := RcNeAt.lists (A := A) (e := fun _ => true) hp.isList hq.isList (by simp [l1, l2]) hr.u.2 (fun j h1 h2 => by
        obtain ⟨x, e1, r1⟩ := hv.getj j (by simpa using h1)
        obtain ⟨y, e2, r2⟩ := hw.getj j (by simpa using h2)
        rw [e1] at e2; cases e2
        rw [List.getElem?_map, Option.map_eq_some_iff] at e1
        obtain ⟨g, hg, rfl⟩ := e1
        have q := eqat_ft (A := A.in1) (ok.bkAt R) (fun t x z => (R.tks t x z).1) hr.u.1 (hN g (List.mem_of_getElem? hg)) r1 r2
        rw [feqs_self (hN g (List.mem_of_getElem? hg))] at q
        simpa using q)
      have e : (!(List.range vs.toArray.size).all fun _ => true) = false := by simp
      rw [e] at z
      exact z C.prog C.w E Q (K _ s.heap s.toks am (Pre.refl _) (Gr.refl _) R (.bool _))
theorem o_ne_nil {n m : Nat} {l : List PV} (hn : ls[n]? = some l) (hm' : ls[m]? = some []) : V2To C d (.lst n) (.lst m) (compareOp .NotEq) ls (.bool (!l.isEmpty)) ls := .of fun A s am a b Q E hr R ha hb K => by
  cases ha with
  | lst h1 => cases hb with
    | lst h2 =>
      obtain ⟨vs, hp, hv⟩ := R.its h1 hn
      obtain ⟨ws, hq, hw⟩ := R.its h2 hm'
      have l1 := hv.length
      cases hw
      cases l with
      | nil =>
        cases hv
        have z := RcNeAt.lists (A := A) (e := fun _ => true) hp.isList hq.isList rfl hr.u.2 (fun j h1 h2 => by simp at h1)
        exact z C.prog C.w E Q (K _ s.heap s.toks am (Pre.refl _) (Gr.refl _) R (.bool _))
      | cons x l =>
        have z := RcNeAt.lists_lengths (A := A) hp.isList hq.isList (by simp [l1]) hr.u.2
        exact z C.prog C.w E Q (K _ s.heap s.toks am (Pre.refl _) (Gr.refl _) R (.bool _))
/-! joins of lists -/
theorem o_add_lst {n m : Nat} {l k : List PV} (hn : ls[n]? = some l) (hm' : ls[m]? = some k) (hz : l.length + k.length ≤ sizeLine) : V2To C d (.lst n) (.lst m) (binaryOp .Add) ls (.lst ls.length) (ls ++ [l ++ k]) := .of fun A s am a b Q E hr R ha hb K => by
  cases ha with
  | lst h1 => cases hb with
    | lst h2 =>
      obtain ⟨vs, ⟨c1, hp⟩, hv⟩ := R.its h1 hn
      obtain ⟨ws, ⟨c2, hq⟩, hw⟩ := R.its h2 hm'
      refine P.add_list hp hq ?_ (by rw [List.size_toArray, List.size_toArray, hv.length, hw.length]; exact hz)
      have g := Gr.push s.heap { cls := .type "list", data := .seq (vs.toArray ++ ws.toArray) }
      refine K _ _ s.toks (am.add (s.heap.objs.size)) (Pre.add _ _) g (R.more get_size (fun b o e => Heap.get?_push_of_some _ e) (vs := vs ++ ws) ⟨0, ?_⟩ (hv.append hw)) (.lst (R.last _))
      rw [Heap.get?_push_size _ rfl]
      simp
end
end Mine
end
section
open PySem PySem.W PySem.Calls PyProof.Rows PySem.SeqAt
set_option maxRecDepth 100000
set_option linter.unusedVariables false
namespace Mine
/-- a slice's bound -/
inductive PTo (C : Cx) (env : Env) (d : Nat) (ρ : Loc) : Option Expr → LS → Option Int → LS → Prop where
  | none {ls : LS} : PTo C env d ρ none ls none ls
  | some {e : Expr} {ls ls' : LS} {k : Int} : ETo C env d (eval e env) ρ ls (.int k) ls' → PTo C env d ρ (some e) ls (some k) ls'
section
variable {C : Cx} {env : Env} {d : Nat} {ρ ρ1 ρ2 : Loc} {ls ls1 ls2 ls3 : LS} {p q r : PV} {f : PF} {ps qs : List PV} {ks : List (Str × PV)}
theorem PTo.run {e : Option Expr} {k : Option Int} (h : PTo C env d ρ e ls k ls1) {A : Around} {s : Shared} {am : Gh} {Q : Value → Shared → Prop} {E : Value → Shared → Prop} (hr : Room A d) (R : Rep C am ls s.heap s.toks) (F : Fm C env am s.heap ρ)
    (K : ∀ v h' tk am', Pre am am' → Gr s.heap h' → Rep C am' ls1 h' tk → IsPart v k → Q v { s with heap := h', toks := tk }) : wpAny (model C.prog C.w) A (evalPart e env) Q E s := by
  cases h with
  | none => exact wpAny_of_eq (evalPart_none env) (K _ s.heap s.toks am (Pre.refl _) (Gr.refl _) R .none)
  | some h =>
    rw [evalPart_some]
    exact h A s am _ E hr R F fun v h' tk am' p1 g1 R1 hv => by cases hv; exact K _ h' tk am' p1 g1 R1 (.int _ _)
def pick (l : List PV) (lo hi : Option Int) : List PV := (l.drop (kms_lo lo l.length)).take (kms_hi hi l.length - kms_lo lo l.length)
theorem e_slice {value : Expr} {lower upper : Option Expr} {pp pos : Pos} {n : Nat} {l : List PV} {lo hi : Option Int} (h1 : ETo C env d (eval value env) ρ ls (.lst n) ls1) (hlo : PTo C env d ρ lower ls1 lo ls2) (hhi : PTo C env d ρ upper ls2 hi ls3) (hn : ls3[n]? = some l) (hz : l.length ≤ sizeLine) :
    ETo C env d (eval (.Subscript value (.Slice lower upper none pp) pos) env) ρ ls (.lst ls3.length) (ls3 ++ [pick l lo hi]) := fun A s am Q E hr R F K => by
  refine Subscript_ (h1 A s am _ E hr R F fun a h1 t1 am1 p1 g1 R1 v1 => ?_)
  refine wpAny_Slice (hlo.run hr R1 (F.mono p1 g1) fun vl h2 t2 am2 p2 g2 R2 pl => ?_)
  refine hhi.run hr R2 (F.mono (p1.trans p2) (g1.trans g2)) fun vu h3 t3 am3 p3 g3 R3 pu => ?_
  refine wpAny_of_eq (evalPart_none env) ?_
  have v3 := (v1.mono p2 g2).mono p3 g3
  cases v3 with
  | lst hm =>
    rename_i la
    obtain ⟨vs, hp, hv⟩ := R3.its hm hn
    have hlen := hv.length
    have kp : ∀ b o, h3.get? b = some o → (h3.push { cls := .type "slice", data := .fields #[vl, vu, .none] }).get? b = some o := fun b o e => Heap.get?_push_of_some _ e
    have R4 := R3.keeps kp
    have hp4 : (h3.push { cls := .type "slice", data := .fields #[vl, vu, .none] }).PlainList la vs.toArray := hp.at fun o e => kp _ _ e
    refine tail_any (T := "list") hp4.isList.typeIs slot_list_getitem.lookup (wpAny_getItem_list_slice hp4.isList (Heap.IsSliceOf.new ..) pl pu .none (by simp) ?_ (by rw [List.size_toArray, hlen]; exact hz)) rfl
    have e : slicePick vs.toArray lo hi none = (kms_pick vs lo hi).toArray := by rw [kms_pick_eq]
    have hv4 : RVs am3 (h3.push { cls := .type "slice", data := .fields #[vl, vu, .none] }) (pick l lo hi) (kms_pick vs lo hi) := by
      unfold pick kms_pick
      rw [hlen]
      exact ((hv.mono (Pre.refl _) (Gr.of_keeps kp)).drop _).take _
    rw [e]
    have g := (Gr.of_keeps kp).trans (Gr.push (h3.push { cls := .type "slice", data := .fields #[vl, vu, .none] }) { cls := .type "list", data := .seq (kms_pick vs lo hi).toArray })
    exact K _ _ t3 (am3.add _) ((p1.trans (p2.trans p3)).trans (Pre.add _ _)) ((g1.trans (g2.trans g3)).trans g) (R4.more get_size (fun b o e => Heap.get?_push_of_some _ e) ⟨_, Heap.get?_push_size _ rfl⟩ hv4) (.lst (R3.last _))
/-! split, join -/
theorem RVs.strs_from {am : Gh} {h : Heap} : ∀ (tk : Nat) (xs : List Str), RVs am h (xs.map .str) (strsFrom tk xs)
  | _, [] => .nil
  | tk, x :: r => .cons (.str _ _) (RVs.strs_from (tk + 1) r)
theorem c_split {x y : Str} (hy : (y.length == 0) = false) (hx : x.length ≤ sizeLine) (hn : (Builtin.Str.partsBetween x (Builtin.Str.occurrences x y 0 x.length (x.length + 1)) y.length).length ≤ sizeLine) : CTo C d (.builtin "str.split") [.str x, .str y] [] ls (.lst ls.length) (ls ++ [(Txt.split x y).map .str]) := c_two <| .of fun A s am a b Q E hr R ha hb K => by
  cases ha; cases hb
  rename_i t u
  have itself : ∀ h : Txt.split x y = [x], Q (.ref s.heap.objs.size) { s with heap := s.heap.push { cls := .type "list", data := .seq [Value.str x t].toArray } } := fun h => by
    rw [h] at K
    exact K _ _ s.toks (am.add _) (Pre.add _ _) (Gr.push _ _) (R.more get_size (fun b o e => Heap.get?_push_of_some _ e) ⟨_, Heap.get?_push_size _ rfl⟩ (.cons (.str _ _) .nil)) (.lst (R.last _))
  cases h1 : (decide (x.length < y.length) || decide (Builtin.Str.strKind x < Builtin.Str.strKind y)) with
  | true => exact call_meets F.slot_str_split (typeIs_str _ _ _) F.entry_str_split (F.args_str_split_2 _ _) (meets_str_split_cannot_occur x y t u h1) (itself (by unfold Txt.split; rw [if_pos h1]))
  | false =>
    cases hf : (Builtin.Str.occurrences x y 0 x.length (x.length + 1)).isEmpty with
    | true => exact call_meets F.slot_str_split (typeIs_str _ _ _) F.entry_str_split (F.args_str_split_2 _ _) (meets_str_split_not_found x y t u h1 hy hf) (itself (by unfold Txt.split; rw [if_neg (by rw [h1]; decide), if_pos hf]))
    | false =>
      refine call_meets F.slot_str_split (typeIs_str _ _ _) F.entry_str_split (F.args_str_split_2 _ _) (meets_str_split_sep x y t u h1 hy hf hx hn) ?_
      have e : Txt.split x y = Builtin.Str.partsBetween x (Builtin.Str.occurrences x y 0 x.length (x.length + 1)) y.length := by unfold Txt.split; rw [if_neg (by rw [h1]; decide), if_neg (by rw [hf]; decide)]
      rw [e] at K
      exact K _ _ _ (am.add _) (Pre.add _ _) (Gr.push _ _) (R.more get_size (fun b o e => Heap.get?_push_of_some _ e) ⟨_, Heap.get?_push_size _ rfl⟩ (RVs.strs_from _ _)) (.lst (R.last _))
theorem RVs.strs_at {am : Gh} {h : Heap} : ∀ {xs : List Str} {vs : List Value}, RVs am h (xs.map .str) vs → ∃ l : List (Str × Tok), vs = strValues l ∧ l.map (·.1) = xs
  | [], _, .nil => ⟨[], rfl, rfl⟩
  | x :: xs, _, .cons a b => by
    cases a with
    | str _ t =>
      obtain ⟨l, h1, h2⟩ := RVs.strs_at b
      exact ⟨(x, t) :: l, by rw [h1]; rfl, by rw [← h2]; rfl⟩
theorem c_join {sep : Str} {n : Nat} {xs : List Str} (hn : ls[n]? = some (xs.map .str)) (hl : Builtin.Str.tooLong (xs.toArray.foldl (fun a p => a + p.length + sep.length) 0) = false) (hz : (Builtin.Str.glued sep xs).length ≤ sizeLine) : CTo C d (.builtin "str.join") [.str sep, .lst n] [] ls (.str (Builtin.Str.glued sep xs)) ls := c_two <| .of fun A s am a b Q E hr R ha hb K => by
  cases ha
  cases hb with
  | lst hm =>
    rename_i t la
    obtain ⟨vs, hp, hv⟩ := R.its hm hn
    obtain ⟨l, h1, h2⟩ := hv.strs_at
    subst h1
    refine call_meets F.slot_str_join (typeIs_str _ _ _) F.entry_str_join (F.args_str_join_2 _ _) (meets_str_join_list sep t la l (by rw [h2]; exact hl)) ⟨hp.isList, ?_⟩
    have fin : ∀ t' tk, Q (.str (Builtin.Str.glued sep xs) t') { s with toks := tk } := fun t' tk => K _ s.heap tk am (Pre.refl _) (Gr.refl _) R (.str _ _)
    match l, h2 with
    | [], h2 => exact ⟨by rw [h2]; exact hz, by rw [h2]; exact fin _ _⟩
    | [p], h2 =>
      have e : Builtin.Str.glued sep xs = p.1 := by rw [← h2]; rfl
      have := fin p.2 s.toks
      rw [e] at this; exact this
    | p :: q :: r, h2 => exact ⟨by rw [h2]; exact hz, by rw [h2]; exact fin _ _⟩
end
end Mine
end
section
open PySem PySem.W PySem.Calls PyProof.Rows
set_option maxRecDepth 100000
set_option linter.unusedVariables false
namespace Mine
/-- no list within -/
inductive Flat : PV → Prop where
  | none : Flat .none
  | bool (b : Bool) : Flat (.bool b)
  | int (i : Int) : Flat (.int i)
  | flt (x : UInt64) : Flat (.flt x)
  | str (s : Str) : Flat (.str s)
  | ref (a : Addr) : Flat (.ref a)
  | bi (a : String) : Flat (.bi a)
  | ty (a : String) : Flat (.ty a)
  | rng (a b c : Int) : Flat (.rng a b c)
  | tup {l : List PV} : (∀ x ∈ l, Flat x) → Flat (.tup l)
theorem Flat.nil : ∀ x ∈ ([] : List PV), Flat x := fun _ h => nomatch h
theorem Flat.cons {p : PV} {l : List PV} (h : Flat p) (t : ∀ x ∈ l, Flat x) : ∀ x ∈ p :: l, Flat x := fun x hx => by
  rcases List.mem_cons.mp hx with rfl | hx
  · exact h
  · exact t x hx
mutual
theorem RV.flat {am am' : Gh} {h : Heap} (e : am.τ = am'.τ) : ∀ {p : PV} {v : Value}, RV am h p v → Flat p → RV am' h p v
  | _, _, .none, _ => .none
  | _, _, .bool b, _ => .bool b
  | _, _, .int i t, _ => .int i t
  | _, _, .flt x t z, _ => .flt x t (e ▸ z)
  | _, _, .str x t, _ => .str x t
  | _, _, .tup ht hs, f => .tup ht (RVs.flat e hs (by cases f with | tup f => exact f))
  | _, _, .lst hn, f => nomatch f
  | _, _, .ref a, _ => .ref a
  | _, _, .bi a, _ => .bi a
  | _, _, .ty a, _ => .ty a
  | _, _, .rng hr, _ => .rng hr
theorem RVs.flat {am am' : Gh} {h : Heap} (e : am.τ = am'.τ) : ∀ {ps : List PV} {vs : List Value}, RVs am h ps vs → (∀ x ∈ ps, Flat x) → RVs am' h ps vs
  | _, _, .nil, _ => .nil
  | _, _, .cons a b, f => .cons (RV.flat e a (f _ (List.mem_cons_self ..))) (RVs.flat e b fun x hx => f x (List.mem_cons_of_mem _ hx))
end
def FlatLS (ls : LS) : Prop := ∀ l ∈ ls, ∀ x ∈ l, Flat x
section
variable {C : Cx} {env : Env} {d : Nat} {ρ ρ1 ρ2 : Loc} {ls ls1 ls2 ls3 X : LS} {p q r : PV} {f : PF} {ps qs : List PV} {ks : List (Str × PV)}
/-- the lists that a call has made for itself are let go -/
theorem Rep.let_go {am : Gh} {h : Heap} {tk : Nat} {n : Nat} (R : Rep C am (ls1 ++ X) h tk) (hf : FlatLS ls1) : Rep C ⟨am.l.take ls1.length, am.τ⟩ ls1 h tk := by
  refine ⟨R.pos, R.tks, R.old, ?_, ?_, ?_, ?_⟩
  · show (am.l.take ls1.length).length = _
    rw [List.length_take, R.len, List.length_append]; omega
  · exact R.nd.sublist (List.take_sublist _ _)
  · exact fun a ha => R.new a (List.mem_of_mem_take ha)
  · intro i a l ha hl
    have hi : i < ls1.length := (List.getElem?_eq_some_iff.mp hl).1
    have ha' : am.l[i]? = some a := by
      have : (am.l.take ls1.length)[i]? = some a := ha
      rwa [List.getElem?_take_of_lt hi] at this
    obtain ⟨vs, hp, hv⟩ := R.its ha' (by rw [List.getElem?_append_left hi]; exact hl)
    exact ⟨vs, hp, RVs.flat (by rfl) hv (hf l (List.mem_of_getElem? hl))⟩
theorem take_pre {am am' : Gh} {h : Heap} {h0 : Heap} {tk : Nat} (p : Pre am am') (R : Rep C am ls h0 tk) (e : ls.length = ls1.length) : Pre am ⟨am'.l.take ls1.length, am'.τ⟩ := by
  refine ⟨?_, p.τ⟩
  show am.l <+: am'.l.take ls1.length
  have : am'.l.take ls1.length = am.l := by
    obtain ⟨t, ht⟩ := p.l
    rw [← ht, ← e, ← R.len, List.take_left]
  rw [this]
  exact List.prefix_refl _
theorem CTo.drop {f : Value} (h : CTo C d f ps ks ls p (ls1 ++ X)) (hf : FlatLS ls1) (he : ls.length = ls1.length) (hp : Flat p) : CTo C d f ps ks ls p ls1 := fun A s am vs kv Q E hr R hvs hkv K =>
  h A s am vs kv Q E hr R hvs hkv fun v h' tk am' p1 g1 R1 hv => K v h' tk _ (take_pre (h := h') p1 R he) g1 (R1.let_go (n := 0) hf) (hv.flat (by rfl) hp)
/-- one list is handed back, the others are let go -/
theorem CTo.keep {f : Value} {n : Nat} {l : List PV} (h : CTo C d f ps ks ls (.lst n) (ls1 ++ X)) (hf : FlatLS ls1) (he : ls.length = ls1.length) (hn : ls1.length ≤ n) (hx : (ls1 ++ X)[n]? = some l) (hl : ∀ x ∈ l, Flat x) : CTo C d f ps ks ls (.lst ls1.length) (ls1 ++ [l]) := fun A s am vs kv Q E hr R hvs hkv K =>
  h A s am vs kv Q E hr R hvs hkv fun v h' tk am' p1 g1 R1 hv => by
    cases hv with
    | @lst _ a hm =>
      obtain ⟨ws, hpl, hws⟩ := R1.its hm hx
      have R2 := R1.let_go (n := 0) hf
      have hlen : (am'.l.take ls1.length).length = ls1.length := R2.len
      have hna : a ∉ am'.l.take ls1.length := fun hin => by
        obtain ⟨i, hi, e⟩ := List.getElem_of_mem hin
        rw [List.getElem_take] at e
        obtain ⟨h2, e2⟩ := List.getElem?_eq_some_iff.mp hm
        have := (List.getElem_inj R1.nd).mp (e.trans e2.symm)
        rw [hlen] at hi; omega
      have pr := take_pre (ls1 := ls1) (h := h') p1 R he
      refine K (.ref a) h' tk (Gh.add ⟨am'.l.take ls1.length, am'.τ⟩ a) (pr.trans (Pre.add _ _)) g1 ⟨R1.pos, R1.tks, R1.old, ?_, ?_, ?_, ?_⟩ (.lst (R2.last a))
      · show (am'.l.take ls1.length ++ [a]).length = _
        rw [List.length_append, hlen]; simp
      · refine List.nodup_append.mpr ⟨R2.nd, by simp, fun x hx y hy e => ?_⟩
        have : y = a := by simpa using hy
        rw [e, this] at hx; exact hna hx
      · intro x hx
        have hx : x ∈ am'.l.take ls1.length ++ [a] := hx
        rcases List.mem_append.mp hx with q | q
        · exact R1.new x (List.mem_of_mem_take q)
        · have : x = a := by simpa using q
          rw [this]; exact R1.new a (List.mem_of_getElem? hm)
      · intro i x m hi hmm
        have hi : (am'.l.take ls1.length ++ [a])[i]? = some x := hi
        by_cases q : i < ls1.length
        · rw [List.getElem?_append_left (by rw [hlen]; exact q)] at hi
          rw [List.getElem?_append_left q] at hmm
          obtain ⟨us, h1, h2⟩ := R2.its (i := i) (a := x) (l := m) hi hmm
          exact ⟨us, h1, RVs.flat (am := ⟨am'.l.take ls1.length, am'.τ⟩) (by rfl) h2 (hf m (List.mem_of_getElem? hmm))⟩
        · have hi2 : i < (am'.l.take ls1.length ++ [a]).length := (List.getElem?_eq_some_iff.mp hi).1
          have e1 : i = ls1.length := by rw [List.length_append, hlen] at hi2; simp at hi2; omega
          subst e1
          rw [List.getElem?_append_right (by rw [hlen]; exact Nat.le_refl _), hlen] at hi
          rw [List.getElem?_append_right (Nat.le_refl _)] at hmm
          simp at hi hmm
          subst hi hmm
          exact ⟨ws, hpl, RVs.flat (am := am') (by rfl) hws hl⟩
end
end Mine
end
section
open PySem PySem.W PySem.Calls PyProof.Rows
set_option maxRecDepth 100000
set_option linter.unusedVariables false
namespace Mine
theorem of_inj {a b : String} (h : Str.ofString a = Str.ofString b) : a = b := by
  have h1 : (Str.ofString a).cps.toList = (Str.ofString b).cps.toList := by rw [h]
  have e : ∀ s : String, (Str.ofString s).cps.toList = s.toList.map (·.toNat) := fun s => by rw [Str.ofString_eq_toList]
  rw [e, e] at h1
  have inj : ∀ (l m : List Char), l.map (·.toNat) = m.map (·.toNat) → l = m := by
    intro l
    induction l with
    | nil => intro m h; cases m with | nil => rfl | cons => simp at h
    | cons c l ih =>
      intro m h
      cases m with
      | nil => simp at h
      | cons d m =>
        simp only [List.map_cons, List.cons.injEq] at h
        have : c = d := Char.toNat_inj.mp h.1
        rw [this, ih m h.2]
  exact String.toList_inj.mp (inj _ _ h1)
theorem lk_hit (ρ : Loc) (a : Str) (p : PV) : (pset ρ a p).lookup a = some p := by rw [lookup_pset, if_pos rfl]
theorem lk_miss {ρ : Loc} {a b : String} {p : PV} {q : Option PV} (h : a ≠ b) (e : ρ.lookup (Str.ofString a) = q) : (pset ρ (Str.ofString b) p).lookup (Str.ofString a) = q := by rw [lookup_pset, if_neg fun e => h (of_inj e)]; exact e
theorem lc_hit (ρ : Loc) (a : Str) (p : PV) : List.lookup a ((a, p) :: ρ) = some p := by rw [List.lookup_cons]; simp
theorem lc_miss {ρ : Loc} {a b : String} {p : PV} {q : Option PV} (h : a ≠ b) (e : ρ.lookup (Str.ofString a) = q) : List.lookup (Str.ofString a) ((Str.ofString b, p) :: ρ) = q := by
  have : (Str.ofString a == Str.ofString b) = false := by
    cases e : (Str.ofString a == Str.ofString b) with
    | false => rfl
    | true => exact absurd (of_inj (by simpa using e)) h
  rw [List.lookup_cons, this]; exact e
theorem lz_hit (xs : List Str) (ps : List PV) (a : Str) (p : PV) : List.lookup a ((a :: xs).zip (p :: ps)) = some p := lc_hit _ _ _
theorem lz_miss {xs : List Str} {ps : List PV} {a b : String} {p : PV} {q : Option PV} (h : a ≠ b) (e : (xs.zip ps).lookup (Str.ofString a) = q) : List.lookup (Str.ofString a) ((Str.ofString b :: xs).zip (p :: ps)) = q := lc_miss h e
end Mine
end
section
open PySem PySem.W PySem.Calls PyProof.Rows
set_option maxRecDepth 100000
set_option linter.unusedVariables false
namespace Mine
/-- texts by their signs -/
def T (l : List Nat) : Str := ⟨l.toArray⟩
theorem T_len (l : List Nat) : (T l).length = l.length := by simp [T, Str.length]
theorem T_app (a b : List Nat) : T a ++ T b = T (a ++ b) := by
  show (⟨a.toArray ++ b.toArray⟩ : Str) = ⟨(a ++ b).toArray⟩
  simp
theorem T_list (x : Str) : T x.cps.toList = x := by unfold T; rw [Array.toArray_toList]
theorem T_inj {a b : List Nat} (h : T a = T b) : a = b := by
  unfold T at h
  injection h with h
  exact List.toArray_inj h
theorem intBits_small {a : Int} (h : a.natAbs < 2 ^ 62) : Builtin.Int.intBits a ≤ 64 := by
  unfold Builtin.Int.intBits
  by_cases h0 : a = 0
  · rw [if_pos (by simpa using h0)]; omega
  · rw [if_neg (by simpa using h0)]
    have := (Nat.log2_lt (n := a.natAbs) (k := 62) (by omega)).mpr h
    omega
theorem foldl_rep (c : Nat) : ∀ (k : Nat) (acc : Array Nat), ((List.replicate k #[c]).foldl (· ++ ·) acc).toList = acc.toList ++ List.replicate k c
  | 0, acc => by simp
  | k + 1, acc => by
    rw [List.replicate_succ, List.foldl_cons, foldl_rep c k]
    simp [List.replicate_succ]
theorem mul_one_sign (c : Nat) (k : Int) : Txt.mul (T [c]) k = T (List.replicate k.toNat c) := by
  unfold Txt.mul
  by_cases h1 : k < 1
  · rw [if_pos h1, show k.toNat = 0 by omega]; rfl
  · rw [if_neg h1]
    by_cases h2 : k = 1
    · subst h2; rfl
    · rw [if_neg (by simp [h2, T, Str.length])]
      show (⟨(List.replicate k.toNat #[c]).foldl (· ++ ·) #[]⟩ : Str) = _
      have e : (List.replicate k.toNat #[c]).foldl (· ++ ·) #[] = (List.replicate k.toNat c).toArray := Array.toList_inj.mp (by rw [foldl_rep]; simp)
      rw [e]; rfl
section
variable {C : Cx} {env : Env} {d : Nat} {ρ ρ1 ρ2 : Loc} {ls ls1 ls2 ls3 : LS} {p q r : PV} {ps qs : List PV}
theorem o_cat {a b : List Nat} (h : a.length + b.length ≤ 10000) : V2To C d (.str (T a)) (.str (T b)) (binaryOp .Add) ls (.str (T (a ++ b))) ls := by
  have hs : (10000 : Nat) ≤ sizeLine := by decide
  exact (o_add_str (by rw [T_len, T_len]; omega)).to (by rw [T_app])
theorem o_rep {c : Nat} {k : Int} (h0 : -1000 ≤ k) (h : k ≤ 1000) : V2To C d (.str (T [c])) (.int k) (binaryOp .Mult) ls (.str (T (List.replicate k.toNat c))) ls := by
  refine (o_mul_str (u := T [c]) (b := k) ⟨?_, ?_, ?_⟩).to (by rw [mul_one_sign])
  · simp; omega
  · intro _ _
    rw [T_len]
    show ¬ (((1 : Nat) : Int) > (2 ^ 63 - 1) / k)
    have : (1 : Int) ≤ (2 ^ 63 - 1) / k := by
      by_cases hk : 0 < k
      · exact Int.le_ediv_of_mul_le hk (by omega)
      · omega
    omega
  · intro _ _
    rw [T_len]
    have hs : (1000 : Nat) ≤ sizeLine := by decide
    unfold Builtin.Str.tooLong
    exact decide_eq_false (by simp; omega)
theorem o_muls {a b : Int} (ha : a.natAbs < 2 ^ 62) : V2To C d (.int a) (.int b) (binaryOp .Mult) ls (.int (a * b)) ls := o_mul_int (.of_left (intBits_small ha))
theorem e_lit {x : Str} {l : List Nat} {k : Nat} {pos : Pos} (h : x = T l) : ETo C env d (eval (.Constant (.str x) k pos) env) ρ ls (.str (T l)) ls := h ▸ e_str
end
end Mine
end
section
open PySem PySem.W PySem.Calls PyProof.Rows
set_option maxRecDepth 100000
set_option linter.unusedVariables false
namespace Mine
/-- a name holds a value -/
abbrev LK (ρ : Loc) (x : Str) (p : PV) : Prop := ρ.lookup x = some p
section
variable {C : Cx} {env : Env} {d : Nat} {ρ ρ1 ρ2 ρ3 : Loc} {ls ls1 ls2 ls3 : LS} {p q r : PV} {f : PF} {ps qs : List PV}
theorem t_lstN {value slice : Expr} {n : Nat} {l : List PV} {j : Nat} (hn : NoSlice slice) (hl : ls[n]? = some l) (hhi : j < 2 ^ 60) (hx : l[j]? = some r) : V2To C d (.lst n) (.int (j : Nat)) (subscriptTail value slice) ls r ls :=
  t_lst hn hl (by omega) (by omega) (by simpa using hx)
/-! ends that are told by a word alone -/
/-- a statement's end, by a word on its names and lists -/
def XE (C : Cx) (env : Env) (d : Nat) (t : Sem Flow) (ρ : Loc) (ls : LS) (f : PF) (P : Loc → LS → Prop) : Prop := ∃ ρ1 ls1, XTo C env d t ρ ls f ρ1 ls1 ∧ P ρ1 ls1
variable {P P' : Loc → LS → Prop}
theorem XE.of {t : Sem Flow} (h : XTo C env d t ρ ls f ρ1 ls1) (hp : P ρ1 ls1) : XE C env d t ρ ls f P := ⟨_, _, h, hp⟩
theorem XE.mono {t : Sem Flow} (h : XE C env d t ρ ls f P) (hp : ∀ ρ ls, P ρ ls → P' ρ ls) : XE C env d t ρ ls f P' := let ⟨_, _, a, b⟩ := h; ⟨_, _, a, hp _ _ b⟩
theorem r_consE {st : Stmt} {rest : List Stmt} (h1 : XE C env d (exec st env) ρ ls .next P) (h2 : ∀ ρ1 ls1, P ρ1 ls1 → RTo C env d (execs rest env) ρ1 ls1 p ls2) : RTo C env d (execs (st :: rest) env) ρ ls p ls2 :=
  let ⟨_, _, a, b⟩ := h1; r_cons a (h2 _ _ b)
theorem xe_nil (h : P ρ ls) : XE C env d (execs [] env) ρ ls .next P := ⟨_, _, x_nil, h⟩
theorem xe_cons {st : Stmt} {rest : List Stmt} (h1 : XTo C env d (exec st env) ρ ls .next ρ1 ls1) (h2 : XE C env d (execs rest env) ρ1 ls1 f P) : XE C env d (execs (st :: rest) env) ρ ls f P :=
  let ⟨_, _, a, b⟩ := h2; ⟨_, _, x_cons h1 a, b⟩
theorem xe_consE {st : Stmt} {rest : List Stmt} (h1 : XE C env d (exec st env) ρ ls .next P') (h2 : ∀ ρ1 ls1, P' ρ1 ls1 → XE C env d (execs rest env) ρ1 ls1 f P) : XE C env d (execs (st :: rest) env) ρ ls f P :=
  let ⟨_, _, a, b⟩ := h1; xe_cons a (h2 _ _ b)
theorem xe_one {st : Stmt} (h1 : XE C env d (exec st env) ρ ls .next P) : XE C env d (execs [st] env) ρ ls .next P :=
  let ⟨_, _, a, b⟩ := h1; ⟨_, _, x_cons a x_nil, b⟩
theorem xe_ifT {t : Expr} {body orelse : List Stmt} {pos : Pos} {b : Bool} (ht : BTo C env d (isTrue t env (eval t env)) ρ ls b ls1) (hb : b = true) (h : XE C env d (execs body env) ρ ls1 f P) : XE C env d (exec (.If t body orelse pos) env) ρ ls f P :=
  let ⟨_, _, a, c⟩ := h; ⟨_, _, x_if ht (fun _ => a) (fun e => by rw [hb] at e; cases e), c⟩
theorem xe_ifF {t : Expr} {body orelse : List Stmt} {pos : Pos} {b : Bool} (ht : BTo C env d (isTrue t env (eval t env)) ρ ls b ls1) (hb : b = false) (h : XE C env d (execs orelse env) ρ ls1 f P) : XE C env d (exec (.If t body orelse pos) env) ρ ls f P :=
  let ⟨_, _, a, c⟩ := h; ⟨_, _, x_if ht (fun e => by rw [hb] at e; cases e) (fun _ => a), c⟩
/-- a while by its word and a measure -/
theorem xe_while {test : Expr} {body : List Stmt} {pos : Pos} {m : Nat} (Inv : Nat → Loc → LS → Prop)
    (step : ∀ m ρ ls, Inv m ρ ls → (BTo C env d (isTrue test env (eval test env)) ρ ls false ls ∧ P ρ ls) ∨
      (BTo C env d (isTrue test env (eval test env)) ρ ls true ls ∧ XE C env d (execs body env) ρ ls .next fun ρ1 ls1 => ∃ m', m' < m ∧ Inv m' ρ1 ls1))
    (h0 : Inv m ρ ls) : XE C env d (exec (.While test body [] pos) env) ρ ls .next P := by
  have : ∀ m ρ ls, Inv m ρ ls → ∃ n ρ1 ls1, Wl C env d test body n ρ ls .next ρ1 ls1 ∧ P ρ1 ls1 := by
    intro m
    induction m using Nat.strongRecOn with
    | _ m ih =>
      intro ρ ls h
      rcases step m ρ ls h with ⟨a, b⟩ | ⟨a, ρ1, ls1, b, m', hm, c⟩
      · exact ⟨0, _, _, .stop a, b⟩
      · obtain ⟨n, ρ2, ls2, w, pp⟩ := ih m' hm ρ1 ls1 c
        exact ⟨n + 1, _, _, .next a b w, pp⟩
  obtain ⟨n, ρ1, ls1, w, pp⟩ := this m ρ ls h0
  exact ⟨_, _, x_while w, pp⟩
/-- a for by its word -/
theorem lp_inv {target : Expr} {body : List Stmt} {ok : LS → Prop} {items : List PV} (Inv : Nat → Loc → LS → Prop) (hok : ∀ i ρ ls, i ≤ items.length → Inv i ρ ls → ok ls)
    (step : ∀ i q ρ ls, items[i]? = some q → Inv i ρ ls → ∃ ρ1, ATo C env target ρ q ρ1 ∧ XE C env d (execs body env) ρ1 ls .next fun ρ2 ls2 => Inv (i + 1) ρ2 ls2)
    (h0 : Inv 0 ρ ls) : ∃ ρ1 ls1, Lp C env d target body ok items ρ ls .next ρ1 ls1 ∧ Inv items.length ρ1 ls1 := by
  have : ∀ (r i : Nat) ρ ls, i + r = items.length → Inv i ρ ls → ∃ ρ1 ls1, Lp C env d target body ok (items.drop i) ρ ls .next ρ1 ls1 ∧ Inv items.length ρ1 ls1 := by
    intro r
    induction r with
    | zero =>
      intro i ρ ls hi h
      have : i = items.length := by omega
      subst this
      rw [List.drop_length]
      exact ⟨_, _, .nil (hok _ _ _ (Nat.le_refl _) h), h⟩
    | succ r ih =>
      intro i ρ ls hi h
      have hlt : i < items.length := by omega
      obtain ⟨ρ1, ha, ρ2, ls2, hx, h2⟩ := step i items[i] ρ ls (by simp [hlt]) h
      obtain ⟨ρ3, ls3, hl, h3⟩ := ih (i + 1) ρ2 ls2 (by omega) h2
      rw [List.drop_eq_getElem_cons hlt]
      exact ⟨_, _, .next (hok _ _ _ (by omega) h) ha hx hl, h3⟩
  simpa using this items.length 0 ρ ls (by omega) h0
theorem xe_for {target iter : Expr} {body : List Stmt} {pos : Pos} {ok : LS → Prop} {items : List PV} (Inv : Nat → Loc → LS → Prop) (h : ETo C env d (eval iter env) ρ ls p ls1) (S : Src C target p ls1 ok items)
    (h0 : Inv 0 ρ ls1) (hok : ∀ i ρ ls, i ≤ items.length → Inv i ρ ls → ok ls)
    (step : ∀ i q ρ ls, items[i]? = some q → Inv i ρ ls → ∃ ρ1, ATo C env target ρ q ρ1 ∧ XE C env d (execs body env) ρ1 ls .next fun ρ2 ls2 => Inv (i + 1) ρ2 ls2)
    (hs : ∀ x, foldedSetIterable iter env x = pure x) : XE C env d (exec (.For target iter body [] pos) env) ρ ls .next (Inv items.length) := by
  obtain ⟨ρ1, ls2, L, hi⟩ := lp_inv Inv hok step h0
  exact ⟨_, _, x_for h S L hs, hi⟩
/-- a comprehension without a test, element by element -/
theorem cp_map {target elt : Expr} {ok : LS → Prop} {k : Nat} (g : PV → PV) (base : LS) (J : Loc → Prop) (hk : k = base.length) (hok : ∀ l, ok (base ++ [l])) :
    ∀ (items done : List PV) (ρ : Loc), J ρ → done.length + items.length ≤ 10000 →
      (∀ q ∈ items, ∀ ρ l, J ρ → ∃ ρ1, ATo C env target ρ q ρ1 ∧ ETo C env d (eval elt env) ρ1 (base ++ [l]) (g q) (base ++ [l]) ∧ J ρ1) →
      ∃ ρ1, Cp C env d target elt [] ok k items ρ (base ++ [done]) ρ1 (base ++ [done ++ items.map g])
  | [], done, ρ, _, _, _ => ⟨ρ, by rw [List.map_nil, List.append_nil]; exact .nil (hok _)⟩
  | q :: items, done, ρ, hj, hl, h => by
    subst hk
    have hs : (10000 : Nat) ≤ sizeLine := by decide
    obtain ⟨ρ1, ha, he, hj1⟩ := h q (by simp) ρ done hj
    obtain ⟨ρ2, hc⟩ := cp_map g base J rfl hok items (done ++ [g q]) ρ1 hj1 (by simp at hl ⊢; omega) fun q' hq => h q' (by simp [hq])
    refine ⟨ρ2, .emit (acc := done) (hok _) ha .nil he (by simp) (by simp at hl; omega) ?_⟩
    have e : (base ++ [done]).set base.length (done ++ [g q]) = base ++ [done ++ [g q]] := by simp
    rw [e]
    simpa using hc
/-- a comprehension with one test that makes nothing -/
theorem cp_filter {target elt c : Expr} {ok : LS → Prop} {k : Nat} (t : PV → Bool) (g : PV → PV) (base : LS) (J : Loc → Prop) (hk : k = base.length) (hok : ∀ l, ok (base ++ [l])) :
    ∀ (items done : List PV) (ρ : Loc), J ρ → done.length + items.length ≤ 10000 →
      (∀ q ∈ items, ∀ ρ l, J ρ → ∃ ρ1, ATo C env target ρ q ρ1 ∧ BTo C env d (isTrue c env (eval c env)) ρ1 (base ++ [l]) (t q) (base ++ [l]) ∧ ETo C env d (eval elt env) ρ1 (base ++ [l]) (g q) (base ++ [l]) ∧ J ρ1) →
      ∃ ρ1, Cp C env d target elt [c] ok k items ρ (base ++ [done]) ρ1 (base ++ [done ++ (items.filter t).map g])
  | [], done, ρ, _, _, _ => ⟨ρ, by rw [List.filter_nil, List.map_nil, List.append_nil]; exact .nil (hok _)⟩
  | q :: items, done, ρ, hj, hl, h => by
    subst hk
    have hs : (10000 : Nat) ≤ sizeLine := by decide
    obtain ⟨ρ1, ha, hb, he, hj1⟩ := h q (by simp) ρ done hj
    cases ht : t q with
    | false =>
      rw [ht] at hb
      obtain ⟨ρ2, hc⟩ := cp_filter t g base J rfl hok items done ρ1 hj1 (by simp at hl ⊢; omega) fun q' hq => h q' (by simp [hq])
      rw [List.filter_cons_of_neg (by rw [ht]; decide)]
      exact ⟨ρ2, .skip (hok _) ha (.one hb) hc⟩
    | true =>
      rw [ht] at hb
      obtain ⟨ρ2, hc⟩ := cp_filter t g base J rfl hok items (done ++ [g q]) ρ1 hj1 (by simp at hl ⊢; omega) fun q' hq => h q' (by simp [hq])
      rw [List.filter_cons_of_pos ht]
      refine ⟨ρ2, .emit (acc := done) (hok _) ha (.one hb) he (by simp) (by simp at hl; omega) ?_⟩
      have e : (base ++ [done]).set base.length (done ++ [g q]) = base ++ [done ++ [g q]] := by simp
      rw [e]
      simpa using hc
end
/-! lists that are let go, where others hold lists -/
/-- no list within but the first n -/
inductive Low (n : Nat) : PV → Prop where
  | none : Low n .none
  | bool (b : Bool) : Low n (.bool b)
  | int (i : Int) : Low n (.int i)
  | flt (x : UInt64) : Low n (.flt x)
  | str (s : Str) : Low n (.str s)
  | ref (a : Addr) : Low n (.ref a)
  | bi (a : String) : Low n (.bi a)
  | ty (a : String) : Low n (.ty a)
  | rng (a b c : Int) : Low n (.rng a b c)
  | lst {m : Nat} : m < n → Low n (.lst m)
  | tup {l : List PV} : (∀ x ∈ l, Low n x) → Low n (.tup l)
theorem Flat.low {n : Nat} {p : PV} (h : Flat p) : Low n p := by
  induction h with
  | none => exact .none
  | bool => exact .bool _
  | int => exact .int _
  | flt => exact .flt _
  | str => exact .str _
  | ref => exact .ref _
  | bi => exact .bi _
  | ty => exact .ty _
  | rng => exact .rng _ _ _
  | tup _ ih => exact .tup ih
mutual
theorem RV.low {am : Gh} {h : Heap} {n : Nat} : ∀ {p : PV} {v : Value}, RV am h p v → Low n p → RV ⟨am.l.take n, am.τ⟩ h p v
  | _, _, .none, _ => .none
  | _, _, .bool b, _ => .bool b
  | _, _, .int i t, _ => .int i t
  | _, _, .flt x t z, _ => .flt x t z
  | _, _, .str x t, _ => .str x t
  | _, _, .tup ht hs, f => .tup ht (RVs.low hs (by cases f with | tup f => exact f))
  | _, _, .lst hn, f => .lst (by cases f with | lst f => show (am.l.take n)[_]? = _; rw [List.getElem?_take_of_lt f]; exact hn)
  | _, _, .ref a, _ => .ref a
  | _, _, .bi a, _ => .bi a
  | _, _, .ty a, _ => .ty a
  | _, _, .rng hr, _ => .rng hr
theorem RVs.low {am : Gh} {h : Heap} {n : Nat} : ∀ {ps : List PV} {vs : List Value}, RVs am h ps vs → (∀ x ∈ ps, Low n x) → RVs ⟨am.l.take n, am.τ⟩ h ps vs
  | _, _, .nil, _ => .nil
  | _, _, .cons a b, f => .cons (RV.low a (f _ (List.mem_cons_self ..))) (RVs.low b fun x hx => f x (List.mem_cons_of_mem _ hx))
end
def LowLS (ls : LS) : Prop := ∀ l ∈ ls, ∀ x ∈ l, Low ls.length x
theorem FlatLS.low {ls : LS} (h : FlatLS ls) : LowLS ls := fun l hl x hx => (h l hl x hx).low
section
variable {C : Cx} {env : Env} {d : Nat} {ρ ρ1 ρ2 ρ3 : Loc} {ls ls1 ls2 ls3 X : LS} {p q r : PV} {f : PF} {ps qs : List PV} {ks : List (Str × PV)}
theorem Rep.let_low {am : Gh} {h : Heap} {tk : Nat} (R : Rep C am (ls1 ++ X) h tk) (hf : LowLS ls1) : Rep C ⟨am.l.take ls1.length, am.τ⟩ ls1 h tk := by
  refine ⟨R.pos, R.tks, R.old, ?_, ?_, ?_, ?_⟩
  · show (am.l.take ls1.length).length = _
    rw [List.length_take, R.len, List.length_append]; omega
  · exact R.nd.sublist (List.take_sublist _ _)
  · exact fun a ha => R.new a (List.mem_of_mem_take ha)
  · intro i a l ha hl
    have hi : i < ls1.length := (List.getElem?_eq_some_iff.mp hl).1
    have ha' : am.l[i]? = some a := by
      have : (am.l.take ls1.length)[i]? = some a := ha
      rwa [List.getElem?_take_of_lt hi] at this
    obtain ⟨vs, hp, hv⟩ := R.its ha' (by rw [List.getElem?_append_left hi]; exact hl)
    exact ⟨vs, hp, RVs.low hv (hf l (List.mem_of_getElem? hl))⟩
theorem ETo.drop {t : Sem Value} (h : ETo C env d t ρ ls p (ls1 ++ X)) (hf : LowLS ls1) (he : ls.length = ls1.length) (hp : Low ls1.length p) : ETo C env d t ρ ls p ls1 := fun A s am Q E hr R F K =>
  h A s am Q E hr R F fun v h' tk am' p1 g1 R1 hv => K v h' tk _ (take_pre (h := h') p1 R he) g1 (R1.let_low hf) (hv.low hp)
theorem BTo.drop {t : Sem Bool} {b : Bool} (h : BTo C env d t ρ ls b (ls1 ++ X)) (hf : LowLS ls1) (he : ls.length = ls1.length) : BTo C env d t ρ ls b ls1 := fun A s am Q E hr R F K =>
  h A s am Q E hr R F fun h' tk am' p1 g1 R1 => K h' tk _ (take_pre (h := h') p1 R he) g1 (R1.let_low hf)
end
end Mine
end
section
open PySem PySem.W PySem.Calls PyProof.Rows PySem.Float64
set_option maxRecDepth 100000
set_option linter.unusedVariables false
namespace Mine
/-! floats that are exact -/
/-- the float of k / 2 ^ c -/
def fl (k : Int) (c : Nat) : UInt64 := ofFrac (decide (k < 0)) k.natAbs (2 ^ c)
structure Fit (k : Int) (c : Nat) : Prop where
  k : k.natAbs < 2 ^ 53
  c : c ≤ 1000
theorem rep_exists {n c : Nat} (hn : n < 2 ^ 53) (hc : c ≤ 1000) : ∃ t, t < infMag ∧ V t = n * 2 ^ (1074 - c) := by
  have hi : infMag = 2047 * 2 ^ 52 := rfl
  by_cases h0 : n = 0
  · subst h0; exact ⟨0, by rw [hi]; decide, by rw [V_zero, Nat.zero_mul]⟩
  · have hlog : n.log2 < 53 := (Nat.log2_lt h0).mpr hn
    have hlo : 2 ^ n.log2 ≤ n := Nat.log2_self_le h0
    have hhi : n < 2 ^ (n.log2 + 1) := Nat.lt_log2_self
    generalize n.log2 = g at hlog hlo hhi
    have e52 : (2 : Nat) ^ 52 = 2 ^ g * 2 ^ (52 - g) := by rw [← Nat.pow_add]; congr 1; omega
    have e53 : (2 : Nat) ^ 53 = 2 ^ (g + 1) * 2 ^ (52 - g) := by rw [← Nat.pow_add]; congr 1; omega
    have q1 : 2 ^ 52 ≤ n * 2 ^ (52 - g) := by rw [e52]; exact Nat.mul_le_mul_right _ hlo
    have q2 : n * 2 ^ (52 - g) < 2 ^ 53 := by rw [e53]; exact Nat.mul_lt_mul_of_pos_right hhi (Nat.two_pow_pos _)
    refine ⟨(1074 - c - (52 - g)) * 2 ^ 52 + n * 2 ^ (52 - g), ?_, ?_⟩
    · rw [hi]
      have : 1074 - c - (52 - g) ≤ 1074 := by omega
      have : (1074 - c - (52 - g)) * 2 ^ 52 ≤ 1074 * 2 ^ 52 := Nat.mul_le_mul_right _ this
      omega
    · rw [V_at (Nat.le_of_lt q2) (.inl q1), Nat.mul_assoc, ← Nat.pow_add]
      congr 2; omega
theorem V_inj {a b : Nat} (h : V a = V b) : a = b := by
  rcases Nat.lt_trichotomy a b with q | q | q
  · exact absurd h (Nat.ne_of_lt (V_lt q))
  · exact q
  · exact absurd h.symm (Nat.ne_of_lt (V_lt q))
theorem small_W {n c : Nat} (hn : n < 2 ^ 53) : n * 2 ^ (1074 - c) < 2 ^ 1127 := by
  have h1 : n * 2 ^ (1074 - c) < 2 ^ 53 * 2 ^ (1074 - c) := Nat.mul_lt_mul_of_pos_right hn (Nat.two_pow_pos _)
  have h2 : 2 ^ 53 * 2 ^ (1074 - c) ≤ 2 ^ 53 * 2 ^ 1074 := Nat.mul_le_mul_left _ (Nat.pow_le_pow_right (by decide) (by omega))
  exact Nat.lt_of_lt_of_le h1 (Nat.le_trans h2 (by rw [← Nat.pow_add]; exact Nat.le_refl _))
theorem right_exact {r : UInt64} {neg : Bool} {W D t : Nat} (h : Right r neg (D * W) D) (hD : 0 < D) (ht : t < infMag) (hV : V t = W) (hW : W < 2 ^ 1127) : r = pack neg t := by
  obtain ⟨t1, hr, hle, hinf, hnear⟩ := h
  have hlt : t1 < infMag := by
    refine Nat.lt_of_le_of_ne hle fun e => ?_
    have := hinf.mp e
    have h2 : 2 * (D * W) = D * (2 * W) := by ac_rfl
    rw [h2] at this
    have h3 := Nat.le_of_mul_le_mul_left this hD
    have h4 : (2 ^ 1128 : Nat) ≤ (2 ^ 54 - 1) * 2 ^ 2045 := by
      have : (2 : Nat) ^ 1128 ≤ 2 ^ 2045 := Nat.pow_le_pow_right (by decide) (by decide)
      exact Nat.le_trans this (Nat.le_mul_of_pos_left _ (by decide))
    have h5 : (2 : Nat) ^ 1128 = 2 * 2 ^ 1127 := by rw [show (1128 : Nat) = 1127 + 1 from rfl, Nat.pow_succ, Nat.mul_comm]
    omega
  have hd := (hnear hlt t).1
  rw [hV] at hd
  have z : dist (D * W) (D * W) = 0 := by unfold dist; omega
  rw [z] at hd
  have : D * W = D * V t1 := by unfold dist at hd; omega
  have e : V t1 = V t := by rw [hV]; exact (Nat.eq_of_mul_eq_mul_left hD this).symm
  rw [hr, V_inj e]
theorem fl_right (k : Int) {c : Nat} (hc : c ≤ 1000) : Right (fl k c) (decide (k < 0)) (1 * (k.natAbs * 2 ^ (1074 - c))) 1 := by
  refine ofFrac_right (Nat.two_pow_pos _) ?_ (by decide)
  rw [Nat.mul_one, Nat.one_mul, Nat.mul_assoc, ← Nat.pow_add]
  congr 2; omega
theorem fl_pack {k : Int} {c : Nat} (f : Fit k c) : ∃ t, t < infMag ∧ V t = k.natAbs * 2 ^ (1074 - c) ∧ fl k c = pack (decide (k < 0)) t := by
  obtain ⟨t, h1, h2⟩ := rep_exists f.k f.c
  exact ⟨t, h1, h2, right_exact (fl_right k f.c) (by decide) h1 h2 (small_W f.k)⟩
/-- what is rightly rounded and fits is that float -/
theorem fl_of {r : UInt64} {k : Int} {c D W : Nat} (f : Fit k c) (h : Right r (decide (k < 0)) W D) (hD : 0 < D) (hW : W = D * (k.natAbs * 2 ^ (1074 - c))) : r = fl k c := by
  obtain ⟨t, h1, h2, h3⟩ := fl_pack f
  rw [h3]
  subst hW
  exact right_exact h hD h1 h2 (small_W f.k)
theorem fl_dec {k : Int} {c : Nat} (f : Fit k c) : ∃ m e, decode (fl k c) = .fin (decide (k < 0)) m e ∧ m * 2 ^ (e + 1074).toNat = k.natAbs * 2 ^ (1074 - c) ∧ val (fl k c) = k * ((2 ^ (1074 - c) : Nat) : Int) := by
  obtain ⟨t, h1, h2, h3⟩ := fl_pack f
  obtain ⟨m, e, hd, hm⟩ := decode_pack (decide (k < 0)) h1
  refine ⟨m, e, by rw [h3]; exact hd, by rw [hm, h2], ?_⟩
  rw [h3, val_pack _ h1, h2, sgn_mul]
  congr 1
  unfold sgn
  by_cases h : k < 0
  · simp [h]; omega
  · simp [h]; omega
theorem pw_pos (n : Nat) : (0 : Int) < ((2 ^ n : Nat) : Int) := Int.ofNat_lt.mpr (Nat.two_pow_pos _)
theorem fl_zero (c : Nat) : fl 0 c = zero false := by unfold fl ofFrac roundMag; rfl
theorem sgn_mulpos {a : Int} {n : Nat} : decide (a * ((2 ^ n : Nat) : Int) < 0) = decide (a < 0) := by
  have := pw_pos n
  refine decide_eq_decide.mpr ⟨fun h => ?_, fun h => ?_⟩
  · by_cases q : a < 0
    · exact q
    · have := Int.mul_nonneg (Int.not_lt.mp q) (Int.le_of_lt this)
      omega
  · exact Int.mul_neg_of_neg_of_pos h this
theorem fl_add {a b : Int} {c : Nat} (fa : Fit a c) (fb : Fit b c) (fs : Fit (a + b) c) : add (fl a c) (fl b c) = fl (a + b) c := by
  obtain ⟨m, e, d1, _, v1⟩ := fl_dec fa
  obtain ⟨k, f, d2, _, v2⟩ := fl_dec fb
  have z := add_right d1 d2
  rw [v1, v2, ← Int.add_mul] at z
  by_cases h : a + b = 0
  · rw [h, Int.zero_mul] at z
    rw [z.1 rfl, h, fl_zero]
    congr 1
    have : ¬ (a < 0 ∧ b < 0) := by omega
    simpa using this
  · have hne : (a + b) * ((2 ^ (1074 - c) : Nat) : Int) ≠ 0 := Int.mul_ne_zero h (Int.ne_of_gt (pw_pos _))
    have r := z.2 hne
    rw [sgn_mulpos] at r
    exact fl_of fs r (by decide) (by rw [Int.natAbs_mul, Int.natAbs_natCast, Nat.one_mul])
theorem fl_sub {a b : Int} {c : Nat} (fa : Fit a c) (fb : Fit b c) (fs : Fit (a - b) c) (hz : a = b → 0 ≤ a) : sub (fl a c) (fl b c) = fl (a - b) c := by
  obtain ⟨m, e, d1, _, v1⟩ := fl_dec fa
  obtain ⟨k, f, d2, _, v2⟩ := fl_dec fb
  have z := sub_right d1 d2
  rw [v1, v2, ← Int.sub_mul] at z
  by_cases h : a - b = 0
  · rw [h, Int.zero_mul] at z
    rw [z.1 rfl, h, fl_zero]
    congr 1
    have := hz (by omega)
    simp; omega
  · have hne : (a - b) * ((2 ^ (1074 - c) : Nat) : Int) ≠ 0 := Int.mul_ne_zero h (Int.ne_of_gt (pw_pos _))
    have r := z.2 hne
    rw [sgn_mulpos] at r
    exact fl_of fs r (by decide) (by rw [Int.natAbs_mul, Int.natAbs_natCast, Nat.one_mul])
theorem neg_xor {a b : Int} (h : a * b = 0 → 0 ≤ a ∧ 0 ≤ b) : (decide (a < 0) != decide (b < 0)) = decide (a * b < 0) := by
  by_cases h0 : a * b = 0
  · obtain ⟨h1, h2⟩ := h h0
    rw [h0, decide_eq_false (by omega : ¬ a < 0), decide_eq_false (by omega : ¬ b < 0)]; rfl
  · have ha : a ≠ 0 := fun e => h0 (by rw [e, Int.zero_mul])
    have hb : b ≠ 0 := fun e => h0 (by rw [e, Int.mul_zero])
    by_cases h1 : a < 0 <;> by_cases h2 : b < 0
    · have := Int.mul_pos_of_neg_of_neg h1 h2
      rw [decide_eq_true h1, decide_eq_true h2, decide_eq_false (by omega : ¬ a * b < 0)]; rfl
    · have := Int.mul_neg_of_neg_of_pos h1 (by omega : 0 < b)
      rw [decide_eq_true h1, decide_eq_false h2, decide_eq_true this]; rfl
    · have := Int.mul_neg_of_pos_of_neg (by omega : 0 < a) h2
      rw [decide_eq_false h1, decide_eq_true h2, decide_eq_true this]; rfl
    · have := Int.mul_pos (by omega : 0 < a) (by omega : 0 < b)
      rw [decide_eq_false h1, decide_eq_false h2, decide_eq_false (by omega : ¬ a * b < 0)]; rfl
theorem fl_mul {a b : Int} {c d : Nat} (fa : Fit a c) (fb : Fit b d) (fs : Fit (a * b) (c + d)) (hz : a * b = 0 → 0 ≤ a ∧ 0 ≤ b) : mul (fl a c) (fl b d) = fl (a * b) (c + d) := by
  obtain ⟨m, e, d1, _, v1⟩ := fl_dec fa
  obtain ⟨k, f, d2, _, v2⟩ := fl_dec fb
  have z := mul_right d1 d2
  rw [neg_xor hz, v1, v2] at z
  refine fl_of fs z (Nat.two_pow_pos _) ?_
  have hc := fs.c
  rw [Int.natAbs_mul, Int.natAbs_mul, Int.natAbs_mul, Int.natAbs_natCast, Int.natAbs_natCast]
  have e1 : (2 : Nat) ^ (1074 - c) * 2 ^ (1074 - d) = 2 ^ 1074 * 2 ^ (1074 - (c + d)) := by rw [← Nat.pow_add, ← Nat.pow_add]; congr 1; omega
  calc a.natAbs * 2 ^ (1074 - c) * (b.natAbs * 2 ^ (1074 - d)) = a.natAbs * b.natAbs * (2 ^ (1074 - c) * 2 ^ (1074 - d)) := by ac_rfl
    _ = a.natAbs * b.natAbs * (2 ^ 1074 * 2 ^ (1074 - (c + d))) := by rw [e1]
    _ = _ := by ac_rfl
/-- an exact quotient -/
theorem fl_div {a b q : Int} {c d e : Nat} (fa : Fit a c) (fb : Fit b d) (fq : Fit q e) (hb : 0 < b) (h : a * ((2 ^ (d + e) : Nat) : Int) = q * b * ((2 ^ c : Nat) : Int)) : div (fl a c) (fl b d) = fl q e := by
  obtain ⟨m, g, d1, _, v1⟩ := fl_dec fa
  obtain ⟨k, f, d2, hk, v2⟩ := fl_dec fb
  have hk0 : k ≠ 0 := fun e0 => by
    rw [e0, Nat.zero_mul] at hk
    rcases Nat.mul_eq_zero.mp hk.symm with h1 | h1
    · omega
    · exact absurd h1 (Nat.ne_of_gt (Nat.two_pow_pos _))
  have z := div_right d1 d2 hk0
  have hs : (decide (a < 0) != decide (b < 0)) = decide (q < 0) := by
    rw [decide_eq_false (by omega : ¬ b < 0)]
    have e1 : decide (a < 0) = decide (q < 0) := by
      have p1 := sgn_mulpos (a := a) (n := d + e)
      have p2 := sgn_mulpos (a := q * b) (n := c)
      have p3 : decide (q * b < 0) = decide (q < 0) := by
        refine decide_eq_decide.mpr ⟨fun h => ?_, fun h => Int.mul_neg_of_neg_of_pos h hb⟩
        by_cases w : q < 0
        · exact w
        · have := Int.mul_nonneg (Int.not_lt.mp w) (Int.le_of_lt hb); omega
      rw [← p1, h, p2, p3]
    rw [e1]; cases decide (q < 0) <;> rfl
  rw [hs, v1, v2] at z
  have hD : 0 < (b * ((2 ^ (1074 - d) : Nat) : Int)).natAbs := by
    rw [Int.natAbs_mul, Int.natAbs_natCast]
    exact Nat.mul_pos (by omega) (Nat.two_pow_pos _)
  refine fl_of fq z hD ?_
  have hn : a.natAbs * 2 ^ (d + e) = q.natAbs * b.natAbs * 2 ^ c := by
    have := congrArg Int.natAbs h
    rw [Int.natAbs_mul, Int.natAbs_mul, Int.natAbs_mul, Int.natAbs_natCast, Int.natAbs_natCast] at this
    exact this
  rw [Int.natAbs_mul, Int.natAbs_mul, Int.natAbs_natCast, Int.natAbs_natCast]
  have hc := fa.c
  have hd' := fb.c
  have he := fq.c
  refine Nat.eq_of_mul_eq_mul_right (Nat.two_pow_pos (c + (d + e))) ?_
  have p1 : (2 : Nat) ^ (1074 - c) * 2 ^ c = 2 ^ 1074 := by rw [← Nat.pow_add]; congr 1; omega
  have p2 : (2 : Nat) ^ (1074 - d) * 2 ^ d = 2 ^ 1074 := by rw [← Nat.pow_add]; congr 1; omega
  have p3 : (2 : Nat) ^ (1074 - e) * 2 ^ e = 2 ^ 1074 := by rw [← Nat.pow_add]; congr 1; omega
  calc a.natAbs * 2 ^ (1074 - c) * 2 ^ 1074 * 2 ^ (c + (d + e)) = (a.natAbs * 2 ^ (d + e)) * (2 ^ (1074 - c) * 2 ^ c) * 2 ^ 1074 := by rw [Nat.pow_add 2 c]; ac_rfl
    _ = q.natAbs * b.natAbs * 2 ^ c * 2 ^ 1074 * 2 ^ 1074 := by rw [hn, p1]
    _ = q.natAbs * b.natAbs * 2 ^ c * (2 ^ (1074 - d) * 2 ^ d) * (2 ^ (1074 - e) * 2 ^ e) := by rw [p2, p3]
    _ = _ := by rw [Nat.pow_add 2 c, Nat.pow_add 2 d]; ac_rfl
theorem fl_scale {a : Int} {c j : Nat} (f : Fit a c) (g : Fit (a * ((2 ^ j : Nat) : Int)) (c + j)) : fl (a * ((2 ^ j : Nat) : Int)) (c + j) = fl a c := by
  have z := fl_right (a * ((2 ^ j : Nat) : Int)) g.c
  rw [sgn_mulpos] at z
  refine fl_of f z (by decide) ?_
  rw [Int.natAbs_mul, Int.natAbs_natCast, Nat.mul_assoc, ← Nat.pow_add]
  have := g.c
  congr 3; omega
theorem cmp_scale (p q : Int) (n : Nat) : compare (p * ((2 ^ n : Nat) : Int)) (q * ((2 ^ n : Nat) : Int)) = compare p q := by
  have hK := pw_pos n
  rcases Int.lt_trichotomy p q with h | h | h
  · rw [Int.compare_eq_lt.mpr h, Int.compare_eq_lt.mpr (Int.mul_lt_mul_of_pos_right h hK)]
  · subst h; simp
  · rw [Int.compare_eq_gt.mpr h, Int.compare_eq_gt.mpr (Int.mul_lt_mul_of_pos_right h hK)]
theorem fl_cmp {a b : Int} {c : Nat} (fa : Fit a c) (fb : Fit b c) : cmp (fl a c) (fl b c) = some (compare a b) := by
  obtain ⟨m, e, d1, _, v1⟩ := fl_dec fa
  obtain ⟨k, f, d2, _, v2⟩ := fl_dec fb
  rw [cmp_right d1 d2, v1, v2, cmp_scale]
theorem fl_cmpInt {a : Int} {c : Nat} (fa : Fit a c) (i : Int) : cmpInt (fl a c) i = some (compare a (i * ((2 ^ c : Nat) : Int))) := by
  obtain ⟨m, e, d1, _, v1⟩ := fl_dec fa
  have hc := fa.c
  have e1 : i * (2 : Int) ^ 1074 = i * ((2 ^ c : Nat) : Int) * ((2 ^ (1074 - c) : Nat) : Int) := by
    rw [Int.mul_assoc, ← Int.natCast_mul, ← Nat.pow_add, show c + (1074 - c) = 1074 by omega]
    simp
  rw [cmpInt_right d1, v1, e1, cmp_scale]
theorem fl_nonzero {a : Int} {c : Nat} (fa : Fit a c) (h : a ≠ 0) : isZero (fl a c) = false := by
  obtain ⟨m, e, d1, hm, v1⟩ := fl_dec fa
  have hm0 : m ≠ 0 := fun e0 => by
    rw [e0, Nat.zero_mul] at hm
    rcases Nat.mul_eq_zero.mp hm.symm with h1 | h1
    · omega
    · exact absurd h1 (Nat.ne_of_gt (Nat.two_pow_pos _))
  unfold isZero
  rw [d1]
  cases m with
  | zero => exact absurd rfl hm0
  | succ m => rfl
end Mine
end
section
open PySem PySem.W PySem.Calls PyProof.Rows PySem.Float64
set_option maxRecDepth 100000
set_option linter.unusedVariables false
namespace Mine
/-! the whole part, the rest by one -/
theorem trunc_fl {k : Int} {c : Nat} (f : Fit k c) (h0 : 0 ≤ k) : ∃ m e, decode (fl k c) = .fin false m e ∧ truncOf false m e = k / ((2 ^ c : Nat) : Int) := by
  obtain ⟨m, e, d1, hm, _⟩ := fl_dec f
  rw [decide_eq_false (by omega : ¬ k < 0)] at d1
  refine ⟨m, e, d1, ?_⟩
  have he := decode_ge d1
  have hc := f.c
  obtain ⟨n, rfl⟩ := Int.eq_ofNat_of_zero_le h0
  rw [Int.natAbs_natCast] at hm
  have e1 : (2 : Nat) ^ 1074 = 2 ^ (1074 - c) * 2 ^ c := by rw [← Nat.pow_add]; congr 1; omega
  unfold truncOf floorOf
  rw [if_neg (by decide)]
  rw [← Int.natCast_ediv]
  by_cases h : e ≥ 0
  · rw [if_pos h]
    have e2 : (e + 1074).toNat = e.toNat + 1074 := by omega
    rw [e2, Nat.pow_add, e1] at hm
    have h3 : m * 2 ^ e.toNat * 2 ^ c = n := by
      refine Nat.eq_of_mul_eq_mul_right (Nat.two_pow_pos (1074 - c)) ?_
      rw [← hm]; ac_rfl
    rw [← h3, Nat.mul_div_cancel _ (Nat.two_pow_pos _)]
    show (m : Int) * 2 ^ e.toNat = _
    simp
  · rw [if_neg h]
    have e2 : (2 : Nat) ^ (e + 1074).toNat * 2 ^ (-e).toNat = 2 ^ 1074 := by rw [← Nat.pow_add]; congr 1; omega
    have h3 : m * 2 ^ c = n * 2 ^ (-e).toNat := by
      refine Nat.eq_of_mul_eq_mul_right (Nat.two_pow_pos (1074 - c)) ?_
      calc m * 2 ^ c * 2 ^ (1074 - c) = m * 2 ^ 1074 := by rw [e1]; ac_rfl
        _ = m * 2 ^ (e + 1074).toNat * 2 ^ (-e).toNat := by rw [← e2]; ac_rfl
        _ = _ := by rw [hm]; ac_rfl
    have h4 : n / 2 ^ c = m / 2 ^ (-e).toNat := by
      rw [← Nat.mul_div_mul_right n (2 ^ c) (Nat.two_pow_pos (-e).toNat), ← h3, Nat.mul_comm (2 ^ c), Nat.mul_div_mul_right _ _ (Nat.two_pow_pos c)]
    rw [h4]
    show Int.fdiv (m : Int) _ = _
    have e3 : (2 : Int) ^ (-e).toNat = ((2 ^ (-e).toNat : Nat) : Int) := by simp
    rw [e3, Int.fdiv_eq_ediv_of_nonneg _ (Int.natCast_nonneg _), Int.natCast_ediv]
theorem ofBin_right (sg : Bool) (n : Nat) {g : Int} (hg : -1074 ≤ g) : Right (ofBin sg n g) sg (n * 2 ^ (g + 1074).toNat) 1 := by
  unfold ofBin
  refine ofFrac_right (shift_pos _ _ _ (by decide)) ?_ (by decide)
  have := shift_one n g 1074 (by omega)
  rw [Nat.mul_one]
  exact this
theorem one_fl : (0x3ff0000000000000 : UInt64) = fl 1 0 := by decide +kernel
theorem fmod_fl {k : Int} {c : Nat} (f : Fit k c) (h : k.natAbs < 2 ^ c) : fmod (fl k c) (fl 1 0) = fl k c := by
  obtain ⟨m, e, d1, hm, _⟩ := fl_dec f
  obtain ⟨q, g, d2, hq, _⟩ := fl_dec (k := 1) (c := 0) ⟨by decide, by decide⟩
  have he := decode_ge d1
  have hg := decode_ge d2
  have hc := f.c
  rw [decide_eq_false (by decide : ¬ (1 : Int) < 0)] at d2
  have hq0 : q ≠ 0 := fun e0 => by
    rw [e0, Nat.zero_mul] at hq
    rcases Nat.mul_eq_zero.mp hq.symm with h1 | h1
    · cases h1
    · exact absurd h1 (Nat.ne_of_gt (Nat.two_pow_pos _))
  have hlt : m * 2 ^ (e - min e g).toNat < q * 2 ^ (g - min e g).toNat := by
    refine Nat.lt_of_mul_lt_mul_right (a := 2 ^ (min e g + 1074).toNat) ?_
    rw [Nat.mul_assoc, Nat.mul_assoc, ← Nat.pow_add, ← Nat.pow_add, show (e - min e g).toNat + (min e g + 1074).toNat = (e + 1074).toNat by omega, show (g - min e g).toNat + (min e g + 1074).toNat = (g + 1074).toNat by omega, hm, hq]
    have e1 : (1 : Int).natAbs * 2 ^ (1074 - 0) = 2 ^ c * 2 ^ (1074 - c) := by
      rw [← Nat.pow_add, show c + (1074 - c) = 1074 by omega]
      show 1 * 2 ^ 1074 = _
      rw [Nat.one_mul]
    rw [e1]
    exact Nat.mul_lt_mul_of_pos_right h (Nat.two_pow_pos _)
  have hf : fmod (fl k c) (fl 1 0) = ofBin (decide (k < 0)) (m * 2 ^ (e - min e g).toNat) (min e g) := by
    unfold fmod
    rw [d1, d2]
    simp only
    rw [if_neg (by simpa using hq0)]
    unfold align
    show ofBin _ ((sgn false _).toNat % (sgn false _).toNat) _ = _
    have e1 : ∀ n, (sgn false n).toNat = n := fun n => by unfold sgn; simp
    rw [e1, e1, Nat.mod_eq_of_lt hlt]
  rw [hf]
  refine fl_of f (ofBin_right _ _ (by omega)) (by decide) ?_
  rw [Nat.one_mul, Nat.mul_assoc, ← Nat.pow_add, show (e - min e g).toNat + (min e g + 1074).toNat = (e + 1074).toNat by omega, hm]
theorem fl_isZero {k : Int} {c : Nat} (f : Fit k c) : isZero (fl k c) = decide (k = 0) := by
  by_cases h : k = 0
  · subst h; rw [fl_zero]; decide +kernel
  · rw [fl_nonzero f h, decide_eq_false h]
theorem fl_up (i : Int) {c j : Nat} (f : Fit i c) (g : Fit (i * ((2 ^ j : Nat) : Int)) (c + j)) : fl i c = fl (i * ((2 ^ j : Nat) : Int)) (c + j) := (fl_scale f g).symm
theorem cmp_lt {a b : Int} : (some (compare a b) == some Ordering.lt) = decide (a < b) := by
  rcases Int.lt_trichotomy a b with h | h | h
  · rw [Int.compare_eq_lt.mpr h, decide_eq_true h]; rfl
  · rw [Int.compare_eq_eq.mpr h, decide_eq_false (by omega)]; rfl
  · rw [Int.compare_eq_gt.mpr h, decide_eq_false (by omega)]; rfl
theorem cmp_gt {a b : Int} : (some (compare a b) == some Ordering.gt) = decide (b < a) := by
  rcases Int.lt_trichotomy a b with h | h | h
  · rw [Int.compare_eq_lt.mpr h, decide_eq_false (by omega)]; rfl
  · rw [Int.compare_eq_eq.mpr h, decide_eq_false (by omega)]; rfl
  · rw [Int.compare_eq_gt.mpr h, decide_eq_true h]; rfl
theorem cmp_eq {a b : Int} : (some (compare a b) == some Ordering.eq) = decide (a = b) := by
  rcases Int.lt_trichotomy a b with h | h | h
  · rw [Int.compare_eq_lt.mpr h, decide_eq_false (by omega)]; rfl
  · rw [Int.compare_eq_eq.mpr h, decide_eq_true h]; rfl
  · rw [Int.compare_eq_gt.mpr h, decide_eq_false (by omega)]; rfl
/-- the rest by one: of a number ahead of one -/
theorem rest_pos {k : Int} {c : Nat} (f : Fit k c) (h0 : 0 ≤ k) (h : k < ((2 ^ c : Nat) : Int)) : (divmod (fl k c) 0x3ff0000000000000).2 = fl k c := by
  have hm := fmod_fl f (by omega)
  rw [one_fl]
  unfold divmod
  rw [hm]
  simp only
  have hz := fl_isZero f
  have l1 : lt (fl 1 0) (zero false) = false := by decide +kernel
  have l2 : lt (fl k c) (zero false) = false := by
    unfold lt
    rw [← fl_zero c, fl_cmp f ⟨by decide, f.c⟩, cmp_lt, decide_eq_false (by omega)]
  by_cases hk : k = 0
  · subst hk
    rw [hz, if_pos (by decide), fl_zero]
    decide +kernel
  · rw [hz, if_neg (by simpa using hk), l1, l2]
    rfl
theorem rest_neg {k : Int} {c : Nat} (f : Fit k c) (h0 : k < 0) (h : -((2 ^ c : Nat) : Int) < k) (g : Fit ((2 ^ c : Nat) : Int) c) : (divmod (fl k c) 0x3ff0000000000000).2 = fl (k + ((2 ^ c : Nat) : Int)) c := by
  have hm := fmod_fl f (by omega)
  rw [one_fl]
  unfold divmod
  rw [hm]
  simp only
  have hz := fl_isZero f
  have l1 : lt (fl 1 0) (zero false) = false := by decide +kernel
  have l2 : lt (fl k c) (zero false) = true := by
    unfold lt
    rw [← fl_zero c, fl_cmp f ⟨by decide, f.c⟩, cmp_lt, decide_eq_true h0]
  rw [hz, if_neg (by simp; omega), l1, l2]
  show add (fl k c) (fl 1 0) = _
  have e : fl 1 0 = fl ((2 ^ c : Nat) : Int) c := by
    have := fl_up 1 (c := 0) (j := c) ⟨by decide, by decide⟩ (by rw [Int.one_mul, Nat.zero_add]; exact g)
    rw [Int.one_mul, Nat.zero_add] at this
    exact this
  rw [e]
  have hk := g.k
  exact fl_add f g ⟨by omega, f.c⟩
/-! greatest, least -/
theorem fmax_fl {x y z m : Int} {e : Nat} (fx : Fit x e) (fy : Fit y e) (fz : Fit z e) (h1 : x ≤ m) (h2 : y ≤ m) (h3 : z ≤ m) (h : m = x ∨ m = y ∨ m = z) : fmax (fl x e) (fl y e) (fl z e) = fl m e := by
  unfold fmax
  rw [fl_cmp fy fx, fl_cmp fz fy, fl_cmp fz fx, cmp_gt, cmp_gt, cmp_gt]
  by_cases a : x < y
  · rw [if_pos (decide_eq_true a)]
    by_cases b : y < z
    · rw [if_pos (decide_eq_true b)]; congr 1; omega
    · rw [if_neg (by simpa using b)]; congr 1; omega
  · rw [if_neg (by simpa using a)]
    by_cases b : x < z
    · rw [if_pos (decide_eq_true b)]; congr 1; omega
    · rw [if_neg (by simpa using b)]; congr 1; omega
theorem fmin_fl {x y z m : Int} {e : Nat} (fx : Fit x e) (fy : Fit y e) (fz : Fit z e) (h1 : m ≤ x) (h2 : m ≤ y) (h3 : m ≤ z) (h : m = x ∨ m = y ∨ m = z) : fmin (fl x e) (fl y e) (fl z e) = fl m e := by
  unfold fmin
  rw [fl_cmp fy fx, fl_cmp fz fy, fl_cmp fz fx, cmp_lt, cmp_lt, cmp_lt]
  by_cases a : y < x
  · rw [if_pos (decide_eq_true a)]
    by_cases b : z < y
    · rw [if_pos (decide_eq_true b)]; congr 1; omega
    · rw [if_neg (by simpa using b)]; congr 1; omega
  · rw [if_neg (by simpa using a)]
    by_cases b : z < x
    · rw [if_pos (decide_eq_true b)]; congr 1; omega
    · rw [if_neg (by simpa using b)]; congr 1; omega
end Mine
end
section
open PySem PySem.W PySem.Calls PyProof.Rows PySem.Float64
set_option maxRecDepth 100000
set_option linter.unusedVariables false
namespace Mine
/-! colorsys in plain: floats -/
abbrev rgbM (r g b : UInt64) : UInt64 := fmax r g b
abbrev rgbR (r g b : UInt64) : UInt64 := Float64.sub (fmax r g b) (fmin r g b)
abbrev rgbC (r g b x : UInt64) : UInt64 := Float64.div (Float64.sub (fmax r g b) x) (rgbR r g b)
def rgbH (r g b : UInt64) : UInt64 :=
  if (Float64.cmp r (fmax r g b) == some Ordering.eq) = true then Float64.sub (rgbC r g b b) (rgbC r g b g)
  else if (Float64.cmp g (fmax r g b) == some Ordering.eq) = true then Float64.sub (Float64.add 0x4000000000000000 (rgbC r g b r)) (rgbC r g b b)
  else Float64.sub (Float64.add 0x4010000000000000 (rgbC r g b g)) (rgbC r g b r)
abbrev t3 (a b c : UInt64) : PV := .tup [.flt a, .flt b, .flt c]
def rgbHue (r g b : UInt64) : UInt64 := (Float64.divmod (Float64.div (rgbH r g b) 0x4018000000000000) 0x3ff0000000000000).2
def rgbSat (r g b : UInt64) : UInt64 := Float64.div (rgbR r g b) (fmax r g b)
/-- a colour that isn't grey -/
structure Hued (r g b : UInt64) : Prop where
  ne : (Float64.cmp (fmin r g b) (fmax r g b) == some Ordering.eq) = false
  z1 : Float64.isZero (fmax r g b) = false
  z2 : Float64.isZero (rgbR r g b) = false
abbrev hsvP (s v : UInt64) : UInt64 := Float64.mul v (Float64.sub 0x3ff0000000000000 s)
abbrev hsvQ (f s v : UInt64) : UInt64 := Float64.mul v (Float64.sub 0x3ff0000000000000 (Float64.mul s f))
abbrev hsvT (f s v : UInt64) : UInt64 := Float64.mul v (Float64.sub 0x3ff0000000000000 (Float64.mul s (Float64.sub 0x3ff0000000000000 f)))
def hsvPick (i : Int) (f s v : UInt64) : List UInt64 :=
  if i = 0 then [v, hsvT f s v, hsvP s v] else if i = 1 then [hsvQ f s v, v, hsvP s v] else if i = 2 then [hsvP s v, v, hsvT f s v]
  else if i = 3 then [hsvP s v, hsvQ f s v, v] else if i = 4 then [hsvT f s v, hsvP s v, v] else [v, hsvP s v, hsvQ f s v]
theorem two_fl : (0x4000000000000000 : UInt64) = fl 2 0 := by decide +kernel
theorem four_fl : (0x4010000000000000 : UInt64) = fl 4 0 := by decide +kernel
theorem six_fl : (0x4018000000000000 : UInt64) = fl 6 0 := by decide +kernel
theorem fitS {k : Int} {c : Nat} (h : k.natAbs < 2 ^ 50) (hc : c ≤ 100) : Fit k c := ⟨by omega, by omega⟩
theorem fl_up0 (i : Int) {c : Nat} (h1 : i.natAbs < 2 ^ 50) (h : (i * ((2 ^ c : Nat) : Int)).natAbs < 2 ^ 50) (hc : c ≤ 100) : fl i 0 = fl (i * ((2 ^ c : Nat) : Int)) c := by
  have := fl_up i (c := 0) (j := c) (fitS h1 (by decide)) (by rw [Nat.zero_add]; exact fitS h hc)
  rw [Nat.zero_add] at this
  exact this
section
variable {c e : Nat} {M : Int} {x y z mx mn R : Int}
/-- what rgb_to_hsv reckons on exact components: the greatest and the least, and each one's share of the range -/
structure Rgb (c e : Nat) (M x y z mx mn R qx qy qz : Int) : Prop where
  k_c : c ≤ 40
  k_e : e ≤ 50
  k_M : M = ((2 ^ c : Nat) : Int)
  k_M40 : M ≤ 2 ^ 40
  k_x : x ≤ mx ∧ mn ≤ x
  k_y : y ≤ mx ∧ mn ≤ y
  k_z : z ≤ mx ∧ mn ≤ z
  k_hmx : mx = x ∨ mx = y ∨ mx = z
  k_hmn : mn = x ∨ mn = y ∨ mn = z
  k_mn0 : 0 ≤ mn
  k_big : mx < 2 ^ 48
  k_R : R = mx - mn
  k_R0 : 0 < R
  k_qx : (mx - x) * M = qx * R
  k_qy : (mx - y) * M = qy * R
  k_qz : (mx - z) * M = qz * R
  k_bx : 0 ≤ qx ∧ qx ≤ M
  k_b_y : 0 ≤ qy ∧ qy ≤ M
  k_bz : 0 ≤ qz ∧ qz ≤ M
variable {qx qy qz : Int}
theorem Rgb.max (h : Rgb c e M x y z mx mn R qx qy qz) : fmax (fl x e) (fl y e) (fl z e) = fl mx e := by
  obtain ⟨h1, h2, h3, h4, h5, h6, h7, h8, h9, h10, h11, h12, h13, _⟩ := h
  exact fmax_fl (fitS (by omega) (by omega)) (fitS (by omega) (by omega)) (fitS (by omega) (by omega)) h5.1 h6.1 h7.1 h8
theorem Rgb.min (h : Rgb c e M x y z mx mn R qx qy qz) : fmin (fl x e) (fl y e) (fl z e) = fl mn e := by
  obtain ⟨h1, h2, h3, h4, h5, h6, h7, h8, h9, h10, h11, h12, h13, _⟩ := h
  exact fmin_fl (fitS (by omega) (by omega)) (fitS (by omega) (by omega)) (fitS (by omega) (by omega)) h5.2 h6.2 h7.2 h9
theorem Rgb.rng (h : Rgb c e M x y z mx mn R qx qy qz) : rgbR (fl x e) (fl y e) (fl z e) = fl R e := by
  unfold rgbR
  rw [h.max, h.min]
  obtain ⟨h1, h2, h3, h4, h5, h6, h7, h8, h9, h10, h11, h12, h13, _⟩ := h
  rw [h12]
  exact fl_sub (fitS (by omega) (by omega)) (fitS (by omega) (by omega)) (fitS (by omega) (by omega)) (by omega)
theorem Rgb.share (h : Rgb c e M x y z mx mn R qx qy qz) {w qw : Int} (hw : w ≤ mx ∧ mn ≤ w) (hq : (mx - w) * M = qw * R) (hb : 0 ≤ qw ∧ qw ≤ M) : rgbC (fl x e) (fl y e) (fl z e) (fl w e) = fl qw c := by
  unfold rgbC
  rw [h.rng, h.max]
  obtain ⟨h1, h2, h3, h4, h5, h6, h7, h8, h9, h10, h11, h12, h13, _⟩ := h
  rw [fl_sub (a := mx) (b := w) (fitS (by omega) (by omega)) (fitS (by omega) (by omega)) (fitS (by omega) (by omega)) (by omega)]
  refine fl_div (fitS (by omega) (by omega)) (fitS (by omega) (by omega)) (fitS (by omega) (by omega)) h13 ?_
  rw [← hq, h3, Nat.pow_add, Int.natCast_mul]
  ac_rfl
theorem Rgb.hued (h : Rgb c e M x y z mx mn R qx qy qz) : Hued (fl x e) (fl y e) (fl z e) := by
  refine ⟨?_, ?_, ?_⟩
  · rw [h.max, h.min]
    obtain ⟨h1, h2, h3, h4, h5, h6, h7, h8, h9, h10, h11, h12, h13, _⟩ := h
    rw [fl_cmp (fitS (by omega) (by omega)) (fitS (by omega) (by omega)), cmp_eq]
    exact decide_eq_false (by omega)
  · rw [h.max]
    obtain ⟨h1, h2, h3, h4, h5, h6, h7, h8, h9, h10, h11, h12, h13, _⟩ := h
    exact fl_nonzero (fitS (by omega) (by omega)) (by omega)
  · rw [h.rng]
    obtain ⟨h1, h2, h3, h4, h5, h6, h7, h8, h9, h10, h11, h12, h13, _⟩ := h
    exact fl_nonzero (fitS (by omega) (by omega)) (by omega)
theorem Rgb.h6 (h : Rgb c e M x y z mx mn R qx qy qz) : rgbH (fl x e) (fl y e) (fl z e) = fl (if x = mx then qz - qy else if y = mx then 2 * M + qx - qz else 4 * M + qy - qx) c := by
  unfold rgbH
  rw [h.share h.k_x h.k_qx h.k_bx, h.share h.k_y h.k_qy h.k_b_y, h.share h.k_z h.k_qz h.k_bz, h.max]
  obtain ⟨h1, h2, h3, h4, h5, h6, h7, h8, h9, h10, h11, h12, h13, h14, h15, h16, h17, h18, h19⟩ := h
  rw [fl_cmp (fitS (by omega) (by omega)) (fitS (by omega) (by omega)), fl_cmp (fitS (by omega) (by omega)) (fitS (by omega) (by omega)), cmp_eq, cmp_eq]
  have hM : 0 ≤ M := by omega
  have u2 : (0x4000000000000000 : UInt64) = fl (2 * M) c := by rw [two_fl, h3]; exact fl_up0 2 (by decide) (by rw [← h3]; omega) (by omega)
  have u4 : (0x4010000000000000 : UInt64) = fl (4 * M) c := by rw [four_fl, h3]; exact fl_up0 4 (by decide) (by rw [← h3]; omega) (by omega)
  by_cases a : x = mx
  · rw [if_pos (decide_eq_true a), if_pos a]
    exact fl_sub (fitS (by omega) (by omega)) (fitS (by omega) (by omega)) (fitS (by omega) (by omega)) (by omega)
  · rw [if_neg (by simpa using a), if_neg a]
    by_cases b : y = mx
    · rw [if_pos (decide_eq_true b), if_pos b, u2, fl_add (fitS (by omega) (by omega)) (fitS (by omega) (by omega)) (fitS (by omega) (by omega))]
      exact fl_sub (fitS (by omega) (by omega)) (fitS (by omega) (by omega)) (fitS (by omega) (by omega)) (by omega)
    · rw [if_neg (by simpa using b), if_neg b, u4, fl_add (fitS (by omega) (by omega)) (fitS (by omega) (by omega)) (fitS (by omega) (by omega))]
      exact fl_sub (fitS (by omega) (by omega)) (fitS (by omega) (by omega)) (fitS (by omega) (by omega)) (by omega)
theorem Rgb.hue (h : Rgb c e M x y z mx mn R qx qy qz) {k : Int} (hk : (if x = mx then qz - qy else if y = mx then 2 * M + qx - qz else 4 * M + qy - qx) = 6 * k) (h1 : -M < k) (h2 : k < M) :
    rgbHue (fl x e) (fl y e) (fl z e) = fl (if k < 0 then k + M else k) c := by
  unfold rgbHue
  rw [h.h6, hk, six_fl]
  have hM40 := h.k_M40
  have hc := h.k_c
  have hM := h.k_M
  rw [fl_div (a := 6 * k) (b := 6) (q := k) (c := c) (d := 0) (e := c) (fitS (by omega) (by omega)) (fitS (by decide) (by decide)) (fitS (by omega) (by omega)) (by decide) (by rw [Nat.zero_add, Int.mul_comm 6 k])]
  by_cases q : k < 0
  · rw [if_pos q, hM]
    exact rest_neg (fitS (by omega) (by omega)) q (by rw [← hM]; exact h1) (fitS (by rw [← hM]; omega) (by omega))
  · rw [if_neg q]
    exact rest_pos (fitS (by omega) (by omega)) (by omega) (by rw [← hM]; exact h2)
theorem Rgb.sat (h : Rgb c e M x y z mx mn R qx qy qz) {a : Int} (ha : R * 4 = a * mx) (hb : 0 ≤ a ∧ a ≤ 4) : rgbSat (fl x e) (fl y e) (fl z e) = fl a 2 := by
  unfold rgbSat
  rw [h.rng, h.max]
  obtain ⟨h1, h2, h3, h4, h5, h6, h7, h8, h9, h10, h11, h12, h13, _⟩ := h
  refine fl_div (fitS (by omega) (by omega)) (fitS (by omega) (by omega)) (fitS (by omega) (by omega)) (by omega) ?_
  rw [← ha, Nat.pow_add, Int.natCast_mul]
  show R * (_ * 4) = _
  ac_rfl
end
end Mine
end
section
open PySem PySem.W PySem.Calls PyProof.Rows PySem.Float64
set_option maxRecDepth 100000
set_option linter.unusedVariables false
namespace Mine
/-! a colour of the wheel: hue n / 2 ^ c, share a / 4, value b / 4 -/
structure ColOk (c : Nat) (n a b : Int) : Prop where
  hc : c ≤ 24
  n0 : 0 ≤ n
  n1 : n < ((2 ^ c : Nat) : Int)
  a : 1 ≤ a ∧ a ≤ 4
  b : 1 ≤ b ∧ b ≤ 4
def cM (c : Nat) : Int := ((2 ^ c : Nat) : Int)
def cI (c : Nat) (n : Int) : Int := n * 6 / cM c
def cF (c : Nat) (n : Int) : Int := n * 6 - cI c n * cM c
def cV (c : Nat) (b : Int) : Int := b * (4 * cM c)
def cP (c : Nat) (a b : Int) : Int := b * ((4 - a) * cM c)
def cQ (c : Nat) (n a b : Int) : Int := b * (4 * cM c - a * cF c n)
def cT (c : Nat) (n a b : Int) : Int := b * (4 * cM c - a * (cM c - cF c n))
def pickI {α : Type} (i : Int) (v p q t : α) : List α :=
  if i = 0 then [v, t, p] else if i = 1 then [q, v, p] else if i = 2 then [p, v, t] else if i = 3 then [p, q, v] else if i = 4 then [t, p, v] else [v, p, q]
def colI (c : Nat) (n a b : Int) : List Int := pickI (cI c n) (cV c b) (cP c a b) (cQ c n a b) (cT c n a b)
abbrev cE (c : Nat) : Nat := 2 + (2 + c)
theorem mulb {a X Y : Int} (ha : 1 ≤ a ∧ a ≤ 4) (h0 : 0 ≤ X) (h : X ≤ Y) : 0 ≤ a * X ∧ a * X ≤ 4 * Y ∧ X ≤ a * X := by
  have : a = 1 ∨ a = 2 ∨ a = 3 ∨ a = 4 := by omega
  rcases this with rfl | rfl | rfl | rfl <;> omega
theorem cM_le {c : Nat} (hc : c ≤ 24) : 1 ≤ cM c ∧ cM c ≤ 2 ^ 24 := by
  have h1 : (2 : Nat) ^ c ≤ 2 ^ 24 := Nat.pow_le_pow_right (by decide) hc
  have h2 := Nat.two_pow_pos c
  unfold cM; omega
theorem ColOk.F {c : Nat} {n a b : Int} (h : ColOk c n a b) : 0 ≤ cF c n ∧ cF c n < cM c ∧ 0 ≤ cI c n ∧ cI c n < 6 ∧ n * 6 = cI c n * cM c + cF c n := by
  have hM := cM_le h.hc
  have h1 : n * 6 = cI c n * cM c + cF c n := by unfold cF; omega
  have h2 : n * 6 % cM c + cM c * (n * 6 / cM c) = n * 6 := Int.emod_add_mul_ediv _ _
  have h3 : 0 ≤ n * 6 % cM c := Int.emod_nonneg _ (by omega)
  have h4 : n * 6 % cM c < cM c := Int.emod_lt_of_pos _ (by omega)
  have e : cF c n = n * 6 % cM c := by unfold cF cI; rw [Int.mul_comm (n * 6 / cM c)]; omega
  have hn0 := h.n0
  have hn1 : n < cM c := h.n1
  refine ⟨by omega, by omega, Int.ediv_nonneg (by omega) (by omega), ?_, h1⟩
  exact Int.ediv_lt_of_lt_mul (by omega) (by omega)
section
variable {c : Nat} {n a b : Int}
theorem up_one {j : Nat} (hj : j ≤ 40) : (0x3ff0000000000000 : UInt64) = fl (cM j) j := by
  have h2 := Nat.two_pow_pos j
  have h1 : (2 : Nat) ^ j ≤ 2 ^ 40 := Nat.pow_le_pow_right (by decide) hj
  rw [one_fl, fl_up0 1 (c := j) (by decide) (by rw [Int.one_mul]; omega) (by omega), Int.one_mul]; rfl
theorem cM_add (c : Nat) : cM (2 + c) = 4 * cM c := by unfold cM; rw [Nat.pow_add]; simp
theorem ColOk.P (h : ColOk c n a b) : hsvP (fl a 2) (fl b 2) = fl (cP c a b) (cE c) := by
  have hM := cM_le h.hc
  have ha := h.a
  have hb := h.b
  have hc := h.hc
  have m1 := mulb hb (X := 4 - a) (Y := 4) (by omega) (by omega)
  unfold hsvP
  rw [up_one (j := 2) (by decide), show cM 2 = 4 from rfl, fl_sub (fitS (by omega) (by decide)) (fitS (by omega) (by decide)) (fitS (by omega) (by decide)) (by omega)]
  rw [fl_mul (fitS (by omega) (by decide)) (fitS (by omega) (by decide)) (fitS (by omega) (by decide)) (by omega)]
  have e1 : b * (4 - a) * cM c = cP c a b := by unfold cP; rw [Int.mul_assoc]
  have m2 := mulb hb (X := (4 - a) * cM c) (Y := 4 * cM c) (Int.mul_nonneg (by omega) (by omega)) (Int.mul_le_mul_of_nonneg_right (by omega) (by omega))
  have e2 : cP c a b = b * ((4 - a) * cM c) := rfl
  have := fl_up (b * (4 - a)) (c := 2 + 2) (j := c) (fitS (by omega) (by decide)) (fitS (by rw [show ((2 ^ c : Nat) : Int) = cM c from rfl, e1, e2]; omega) (by omega))
  rw [show ((2 ^ c : Nat) : Int) = cM c from rfl, e1] at this
  rw [this]
  congr 1
  unfold cE; omega
theorem ColOk.V (h : ColOk c n a b) : fl b 2 = fl (cV c b) (cE c) := by
  have hM := cM_le h.hc
  have hb := h.b
  have hc := h.hc
  have m1 := mulb hb (X := 4 * cM c) (Y := 4 * cM c) (by omega) (by omega)
  have e : ((2 ^ (2 + c) : Nat) : Int) = 4 * cM c := cM_add c
  have := fl_up b (c := 2) (j := 2 + c) (fitS (by omega) (by decide)) (fitS (by rw [e]; omega) (by omega))
  rw [this, e]; rfl
theorem ColOk.Q (h : ColOk c n a b) : hsvQ (fl (cF c n) c) (fl a 2) (fl b 2) = fl (cQ c n a b) (cE c) := by
  have hM := cM_le h.hc
  have ha := h.a
  have hb := h.b
  have hc := h.hc
  have hF := h.F
  have m1 := mulb ha (X := cF c n) (Y := cM c) (by omega) (by omega)
  have m2 := mulb hb (X := 4 * cM c - a * cF c n) (Y := 4 * cM c) (by omega) (by omega)
  unfold hsvQ
  rw [fl_mul (fitS (by omega) (by decide)) (fitS (by omega) (by omega)) (fitS (by omega) (by omega)) (by omega)]
  rw [up_one (j := 2 + c) (by omega), cM_add, fl_sub (fitS (by omega) (by omega)) (fitS (by omega) (by omega)) (fitS (by omega) (by omega)) (by omega)]
  rw [fl_mul (fitS (by omega) (by omega)) (fitS (by omega) (by omega)) (fitS (by omega) (by omega)) (by omega)]
  rfl
theorem ColOk.T (h : ColOk c n a b) : hsvT (fl (cF c n) c) (fl a 2) (fl b 2) = fl (cT c n a b) (cE c) := by
  have hM := cM_le h.hc
  have ha := h.a
  have hb := h.b
  have hc := h.hc
  have hF := h.F
  have m1 := mulb ha (X := cM c - cF c n) (Y := cM c) (by omega) (by omega)
  have m2 := mulb hb (X := 4 * cM c - a * (cM c - cF c n)) (Y := 4 * cM c) (by omega) (by omega)
  unfold hsvT
  have e1 : Float64.sub 0x3ff0000000000000 (fl (cF c n) c) = fl (cM c - cF c n) c := by
    rw [up_one (j := c) (by omega)]
    exact fl_sub (fitS (by omega) (by omega)) (fitS (by omega) (by omega)) (fitS (by omega) (by omega)) (by omega)
  rw [e1, fl_mul (fitS (by omega) (by decide)) (fitS (by omega) (by omega)) (fitS (by omega) (by omega)) (by omega)]
  rw [up_one (j := 2 + c) (by omega), cM_add, fl_sub (fitS (by omega) (by omega)) (fitS (by omega) (by omega)) (fitS (by omega) (by omega)) (by omega)]
  rw [fl_mul (fitS (by omega) (by omega)) (fitS (by omega) (by omega)) (fitS (by omega) (by omega)) (by omega)]
  rfl
/-- what hsv_to_rgb meets on the way -/
theorem ColOk.six (h : ColOk c n a b) : Float64.mul (fl n c) 0x4018000000000000 = fl (n * 6) c := by
  have hM := cM_le h.hc
  have hn0 := h.n0
  have hn1 : n < cM c := h.n1
  have hc := h.hc
  rw [six_fl, fl_mul (fitS (by omega) (by omega)) (fitS (by decide) (by decide)) (fitS (by omega) (by omega)) (by omega)]
  rfl
theorem ColOk.int (h : ColOk c n a b) : ∃ m e, Float64.decode (Float64.mul (fl n c) 0x4018000000000000) = .fin false m e ∧ Float64.truncOf false m e = cI c n := by
  have hM := cM_le h.hc
  have hn0 := h.n0
  have hn1 : n < cM c := h.n1
  have hc := h.hc
  rw [h.six]
  exact trunc_fl (fitS (by omega) (by omega)) (by omega)
theorem ColOk.frac (h : ColOk c n a b) : Float64.sub (Float64.mul (fl n c) 0x4018000000000000) (Float64.ofInt (cI c n)) = fl (cF c n) c := by
  have hM := cM_le h.hc
  have hn0 := h.n0
  have hn1 : n < cM c := h.n1
  have hc := h.hc
  have hF := h.F
  have e : Float64.ofInt (cI c n) = fl (cI c n * cM c) c := by
    have e0 : Float64.ofInt (cI c n) = fl (cI c n) 0 := by unfold Float64.ofInt fl; rw [Nat.pow_zero]
    rw [e0]
    exact fl_up0 _ (by omega) (by show (cI c n * cM c).natAbs < _; omega) (by omega)
  rw [h.six, e, fl_sub (fitS (by omega) (by omega)) (fitS (by omega) (by omega)) (fitS (by omega) (by omega)) (by omega)]
  rfl
theorem ColOk.pick (h : ColOk c n a b) : hsvPick ((cI c n).fmod 6) (Float64.sub (Float64.mul (fl n c) 0x4018000000000000) (Float64.ofInt (cI c n))) (fl a 2) (fl b 2) = (colI c n a b).map (fun k => fl k (cE c)) := by
  have hF := h.F
  rw [h.frac]
  have e : (cI c n).fmod 6 = cI c n := by rw [Int.fmod_eq_emod_of_nonneg _ (by decide)]; exact Int.emod_eq_of_lt (by omega) (by omega)
  rw [e]
  unfold hsvPick colI pickI
  rw [h.P, h.Q, h.T]
  rw [h.V]
  split
  · rfl
  split
  · rfl
  split
  · rfl
  split
  · rfl
  split <;> rfl
theorem ColOk.parts (h : ColOk c n a b) : cV c b - cP c a b = b * (a * cM c) ∧ cV c b - cQ c n a b = b * (a * cF c n) ∧ cV c b - cT c n a b = b * (a * (cM c - cF c n)) := by
  unfold cV cP cQ cT
  refine ⟨?_, ?_, ?_⟩
  · rw [← Int.mul_sub, Int.sub_mul]; congr 1; omega
  · rw [← Int.mul_sub]; congr 1; omega
  · rw [← Int.mul_sub]; congr 1; omega
theorem k_lt {k n M : Int} (h : k = n ∨ k = n - M) (h1 : n < M) (h2 : 0 ≤ M) : k < M := by omega
theorem k_if {k n M : Int} (h : k = n ∨ k = n - M) (h0 : 0 ≤ n) (h1 : n < M) : (if k < 0 then k + M else k) = n := by
  split <;> omega
theorem k_0 {n M F : Int} (h : n * 6 = 0 * M + F) : M - (M - F) = 6 * n := by omega
theorem k_1 {n M F : Int} (h : n * 6 = 1 * M + F) (q : F = 0) : M - 0 = 6 * n := by omega
theorem k_1' {n M F : Int} (h : n * 6 = 1 * M + F) : 2 * M + F - M = 6 * n := by omega
theorem k_2 {n M F : Int} (h : n * 6 = 2 * M + F) : 2 * M + M - (M - F) = 6 * n := by omega
theorem k_3 {n M F : Int} (h : n * 6 = 3 * M + F) (q : F = 0) : 2 * M + M - 0 = 6 * n := by omega
theorem k_3' {n M F : Int} (h : n * 6 = 3 * M + F) : 4 * M + F - M = 6 * n := by omega
theorem k_4 {n M F : Int} (h : n * 6 = 4 * M + F) : 4 * M + M - (M - F) = 6 * n := by omega
theorem k_5 {n M F : Int} (h : n * 6 = 5 * M + F) : F - M = 6 * (n - M) := by omega
theorem k_5' {n M F : Int} (h : n * 6 = 5 * M + F) (h0 : 0 ≤ F) (h1 : 0 < M) : -M < n - M := by omega
theorem ColOk.back (h : ColOk c n a b) {x y z : Int} (hx : colI c n a b = [x, y, z]) :
    Hued (fl x (cE c)) (fl y (cE c)) (fl z (cE c)) ∧ rgbHue (fl x (cE c)) (fl y (cE c)) (fl z (cE c)) = fl n c ∧ rgbSat (fl x (cE c)) (fl y (cE c)) (fl z (cE c)) = fl a 2 ∧ fmax (fl x (cE c)) (fl y (cE c)) (fl z (cE c)) = fl b 2 := by
  have hM := cM_le h.hc
  have ha := h.a
  have hb := h.b
  have hc := h.hc
  have hn0 := h.n0
  have hn1 : n < cM c := h.n1
  obtain ⟨f0, f1, i0, i1, hn6⟩ := h.F
  obtain ⟨p1, p2, p3⟩ := h.parts
  have a1 := mulb ha (X := cM c) (Y := cM c) (by omega) (by omega)
  have a2 := mulb ha (X := cF c n) (Y := cM c) (by omega) (by omega)
  have a3 := mulb ha (X := cM c - cF c n) (Y := cM c) (by omega) (by omega)
  have b1 := mulb hb (X := a * cM c) (Y := 4 * cM c) (by omega) (by omega)
  have b2 := mulb hb (X := a * cF c n) (Y := a * cM c) (by omega) (Int.mul_le_mul_of_nonneg_left (by omega) (by omega))
  have b3 := mulb hb (X := a * (cM c - cF c n)) (Y := a * cM c) (by omega) (Int.mul_le_mul_of_nonneg_left (by omega) (by omega))
  have b4 := mulb hb (X := (4 - a) * cM c) (Y := 4 * cM c) (Int.mul_nonneg (by omega) (by omega)) (Int.mul_le_mul_of_nonneg_right (by omega) (by omega))
  have b5 := mulb hb (X := 4 * cM c) (Y := 4 * cM c) (by omega) (by omega)
  have c2 : b * (a * cF c n) ≤ b * (a * cM c) := Int.mul_le_mul_of_nonneg_left (Int.mul_le_mul_of_nonneg_left (by omega) (by omega)) (by omega)
  have c3 : b * (a * (cM c - cF c n)) ≤ b * (a * cM c) := Int.mul_le_mul_of_nonneg_left (Int.mul_le_mul_of_nonneg_left (by omega) (by omega)) (by omega)
  have dP : cP c a b = b * ((4 - a) * cM c) := rfl
  have dV : cV c b = b * (4 * cM c) := rfl
  have sP : (cV c b - cP c a b) * cM c = cM c * (b * (a * cM c)) := by rw [p1, Int.mul_comm]
  have sV : (cV c b - cV c b) * cM c = 0 * (b * (a * cM c)) := by rw [Int.sub_self]; simp
  have sQ : (cV c b - cQ c n a b) * cM c = cF c n * (b * (a * cM c)) := by rw [p2]; ac_rfl
  have sT : (cV c b - cT c n a b) * cM c = (cM c - cF c n) * (b * (a * cM c)) := by rw [p3]; ac_rfl
  have hsat : b * (a * cM c) * 4 = a * cV c b := by rw [dV]; ac_rfl
  have cE50 : cE c ≤ 50 := by unfold cE; omega
  have hiF : ∀ j : Int, cI c n = j → n * 6 = j * cM c + cF c n := fun j hj => by rw [← hj]; exact hn6
  have VQ : cQ c n a b = cV c b ↔ cF c n = 0 := by
    constructor
    · intro e
      have : b * (a * cF c n) = 0 := by omega
      rcases Int.mul_eq_zero.mp this with q | q
      · omega
      · rcases Int.mul_eq_zero.mp q with q | q <;> omega
    · intro e; rw [e] at p2; simp at p2; omega
  have VT : cT c n a b ≠ cV c b := fun e => by omega
  have VP : cP c a b ≠ cV c b := fun e => by omega
  have g1 : c ≤ 40 := Nat.le_trans hc (by decide)
  have g4 : cM c ≤ 2 ^ 40 := Int.le_trans hM.2 (by decide)
  have tV : cV c b ≤ cV c b ∧ cP c a b ≤ cV c b := by omega
  have tP : cP c a b ≤ cV c b ∧ cP c a b ≤ cP c a b := ⟨tV.2, Int.le_refl _⟩
  have tQ : cQ c n a b ≤ cV c b ∧ cP c a b ≤ cQ c n a b := by omega
  have tT : cT c n a b ≤ cV c b ∧ cP c a b ≤ cT c n a b := by omega
  have m0 : 0 ≤ cP c a b := by omega
  have mb : cV c b < 2 ^ 48 := by omega
  have mR : b * (a * cM c) = cV c b - cP c a b := p1.symm
  have mR0 : 0 < b * (a * cM c) := by omega
  have bV : (0 : Int) ≤ 0 ∧ 0 ≤ cM c := by omega
  have bP : 0 ≤ cM c ∧ cM c ≤ cM c := ⟨bV.2, Int.le_refl _⟩
  have bQ : 0 ≤ cF c n ∧ cF c n ≤ cM c := ⟨f0, Int.le_of_lt f1⟩
  have bT : 0 ≤ cM c - cF c n ∧ cM c - cF c n ≤ cM c := by omega
  have ha4 : 0 ≤ a ∧ a ≤ 4 := by omega
  have kn0 : -cM c < n := by omega
  clear p1 p2 p3 a1 a2 a3 b1 b2 b3 b4 b5 c2 c3 dP dV hM hb
  have fin : ∀ {qx qy qz : Int} {k : Int}, Rgb c (cE c) (cM c) x y z (cV c b) (cP c a b) (b * (a * cM c)) qx qy qz → (if x = cV c b then qz - qy else if y = cV c b then 2 * cM c + qx - qz else 4 * cM c + qy - qx) = 6 * k → (k = n ∨ k = n - cM c) → -cM c < k →
      Hued (fl x (cE c)) (fl y (cE c)) (fl z (cE c)) ∧ rgbHue (fl x (cE c)) (fl y (cE c)) (fl z (cE c)) = fl n c ∧ rgbSat (fl x (cE c)) (fl y (cE c)) (fl z (cE c)) = fl a 2 ∧ fmax (fl x (cE c)) (fl y (cE c)) (fl z (cE c)) = fl b 2 := by
    intro qx qy qz k R hk hkn hk0
    refine ⟨R.hued, ?_, R.sat hsat ha4, ?_⟩
    · rw [R.hue hk hk0 (k_lt hkn hn1 bV.2)]
      congr 1
      exact k_if hkn hn0 hn1
    · rw [R.max, h.V]
  unfold colI pickI at hx
  by_cases j0 : cI c n = 0
  · rw [if_pos j0] at hx
    simp only [List.cons.injEq, and_true] at hx
    obtain ⟨rfl, rfl, rfl⟩ := hx
    have := hiF 0 j0
    refine fin (k := n) ⟨g1, cE50, rfl, g4, tV, tT, tP, .inl rfl, .inr (.inr rfl), m0, mb, mR, mR0, sV, sT, sP, bV, bT, bP⟩ ?_ (.inl rfl) kn0
    rw [if_pos rfl]; exact k_0 this
  rw [if_neg j0] at hx
  by_cases j1 : cI c n = 1
  · rw [if_pos j1] at hx
    simp only [List.cons.injEq, and_true] at hx
    obtain ⟨rfl, rfl, rfl⟩ := hx
    have := hiF 1 j1
    refine fin (k := n) ⟨g1, cE50, rfl, g4, tQ, tV, tP, .inr (.inl rfl), .inr (.inr rfl), m0, mb, mR, mR0, sQ, sV, sP, bQ, bV, bP⟩ ?_ (.inl rfl) kn0
    by_cases q : cF c n = 0
    · rw [if_pos (VQ.mpr q)]; exact k_1 this q
    · rw [if_neg (fun e => q (VQ.mp e)), if_pos rfl]; exact k_1' this
  rw [if_neg j1] at hx
  by_cases j2 : cI c n = 2
  · rw [if_pos j2] at hx
    simp only [List.cons.injEq, and_true] at hx
    obtain ⟨rfl, rfl, rfl⟩ := hx
    have := hiF 2 j2
    refine fin (k := n) ⟨g1, cE50, rfl, g4, tP, tV, tT, .inr (.inl rfl), .inl rfl, m0, mb, mR, mR0, sP, sV, sT, bP, bV, bT⟩ ?_ (.inl rfl) kn0
    rw [if_neg VP, if_pos rfl]; exact k_2 this
  rw [if_neg j2] at hx
  by_cases j3 : cI c n = 3
  · rw [if_pos j3] at hx
    simp only [List.cons.injEq, and_true] at hx
    obtain ⟨rfl, rfl, rfl⟩ := hx
    have := hiF 3 j3
    refine fin (k := n) ⟨g1, cE50, rfl, g4, tP, tQ, tV, .inr (.inr rfl), .inl rfl, m0, mb, mR, mR0, sP, sQ, sV, bP, bQ, bV⟩ ?_ (.inl rfl) kn0
    by_cases q : cF c n = 0
    · rw [if_neg VP, if_pos (VQ.mpr q)]; exact k_3 this q
    · rw [if_neg VP, if_neg (fun e => q (VQ.mp e))]; exact k_3' this
  rw [if_neg j3] at hx
  by_cases j4 : cI c n = 4
  · rw [if_pos j4] at hx
    simp only [List.cons.injEq, and_true] at hx
    obtain ⟨rfl, rfl, rfl⟩ := hx
    have := hiF 4 j4
    refine fin (k := n) ⟨g1, cE50, rfl, g4, tT, tP, tV, .inr (.inr rfl), .inr (.inl rfl), m0, mb, mR, mR0, sT, sP, sV, bT, bP, bV⟩ ?_ (.inl rfl) kn0
    rw [if_neg VT, if_neg VP]; exact k_4 this
  rw [if_neg j4] at hx
  · have j5 : cI c n = 5 := by omega
    simp only [List.cons.injEq, and_true] at hx
    obtain ⟨rfl, rfl, rfl⟩ := hx
    have := hiF 5 j5
    refine fin (k := n - cM c) ⟨g1, cE50, rfl, g4, tV, tP, tQ, .inl rfl, .inr (.inl rfl), m0, mb, mR, mR0, sV, sP, sQ, bV, bP, bQ⟩ ?_ (.inr rfl) (k_5' this f0 (Int.lt_of_le_of_lt f0 f1))
    rw [if_pos rfl]; exact k_5 this
theorem colI_three (c : Nat) (n a b : Int) : ∃ x y z, colI c n a b = [x, y, z] := by
  unfold colI pickI
  split
  · exact ⟨_, _, _, rfl⟩
  split
  · exact ⟨_, _, _, rfl⟩
  split
  · exact ⟨_, _, _, rfl⟩
  split
  · exact ⟨_, _, _, rfl⟩
  split <;> exact ⟨_, _, _, rfl⟩
theorem ColOk.small (h : ColOk c n a b) : ∀ x ∈ colI c n a b, 0 ≤ x ∧ x ≤ 16 * cM c := by
  have hM := cM_le h.hc
  have ha := h.a
  have hb := h.b
  obtain ⟨f0, f1, i0, i1, hn6⟩ := h.F
  have a2 := mulb ha (X := cF c n) (Y := cM c) (by omega) (by omega)
  have a3 := mulb ha (X := cM c - cF c n) (Y := cM c) (by omega) (by omega)
  have b1 := mulb hb (X := 4 * cM c - a * cF c n) (Y := 4 * cM c) (by omega) (by omega)
  have b2 := mulb hb (X := 4 * cM c - a * (cM c - cF c n)) (Y := 4 * cM c) (by omega) (by omega)
  have b4 := mulb hb (X := (4 - a) * cM c) (Y := 4 * cM c) (Int.mul_nonneg (by omega) (by omega)) (Int.mul_le_mul_of_nonneg_right (by omega) (by omega))
  have b5 := mulb hb (X := 4 * cM c) (Y := 4 * cM c) (by omega) (by omega)
  have q1 : 0 ≤ cV c b ∧ cV c b ≤ 16 * cM c := by unfold cV; omega
  have q2 : 0 ≤ cP c a b ∧ cP c a b ≤ 16 * cM c := by unfold cP; omega
  have q3 : 0 ≤ cQ c n a b ∧ cQ c n a b ≤ 16 * cM c := by unfold cQ; omega
  have q4 : 0 ≤ cT c n a b ∧ cT c n a b ≤ 16 * cM c := by unfold cT; omega
  intro x hx
  unfold colI pickI at hx
  have three : ∀ {u v w : Int}, x ∈ [u, v, w] → (0 ≤ u ∧ u ≤ 16 * cM c) → (0 ≤ v ∧ v ≤ 16 * cM c) → (0 ≤ w ∧ w ≤ 16 * cM c) → 0 ≤ x ∧ x ≤ 16 * cM c := by
    intro u v w hm h1 h2 h3
    simp only [List.mem_cons, List.not_mem_nil, or_false] at hm
    rcases hm with rfl | rfl | rfl <;> assumption
  split at hx
  · exact three hx q1 q4 q2
  split at hx
  · exact three hx q3 q1 q2
  split at hx
  · exact three hx q2 q1 q4
  split at hx
  · exact three hx q2 q3 q1
  split at hx
  · exact three hx q4 q2 q1
  · exact three hx q1 q2 q3
end
end Mine
end
section
open PySem PySem.W PySem.Calls PyProof.Rows PySem.Sre PySem.Builtin.Re
set_option maxRecDepth 100000
set_option linter.unusedVariables false
namespace Mine
/-! the machine: n steps -/
theorem runFor_done : ∀ (n : Nat) (m : M), m.outcome.isSome = true → m.runFor n = m
  | 0, m, _ => rfl
  | n + 1, m, h => by unfold M.runFor; rw [if_pos h]
theorem runFor_step {m : M} (n : Nat) (h : m.outcome.isSome = false) : m.runFor (n + 1) = m.step.runFor n := by
  rw [M.runFor, if_neg (by rw [h]; decide)]
theorem runFor_add : ∀ (a b : Nat) (m : M), m.runFor (a + b) = (m.runFor a).runFor b
  | 0, b, m => by rw [Nat.zero_add]; rfl
  | a + 1, b, m => by
    cases h : m.outcome.isSome with
    | true => rw [runFor_done _ m h, runFor_done _ m h, runFor_done _ m h]
    | false =>
      rw [show a + 1 + b = (a + b) + 1 by omega, runFor_step _ h, runFor_step _ h, runFor_add a b]
/-- from m the machine comes to r, in n steps -/
def Comes (n : Nat) (m r : M) : Prop := m.runFor n = r
theorem Comes.refl (m : M) : Comes 0 m m := rfl
theorem Comes.trans {a b : Nat} {m r q : M} (x : Comes a m r) (y : Comes b r q) : Comes (a + b) m q := by
  show m.runFor (a + b) = q
  rw [runFor_add, show m.runFor a = r from x]; exact y
theorem Comes.one {m r : M} (h : m.outcome.isSome = false) (e : m.step = r) : Comes 1 m r := by
  show m.runFor 1 = r
  rw [runFor_step 0 h, e]; rfl
theorem drive {prog : Program} {w : World} {A : Around} {E : Value → Shared → Prop} {s : Shared} {Q : M → Shared → Prop} {r : M} (hr : r.outcome.isSome = true) (h : Q r s) :
    ∀ (k n : Nat) (m : M), Comes n m r → n < 4 * k → wpAny (model prog w) A (reDrive k m) Q E s
  | 0, n, m, _, hn => by omega
  | k + 1, n, m, hc, hn => by
    unfold reDrive
    show wpAny _ A (if (m.runFor 4).outcome.isSome then pure (m.runFor 4) else (do rule "sre.turn"; reDrive k (m.runFor 4))) Q E s
    by_cases h4 : n ≤ 4
    · have e : m.runFor 4 = r := by
        have : m.runFor (n + (4 - n)) = r := by rw [runFor_add, show m.runFor n = r from hc]; exact runFor_done _ r hr
        rwa [show n + (4 - n) = 4 by omega] at this
      rw [e, if_pos hr]
      exact wpAny_pure h
    · by_cases ho : (m.runFor 4).outcome.isSome = true
      · rw [if_pos ho]
        have e : m.runFor 4 = r := by
          have : m.runFor (4 + (n - 4)) = r := by rw [show 4 + (n - 4) = n by omega]; exact hc
          rw [runFor_add, runFor_done _ _ ho] at this; exact this
        rw [e]; exact wpAny_pure h
      · rw [if_neg ho]
        refine wpAny_bind (wpAny_rule ?_)
        refine drive hr h k (n - 4) (m.runFor 4) ?_ (by omega)
        show (m.runFor 4).runFor (n - 4) = r
        rw [← runFor_add, show 4 + (n - 4) = n by omega]; exact hc
theorem rules {M' : Model} {A : Around} {E : Value → Shared → Prop} {s : Shared} {Q : PUnit → Shared → Prop} (m : M) (h : Q ⟨⟩ s) : ∀ (l : List Nat), wpAny M' A (forIn l PUnit.unit fun i r => do
    if m.seen.has i then rule (Sre.names.getD i "")
    pure (ForInStep.yield PUnit.unit)) Q E s
  | [] => wpAny_pure h
  | i :: l => by
    rw [List.forIn_cons]
    refine wpAny_bind ?_
    by_cases hs : m.seen.has i = true
    · simp only [hs, if_true]
      exact wpAny_bind (wpAny_rule (wpAny_pure (rules m h l)))
    · simp only [hs]
      exact wpAny_pure (rules m h l)
theorem to_end {prog : Program} {w : World} {A : Around} {E : Value → Shared → Prop} {s : Shared} {Q : Option M → Shared → Prop} {m r : M} {n : Nat} (hc : Comes n m r) (hn : n < 2 ^ 60) (b : Bool) (ho : r.outcome = some (if b then .matched else .failed))
    (h : Q (if b then some r else none) s) : wpAny (model prog w) A (reRunToEnd m) Q E s := by
  unfold reRunToEnd
  refine wpAny_bind (drive (by rw [ho]; rfl) ?_ (2 ^ 64) n m hc (by omega))
  refine wpAny_bind (wpAny_mono (rules r (Q := fun _ s' => wpAny (model prog w) A (match r.outcome with
      | some .matched => pure (some r)
      | some .failed => pure none
      | some (.stuck why) => unsupported s!"_sre:{why}"
      | none => unsupported "internal:sre:no-outcome") Q E s') ?_ _) (fun _ _ x => x) fun _ _ x => x)
  rw [ho]
  cases b with
  | true => exact wpAny_pure h
  | false => exact wpAny_pure h
end Mine
end
section
open PySem PySem.W PySem.Calls PyProof.Rows PySem.Sre PySem.Builtin.Re
set_option maxRecDepth 100000
set_option linter.unusedVariables false
namespace Mine
def code1 : Array Nat := #[14, 4, 0, 1, 1, 6, 1, 16, 46, 1]
def M1 (text : Array Nat) (s : Nat) (first : Bool) (pc pos handed : Nat) (seen : Sre.Seen) : M :=
  { code := code1, text, lim := text.size, start := s, lastStart := text.size, pc, pos, handed, outermost := first, marks := #[], frames := [{ wait := .nextStart, pc := 5, pos := s, outermost := first }], weight := 1, seen }
def at1 (text : Array Nat) (s : Nat) : Bool := s == 0 || text.getD (s - 1) 0 == 10
theorem m1_at {text : Array Nat} {s : Nat} {first : Bool} {h : Nat} {seen : Sre.Seen} (e : at1 text s = true) : ∃ seen', (M1 text s first 5 s h seen).step = M1 text s first 7 s h seen' := by
  refine ⟨(seen.add 6).add 44, ?_⟩
  show (if at1 text s = true then _ else _) = _
  rw [if_pos e]
  rfl
theorem m1_at0 {text : Array Nat} {s : Nat} {first : Bool} {h : Nat} {seen : Sre.Seen} (e : at1 text s = false) : ∃ seen', (M1 text s first 5 s h seen).step = (M1 text s first 5 s h seen').say false := by
  refine ⟨(seen.add 6).add 44, ?_⟩
  show (if at1 text s = true then _ else _) = _
  rw [if_neg (by rw [e]; decide)]
  rfl
theorem m1_lit {text : Array Nat} {s : Nat} {first : Bool} {h : Nat} {seen : Sre.Seen} (hs : s < text.size) (e : (text.getD s 0 == 46) = true) : ∃ seen', (M1 text s first 7 s h seen).step = M1 text s first 9 (s + 1) h seen' := by
  refine ⟨seen.add 16, ?_⟩
  show (if s ≥ text.size then _ else _) = _
  rw [if_neg (by omega)]
  show (match (Except.ok (text.getD s 0 == 46, _) : Except String (Bool × Sre.Seen)) with
    | .error why => _
    | .ok (false, seen) => _
    | .ok (true, seen) => _) = _
  rw [e]
  rfl
theorem m1_lit0 {text : Array Nat} {s : Nat} {first : Bool} {h : Nat} {seen : Sre.Seen} (e : s < text.size → (text.getD s 0 == 46) = false) : ∃ seen', (M1 text s first 7 s h seen).step = (M1 text s first 7 s h seen').say false := by
  by_cases hs : s < text.size
  · refine ⟨seen.add 16, ?_⟩
    show (if s ≥ text.size then _ else _) = _
    rw [if_neg (by omega)]
    show (match (Except.ok (text.getD s 0 == 46, _) : Except String (Bool × Sre.Seen)) with
      | .error why => _
      | .ok (false, seen) => _
      | .ok (true, seen) => _) = _
    rw [e hs]
    rfl
  · refine ⟨seen.add 16, ?_⟩
    show (if s ≥ text.size then _ else _) = _
    rw [if_pos (by omega)]
    rfl
theorem m1_ok {text : Array Nat} {s : Nat} {first : Bool} {h : Nat} {seen : Sre.Seen} : ∃ seen', (M1 text s first 9 (s + 1) h seen).step = (M1 text s first 9 (s + 1) (s + 1) seen').say true := by
  cases first <;> exact ⟨_, rfl⟩
theorem m1_yes {text : Array Nat} {s : Nat} {first : Bool} {h : Nat} {seen : Sre.Seen} : ∃ r, Comes 2 ((M1 text s first 9 (s + 1) h seen).say true) r ∧ r.outcome = some .matched ∧ r.start = s ∧ r.handed = h := by
  refine ⟨_, rfl, rfl, rfl, rfl⟩
theorem m1_no {text : Array Nat} {s : Nat} {first : Bool} {pc h : Nat} {seen : Sre.Seen} (hs : s < text.size) : ∃ seen', ((M1 text s first pc s h seen).say false).step = M1 text (s + 1) false 5 (s + 1) (s + 1) seen' := by
  refine ⟨seen, ?_⟩
  show (if s < text.size then _ else _) = _
  rw [if_pos hs]
  rfl
theorem m1_end {text : Array Nat} {s : Nat} {first : Bool} {pc h : Nat} {seen : Sre.Seen} (hs : ¬ s < text.size) : ∃ r, Comes 2 ((M1 text s first pc s h seen).say false) r ∧ r.outcome = some .failed := by
  have e : ((M1 text s first pc s h seen).say false).step = (({ M1 text s first pc s h seen with frames := [], weight := 0, pc := 5, pos := s, outermost := first } : M)).say false := by
    show (if s < text.size then _ else _) = _
    rw [if_neg hs]
    rfl
  refine ⟨_, (Comes.one rfl e).trans (Comes.one rfl rfl), rfl⟩
def next1 (text : Array Nat) : Nat → Nat → Option Nat
  | 0, _ => none
  | k + 1, s => if (at1 text s && text.getD s 0 == 46) = true then some s else next1 text k (s + 1)
theorem s1 (text : Array Nat) : ∀ (k s : Nat) (first : Bool) (h : Nat) (seen : Sre.Seen), s + k = text.size → ∃ n r, n ≤ 10 * (k + 1) ∧ Comes n (M1 text s first 5 s h seen) r ∧
    match next1 text k s with
    | some j => r.outcome = some .matched ∧ r.start = j ∧ r.handed = j + 1
    | none => r.outcome = some .failed
  | 0, s, first, h, seen, hk => by
    have hs : ¬ s < text.size := by omega
    cases ha : at1 text s with
    | false =>
      obtain ⟨sn, e⟩ := m1_at0 (first := first) (h := h) (seen := seen) ha
      obtain ⟨r, c, o⟩ := m1_end (text := text) (s := s) (first := first) (pc := 5) (h := h) (seen := sn) hs
      exact ⟨_, r, by decide, (Comes.one rfl e).trans c, o⟩
    | true =>
      obtain ⟨sn, e⟩ := m1_at (first := first) (h := h) (seen := seen) ha
      obtain ⟨sn2, e2⟩ := m1_lit0 (text := text) (s := s) (first := first) (h := h) (seen := sn) fun q => absurd q hs
      obtain ⟨r, c, o⟩ := m1_end (text := text) (s := s) (first := first) (pc := 7) (h := h) (seen := sn2) hs
      exact ⟨_, r, by decide, (Comes.one rfl e).trans ((Comes.one rfl e2).trans c), o⟩
  | k + 1, s, first, h, seen, hk => by
    have hs : s < text.size := by omega
    cases ha : at1 text s with
    | false =>
      obtain ⟨sn, e⟩ := m1_at0 (first := first) (h := h) (seen := seen) ha
      obtain ⟨sn2, e2⟩ := m1_no (text := text) (s := s) (first := first) (pc := 5) (h := h) (seen := sn) hs
      obtain ⟨n, r, hn, c, o⟩ := s1 text k (s + 1) false (s + 1) sn2 (by omega)
      refine ⟨_, r, ?_, (Comes.one rfl e).trans ((Comes.one rfl e2).trans c), ?_⟩
      · omega
      · simp only [next1, ha]; exact o
    | true =>
      obtain ⟨sn, e⟩ := m1_at (first := first) (h := h) (seen := seen) ha
      cases hb : (text.getD s 0 == 46) with
      | false =>
        obtain ⟨sn2, e2⟩ := m1_lit0 (text := text) (s := s) (first := first) (h := h) (seen := sn) fun _ => hb
        obtain ⟨sn3, e3⟩ := m1_no (text := text) (s := s) (first := first) (pc := 7) (h := h) (seen := sn2) hs
        obtain ⟨n, r, hn, c, o⟩ := s1 text k (s + 1) false (s + 1) sn3 (by omega)
        refine ⟨_, r, ?_, (Comes.one rfl e).trans ((Comes.one rfl e2).trans ((Comes.one rfl e3).trans c)), ?_⟩
        · omega
        · simp only [next1, ha, hb]; exact o
      | true =>
        obtain ⟨sn2, e2⟩ := m1_lit (text := text) (s := s) (first := first) (h := h) (seen := sn) hs hb
        obtain ⟨sn3, e3⟩ := m1_ok (text := text) (s := s) (first := first) (h := h) (seen := sn2)
        obtain ⟨r, c, o⟩ := m1_yes (text := text) (s := s) (first := first) (h := s + 1) (seen := sn3)
        refine ⟨_, r, ?_, (Comes.one rfl e).trans ((Comes.one rfl e2).trans ((Comes.one rfl e3).trans c)), ?_⟩
        · omega
        · simp only [next1, ha, hb]; exact o
theorem f1 (text : Array Nat) (s : Nat) (hs : s ≤ text.size) : ∃ n r, n ≤ 10 * (text.size + 1) ∧ Comes n (Sre.forSearch code1 text 0 s text.size false) r ∧
    match next1 text (text.size - s) s with
    | some j => r.outcome = some .matched ∧ r.start = j ∧ r.handed = j + 1
    | none => r.outcome = some .failed := by
  by_cases h : s < text.size
  · have e : Sre.forSearch code1 text 0 s text.size false = M1 text s true 5 s s (({} : Sre.Seen).add 14) := by
      show (if (decide (s > text.size) || decide (text.size - s < 1)) = true then _ else _) = _
      rw [if_neg (by simp; omega)]
      rfl
    rw [e]
    obtain ⟨n, r, hn, c, o⟩ := s1 text (text.size - s) s true s (({} : Sre.Seen).add 14) (by omega)
    exact ⟨n, r, by omega, c, o⟩
  · have hz : text.size - s = 0 := by omega
    rw [hz]
    have e : Sre.forSearch code1 text 0 s text.size false = M.say { code := code1, text, lim := text.size, start := s, pc := 5, pos := s, handed := s, marks := #[], seen := ({} : Sre.Seen).add 14 } false := by
      show (if (decide (s > text.size) || decide (text.size - s < 1)) = true then _ else _) = _
      rw [if_pos (by simp; omega)]
      rfl
    rw [e]
    exact ⟨1, _, by omega, Comes.one rfl rfl, rfl⟩
end Mine
end
section
open PySem PySem.W PySem.Calls PyProof.Rows PySem.Sre PySem.Builtin.Re
set_option maxRecDepth 100000
set_option linter.unusedVariables false
namespace Mine
def code2 : Array Nat := #[14, 9, 4, 1, 2, 16, 10, 16, 13, 0, 7, 7, 16, 13, 16, 10, 15, 18, 5, 16, 10, 15, 13, 11, 16, 13, 5, 5, 0, 16, 10, 1, 15, 2, 0, 1]
def M2 (text : Array Nat) (s pc pos handed : Nat) (om : Bool) (frames : List Sre.Frame) (weight : Nat) (seen : Sre.Seen) : M :=
  { code := code2, text, lim := text.size, start := s, lastStart := text.size, pc, pos, handed, outermost := om, marks := #[], frames, weight, seen }
def F0 (s : Nat) (first : Bool) : Sre.Frame := { wait := .nextStart, pc := 10, pos := s, outermost := first }
def Fb (alt s : Nat) (first : Bool) : Sre.Frame := { wait := .nextBranch, pc := alt, pos := s, outermost := first }
def Fl (s : Nat) (first : Bool) : Sre.Frame := { wait := .lookNot, pc := 26, pos := s + 1, outermost := first }
section
variable {text : Array Nat} {s h : Nat} {first om : Bool} {fr : List Sre.Frame} {w : Nat} {seen : Sre.Seen}
theorem l2_12 {p : Nat} (hs : p < text.size) (e : (text.getD p 0 == 13) = true) : (M2 text s 12 p h om fr w seen).step = M2 text s 14 (p + 1) h om fr w (seen.add 16) := by
  show (if p ≥ text.size then _ else _) = _
  rw [if_neg (by omega)]
  show (match (Except.ok (text.getD p 0 == 13, _) : Except String (Bool × Sre.Seen)) with
    | .error why => _
    | .ok (false, seen) => _
    | .ok (true, seen) => _) = _
  rw [e]
  rfl
theorem n2_12 {p : Nat} (e : p < text.size → (text.getD p 0 == 13) = false) : (M2 text s 12 p h om fr w seen).step = (M2 text s 12 p h om fr w (seen.add 16)).say false := by
  by_cases hs : p < text.size
  · show (if p ≥ text.size then _ else _) = _
    rw [if_neg (by omega)]
    show (match (Except.ok (text.getD p 0 == 13, _) : Except String (Bool × Sre.Seen)) with
      | .error why => _
      | .ok (false, seen) => _
      | .ok (true, seen) => _) = _
    rw [e hs]
    rfl
  · show (if p ≥ text.size then _ else _) = _
    rw [if_pos (by omega)]
    rfl
theorem l2_14 {p : Nat} (hs : p < text.size) (e : (text.getD p 0 == 10) = true) : (M2 text s 14 p h om fr w seen).step = M2 text s 16 (p + 1) h om fr w (seen.add 16) := by
  show (if p ≥ text.size then _ else _) = _
  rw [if_neg (by omega)]
  show (match (Except.ok (text.getD p 0 == 10, _) : Except String (Bool × Sre.Seen)) with
    | .error why => _
    | .ok (false, seen) => _
    | .ok (true, seen) => _) = _
  rw [e]
  rfl
theorem n2_14 {p : Nat} (e : p < text.size → (text.getD p 0 == 10) = false) : (M2 text s 14 p h om fr w seen).step = (M2 text s 14 p h om fr w (seen.add 16)).say false := by
  by_cases hs : p < text.size
  · show (if p ≥ text.size then _ else _) = _
    rw [if_neg (by omega)]
    show (match (Except.ok (text.getD p 0 == 10, _) : Except String (Bool × Sre.Seen)) with
      | .error why => _
      | .ok (false, seen) => _
      | .ok (true, seen) => _) = _
    rw [e hs]
    rfl
  · show (if p ≥ text.size then _ else _) = _
    rw [if_pos (by omega)]
    rfl
theorem l2_19 {p : Nat} (hs : p < text.size) (e : (text.getD p 0 == 10) = true) : (M2 text s 19 p h om fr w seen).step = M2 text s 21 (p + 1) h om fr w (seen.add 16) := by
  show (if p ≥ text.size then _ else _) = _
  rw [if_neg (by omega)]
  show (match (Except.ok (text.getD p 0 == 10, _) : Except String (Bool × Sre.Seen)) with
    | .error why => _
    | .ok (false, seen) => _
    | .ok (true, seen) => _) = _
  rw [e]
  rfl
theorem n2_19 {p : Nat} (e : p < text.size → (text.getD p 0 == 10) = false) : (M2 text s 19 p h om fr w seen).step = (M2 text s 19 p h om fr w (seen.add 16)).say false := by
  by_cases hs : p < text.size
  · show (if p ≥ text.size then _ else _) = _
    rw [if_neg (by omega)]
    show (match (Except.ok (text.getD p 0 == 10, _) : Except String (Bool × Sre.Seen)) with
      | .error why => _
      | .ok (false, seen) => _
      | .ok (true, seen) => _) = _
    rw [e hs]
    rfl
  · show (if p ≥ text.size then _ else _) = _
    rw [if_pos (by omega)]
    rfl
theorem l2_24 {p : Nat} (hs : p < text.size) (e : (text.getD p 0 == 13) = true) : (M2 text s 24 p h om fr w seen).step = M2 text s 26 (p + 1) h om fr w (seen.add 16) := by
  show (if p ≥ text.size then _ else _) = _
  rw [if_neg (by omega)]
  show (match (Except.ok (text.getD p 0 == 13, _) : Except String (Bool × Sre.Seen)) with
    | .error why => _
    | .ok (false, seen) => _
    | .ok (true, seen) => _) = _
  rw [e]
  rfl
theorem n2_24 {p : Nat} (e : p < text.size → (text.getD p 0 == 13) = false) : (M2 text s 24 p h om fr w seen).step = (M2 text s 24 p h om fr w (seen.add 16)).say false := by
  by_cases hs : p < text.size
  · show (if p ≥ text.size then _ else _) = _
    rw [if_neg (by omega)]
    show (match (Except.ok (text.getD p 0 == 13, _) : Except String (Bool × Sre.Seen)) with
      | .error why => _
      | .ok (false, seen) => _
      | .ok (true, seen) => _) = _
    rw [e hs]
    rfl
  · show (if p ≥ text.size then _ else _) = _
    rw [if_pos (by omega)]
    rfl
theorem l2_29 {p : Nat} (hs : p < text.size) (e : (text.getD p 0 == 10) = true) : (M2 text s 29 p h om fr w seen).step = M2 text s 31 (p + 1) h om fr w (seen.add 16) := by
  show (if p ≥ text.size then _ else _) = _
  rw [if_neg (by omega)]
  show (match (Except.ok (text.getD p 0 == 10, _) : Except String (Bool × Sre.Seen)) with
    | .error why => _
    | .ok (false, seen) => _
    | .ok (true, seen) => _) = _
  rw [e]
  rfl
theorem n2_29 {p : Nat} (e : p < text.size → (text.getD p 0 == 10) = false) : (M2 text s 29 p h om fr w seen).step = (M2 text s 29 p h om fr w (seen.add 16)).say false := by
  by_cases hs : p < text.size
  · show (if p ≥ text.size then _ else _) = _
    rw [if_neg (by omega)]
    show (match (Except.ok (text.getD p 0 == 10, _) : Except String (Bool × Sre.Seen)) with
      | .error why => _
      | .ok (false, seen) => _
      | .ok (true, seen) => _) = _
    rw [e hs]
    rfl
  · show (if p ≥ text.size then _ else _) = _
    rw [if_pos (by omega)]
    rfl
theorem br2 : (M2 text s 10 s h first [F0 s first] 1 seen).step = M2 text s 12 s s first [Fb 11 s first, F0 s first] 2 (seen.add 7) := rfl
theorem alt2 {pc p : Nat} : ((M2 text s pc p h om [Fb 11 s first, F0 s first] 2 seen).say false).step = M2 text s 19 s s first [Fb 18 s first, F0 s first] 2 seen := rfl
theorem alt3 {pc p : Nat} : ((M2 text s pc p h om [Fb 18 s first, F0 s first] 2 seen).say false).step = M2 text s 24 s s first [Fb 23 s first, F0 s first] 2 seen := rfl
theorem jump16 {p : Nat} : (M2 text s 16 p h om fr w seen).step = M2 text s 35 p h om fr w (seen.add 15) := rfl
theorem jump21 {p : Nat} : (M2 text s 21 p h om fr w seen).step = M2 text s 35 p h om fr w (seen.add 15) := rfl
theorem jump32 {p : Nat} : (M2 text s 32 p h om fr w seen).step = M2 text s 35 p h om fr w (seen.add 15) := rfl
theorem look2 : (M2 text s 26 (s + 1) h first [Fb 23 s first, F0 s first] 2 seen).step = M2 text s 29 (s + 1) (s + 1) false [Fl s first, Fb 23 s first, F0 s first] 3 (seen.add 5) := by
  rfl
theorem back2 {p : Nat} : ((M2 text s 29 p h om [Fl s first, Fb 23 s first, F0 s first] 3 seen).say false).step = M2 text s 32 (s + 1) h first [Fb 23 s first, F0 s first] 2 seen := rfl
theorem ok2 {p : Nat} : (M2 text s 35 p h om fr w seen).step = (M2 text s 35 p p om fr w (seen.add 1)).say true := by cases om <;> rfl
theorem yes2 {p a : Nat} : ∃ r, Comes 3 ((M2 text s 35 p h om [Fb a s first, F0 s first] 2 seen).say true) r ∧ r.outcome = some .matched ∧ r.start = s ∧ r.handed = h := ⟨_, rfl, rfl, rfl, rfl⟩
theorem go2 {m r q : M} {n : Nat} (h : m.outcome.isSome = false) (e : m.step = r) (c : Comes n r q) : Comes (1 + n) m q := (Comes.one h e).trans c
/-- how long the end of a row at s is -/
def len2 (text : Array Nat) (s : Nat) : Nat := if text.getD s 0 == 13 && (decide (s + 1 < text.size) && text.getD (s + 1) 0 == 10) then 2 else 1
def hit2 (text : Array Nat) (s : Nat) : Bool := text.getD s 0 == 10 || text.getD s 0 == 13
theorem t2 (hs : s < text.size) (hh : hit2 text s = true) : ∃ n r, n ≤ 40 ∧ Comes n (M2 text s 10 s h first [F0 s first] 1 seen) r ∧ r.outcome = some .matched ∧ r.start = s ∧ r.handed = s + len2 text s := by
  by_cases h13 : (text.getD s 0 == 13) = true
  · by_cases hn : (decide (s + 1 < text.size) && text.getD (s + 1) 0 == 10) = true
    · have hl : len2 text s = 2 := by unfold len2; rw [if_pos (by rw [h13, hn]; rfl)]
      simp only [Bool.and_eq_true, decide_eq_true_eq] at hn
      obtain ⟨r, c, o1, o2, o3⟩ := yes2 (text := text) (s := s) (h := s + 1 + 1) (p := s + 1 + 1) (a := 11) (first := first) (om := first) (seen := ((((seen.add 7).add 16).add 16).add 15).add 1)
      refine ⟨_, r, ?_, go2 rfl br2 (go2 rfl (l2_12 hs h13) (go2 rfl (l2_14 hn.1 (by simpa using hn.2)) (go2 rfl jump16 (go2 rfl ok2 c)))), o1, o2, ?_⟩
      · decide
      · rw [o3, hl]
    · have hl : len2 text s = 1 := by unfold len2; rw [if_neg (by rw [h13]; simpa using hn)]
      have hn' : s + 1 < text.size → (text.getD (s + 1) 0 == 10) = false := fun q => by
        cases hq : (text.getD (s + 1) 0 == 10) with
        | false => rfl
        | true => exact absurd (by simp only [Bool.and_eq_true, decide_eq_true_eq]; exact ⟨q, by simpa using hq⟩) hn
      have h10 : (text.getD s 0 == 10) = false := by
        have e : text.getD s 0 = 13 := by simpa using h13
        rw [e]; rfl
      obtain ⟨r, c, o1, o2, o3⟩ := yes2 (text := text) (s := s) (h := s + 1) (p := s + 1) (a := 23) (first := first) (om := first) (seen := (((((((((seen.add 7).add 16).add 16).add 16).add 16).add 5).add 16).add 15).add 1))
      refine ⟨_, r, ?_, go2 rfl br2 (go2 rfl (l2_12 hs h13) (go2 rfl (n2_14 hn') (go2 rfl alt2 (go2 rfl (n2_19 fun _ => h10) (go2 rfl alt3 (go2 rfl (l2_24 hs h13) (go2 rfl look2 (go2 rfl (n2_29 hn') (go2 rfl back2 (go2 rfl jump32 (go2 rfl ok2 c))))))))))), o1, o2, ?_⟩
      · decide
      · rw [o3, hl]
  · have h13' : (text.getD s 0 == 13) = false := by simpa using h13
    have h10 : (text.getD s 0 == 10) = true := by
      unfold hit2 at hh
      rw [h13', Bool.or_false] at hh; exact hh
    have hl : len2 text s = 1 := by unfold len2; rw [if_neg (by rw [h13', Bool.false_and]; decide)]
    obtain ⟨r, c, o1, o2, o3⟩ := yes2 (text := text) (s := s) (h := s + 1) (p := s + 1) (a := 18) (first := first) (om := first) (seen := ((((seen.add 7).add 16).add 16).add 15).add 1)
    refine ⟨_, r, ?_, go2 rfl br2 (go2 rfl (n2_12 fun _ => h13') (go2 rfl alt2 (go2 rfl (l2_19 hs h10) (go2 rfl jump21 (go2 rfl ok2 c))))), o1, o2, ?_⟩
    · decide
    · rw [o3, hl]
end
def next2 (text : Array Nat) : Nat → Nat → Option Nat
  | 0, _ => none
  | k + 1, s => if hit2 text s = true then some s else next2 text k (s + 1)
theorem set2 (c : Nat) (seen : Sre.Seen) : ∃ seen', inSet code2 c code2.size 5 true seen = .ok (c == 10 || c == 13, seen') := by
  by_cases h1 : (c == 10) = true
  · refine ⟨seen.add 16, ?_⟩
    show (if (c == 10) = true then _ else _) = _
    rw [if_pos h1, h1]; rfl
  · have h1' : (c == 10) = false := by simpa using h1
    by_cases h2 : (c == 13) = true
    · refine ⟨(seen.add 16).add 16, ?_⟩
      show (if (c == 10) = true then _ else _) = _
      rw [if_neg h1]
      show (if (c == 13) = true then _ else _) = _
      rw [if_pos h2, h1', h2]; rfl
    · have h2' : (c == 13) = false := by simpa using h2
      refine ⟨((seen.add 16).add 16).add 0, ?_⟩
      show (if (c == 10) = true then _ else _) = _
      rw [if_neg h1]
      show (if (c == 13) = true then _ else _) = _
      rw [if_neg h2, h1', h2']; rfl
theorem adm2 (m : M) (hc : m.code = code2) : ∀ (k s : Nat) (seen : Sre.Seen), s + k = m.lim → m.lim = m.text.size → ∃ seen', M.admitted m (k + 1) s seen = .ok (next2 m.text k s, seen')
  | 0, s, seen, hk, hl => ⟨seen, by rw [M.admitted, if_pos (by omega)]; rfl⟩
  | k + 1, s, seen, hk, hl => by
    obtain ⟨sn, e⟩ := set2 (m.text.getD s 0) seen
    rw [M.admitted, if_neg (by omega), hc, e]
    by_cases hh : (m.text.getD s 0 == 10 || m.text.getD s 0 == 13) = true
    · rw [hh]
      exact ⟨sn, by rw [next2, if_pos (show hit2 m.text s = true from hh)]⟩
    · have hh' : (m.text.getD s 0 == 10 || m.text.getD s 0 == 13) = false := by simpa using hh
      rw [hh']
      obtain ⟨sn', e'⟩ := adm2 m hc k (s + 1) sn (by omega) hl
      exact ⟨sn', by rw [next2, if_neg (show ¬ hit2 m.text s = true from hh)]; exact e'⟩
theorem next2_lt (text : Array Nat) : ∀ (k s j : Nat), s + k = text.size → next2 text k s = some j → j < text.size ∧ hit2 text j = true ∧ s ≤ j
  | 0, s, j, hk, e => by simp [next2] at e
  | k + 1, s, j, hk, e => by
    rw [next2] at e
    by_cases hh : hit2 text s = true
    · rw [if_pos hh] at e; cases e; exact ⟨by omega, hh, Nat.le_refl _⟩
    · rw [if_neg hh] at e
      have := next2_lt text k (s + 1) j (by omega) e
      exact ⟨this.1, this.2.1, by omega⟩
theorem f2 (text : Array Nat) (s : Nat) (hs : s ≤ text.size) : ∃ n r, n ≤ 40 ∧ Comes n (Sre.forSearch code2 text 0 s text.size false) r ∧
    match next2 text (text.size - s) s with
    | some j => r.outcome = some .matched ∧ r.start = j ∧ r.handed = j + len2 text j
    | none => r.outcome = some .failed := by
  by_cases h : s < text.size
  · have e : Sre.forSearch code2 text 0 s text.size false = M.attemptFrom { code := code2, text, lim := text.size, start := s, lastStart := text.size, pc := 10, pos := s, handed := s, marks := #[], seen := ({} : Sre.Seen).add 14 } s true := by
      show (if (decide (s > text.size) || decide (text.size - s < 1)) = true then _ else _) = _
      rw [if_neg (by simp; omega)]
      rfl
    rw [e]
    generalize hm : ({ code := code2, text, lim := text.size, start := s, lastStart := text.size, pc := 10, pos := s, handed := s, marks := #[], seen := ({} : Sre.Seen).add 14 } : M) = m
    obtain ⟨sn, ea⟩ := adm2 m (by rw [← hm]) (text.size - s) s m.seen (by rw [← hm]; show s + (text.size - s) = text.size; omega) (by rw [← hm])
    have hf : m.hasFirstSet = true := by rw [← hm]; rfl
    have hfu : m.lim + 1 - s = text.size - s + 1 := by rw [← hm]; show text.size + 1 - s = _; omega
    have ht : m.text = text := by rw [← hm]
    unfold M.attemptFrom
    rw [hf, hfu, ea, ht]
    cases hn : next2 text (text.size - s) s with
    | none =>
      subst hm
      exact ⟨1, _, by decide, Comes.one rfl rfl, rfl⟩
    | some j =>
      obtain ⟨hj, hh, hle⟩ := next2_lt text _ _ _ (by omega) hn
      subst hm
      obtain ⟨n, r, h1, h2, h3, h4, h5⟩ := t2 (h := j) (first := true) (seen := sn) hj hh
      exact ⟨n, r, h1, h2, h3, h4, h5⟩
  · have hz : text.size - s = 0 := by omega
    rw [hz]
    have e : Sre.forSearch code2 text 0 s text.size false = M.say { code := code2, text, lim := text.size, start := s, pc := 10, pos := s, handed := s, marks := #[], seen := ({} : Sre.Seen).add 14 } false := by
      show (if (decide (s > text.size) || decide (text.size - s < 1)) = true then _ else _) = _
      rw [if_pos (by simp; omega)]
      rfl
    rw [e]
    exact ⟨1, _, by omega, Comes.one rfl rfl, rfl⟩
end Mine
end
section
open PySem PySem.W PySem.Calls PyProof.Rows PySem.Sre PySem.Builtin.Re
set_option maxRecDepth 100000
set_option linter.unusedVariables false
namespace Mine
structure Pat (h : Heap) (P : Addr) (code : Array Nat) : Prop where
  ex : ∃ o fs T oT its n, h.get? P = some o ∧ o.cls = .type "re.Pattern" ∧ o.dict = none ∧ o.data = .fields fs ∧ fs.getD 6 .none = .int 0 0 ∧ fs.getD 5 .none = .ref T ∧ fs.getD 2 .none = .int 0 0 ∧ h.get? T = some oT ∧ oT.data = .seq its n ∧ ((its.map reRawOf).map (·.toNat)) = code
theorem Pat.keeps {h h' : Heap} {P : Addr} {code : Array Nat} (p : Pat h P code) (D : Addr) (hD : ∀ o, h.get? D = some o → o.cls = .type "list" ∧ ∃ xs n, o.data = .seq xs n) (hk : ∀ b, b ≠ D → ∀ o, h.get? b = some o → h'.get? b = some o) (hT : ∀ o fs T, h.get? P = some o → o.data = .fields fs → fs.getD 5 .none = .ref T → T ≠ D) : Pat h' P code := by
  obtain ⟨o, fs, T, oT, its, n, h1, h2, h3, h4, h5, h6, h7, h8, h9, h10⟩ := p
  refine ⟨o, fs, T, oT, its, n, hk P (fun e => ?_) o h1, h2, h3, h4, h5, h6, h7, hk T (hT o fs T h1 h4 h6) oT h8, h9, h10⟩
  rw [e] at h1
  have := (hD o h1).1
  rw [h2] at this; exact absurd this (by decide)
section
variable {M : Model} {A : Around} {E : Value → Shared → Prop} {s : Shared}
theorem whole_target {P : Addr} {code : Array Nat} {x : Str} {t : Tok} {Q : ReTarget → Shared → Prop} (p : Pat s.heap P code) (h : Q { pattern := .ref P, string := .str x t, code, text := x.cps, kind := 0, groups := 0, pos := 0, lim := x.cps.size } s) :
    wpAny M A (reWholeTarget (.ref P) (.str x t)) Q E s := by
  obtain ⟨o, fs, T, oT, its, n, h1, h2, h3, h4, h5, h6, h7, h8, h9, h10⟩ := p
  unfold reWholeTarget
  refine wpAny_bind (wpAny_fieldsOf h1 h4 ?_)
  refine wpAny_bind (wpAny_of_eq (a := (x.cps, 0)) rfl ?_)
  dsimp only
  rw [h5, h6, h7]
  show wpAny M A (reNoCollectionInside (.str x t) 0 >>= fun _ => _) Q E s
  refine wpAny_bind (wpAny_of_eq (a := ()) rfl ?_)
  refine wpAny_bind ?_
  unfold reRawItems
  refine wpAny_bind (wpAny_seqItems h8 h9 (wpAny_pure ?_))
  show wpAny M A (pure _) Q E s
  refine wpAny_pure ?_
  have e : (((some its).getD #[]).map reRawOf).map (·.toNat) = code := h10
  rw [e]
  exact h
end
end Mine
end
section
open PySem PySem.W PySem.Calls PyProof.Rows PySem.Sre PySem.Builtin.Re
set_option maxRecDepth 100000
set_option linter.unusedVariables false
namespace Mine
structure Srch (code text : Array Nat) (nx : Nat → Option Nat) (ln : Nat → Nat) : Prop where
  go : ∀ s, s ≤ text.size → ∃ n r, n < 2 ^ 60 ∧ Comes n (Sre.forSearch code text 0 s text.size false) r ∧ match nx s with | some j => r.outcome = some .matched ∧ r.start = j ∧ r.handed = j + ln j | none => r.outcome = some .failed
  ok : ∀ s j, s ≤ text.size → nx s = some j → s ≤ j ∧ 0 < ln j ∧ j + ln j ≤ text.size
def subOut (nx : Nat → Option Nat) (ln : Nat → Nat) (t : Array Nat) (rp : List Nat) : Nat → Nat → List Nat
  | 0, _ => []
  | k + 1, d => match nx d with
    | none => (t.extract d t.size).toList
    | some j => (t.extract d j).toList ++ rp ++ subOut nx ln t rp k (j + ln j)
def cat (l : List (Str × Tok)) : List Nat := (l.map fun p => p.1.cps.toList).flatten
theorem plain_sub_loop : plainId "re.Pattern.sub.loop" = true := by decide +kernel
theorem entry_sub_loop : entryFor table "re.Pattern.sub.loop" = some Builtin.«re.Pattern.sub.loop» := entryFor_of_tree (by kernel_rfl)
theorem next_found {prog : Program} {w : World} {A : Around} {E : Value → Shared → Prop} {s : Shared} {T : ReTarget} {nx : Nat → Option Nat} {ln : Nat → Nat} {d : Nat} {Q : Option M → Shared → Prop} (S : Srch T.code T.text nx ln) (hg : T.groups = 0) (hl : T.lim = T.text.size) (hd : d ≤ T.text.size)
    (h : match nx d with | none => Q none s | some j => ∀ r : M, r.start = j → r.handed = j + ln j → Q (some r) s) : wpAny (model prog w) A (reNextFound T d false) Q E s := by
  obtain ⟨n, r, hn, hc, ho⟩ := S.go d hd
  unfold reNextFound
  rw [hg, hl]
  cases e : nx d with
  | none =>
    rw [e] at ho h
    exact to_end hc hn false ho h
  | some j =>
    rw [e] at ho h
    exact to_end hc hn true ho.1 (h r ho.2.1 ho.2.2)
theorem glued_nil (l : List Str) : (Builtin.Str.glued ⟨#[]⟩ l).cps.toList = (l.map fun p => p.cps.toList).flatten := by
  have fo : ∀ (l : List Str) (acc : Array Nat), (l.foldl (fun acc p => acc ++ (#[] : Array Nat) ++ p.cps) acc).toList = acc.toList ++ (l.map fun p => p.cps.toList).flatten := by
    intro l
    induction l with
    | nil => intro acc; simp
    | cons a l ih => intro acc; rw [List.foldl_cons, ih]; simp
  cases l with
  | nil => rfl
  | cons a l =>
    show (l.foldl (fun acc p => acc ++ (#[] : Array Nat) ++ p.cps) a.cps).toList = _
    rw [fo]; simp
theorem made_join {l : List (Str × Tok)} {Q : Value → Shared → Prop} {s : Shared} (hz : (cat l).length ≤ sizeLine) (h : ∀ t' tk, Q (.str ⟨(cat l).toArray⟩ t') { s with toks := tk }) : (joinMade ⟨#[]⟩ l).post Q s := by
  have e : ∀ l : List (Str × Tok), Builtin.Str.glued ⟨#[]⟩ (l.map (·.1)) = ⟨(cat l).toArray⟩ := fun l => by
    have := glued_nil (l.map (·.1))
    rw [List.map_map] at this
    have h2 : (Builtin.Str.glued ⟨#[]⟩ (l.map (·.1))).cps = (cat l).toArray := Array.toList_inj.mp (by rw [this]; rfl)
    rw [← h2]
  match l with
  | [] => have := h s.toks (s.toks + 1); rw [← e] at this; exact ⟨by rw [e]; exact hz, this⟩
  | [p] =>
    have := h p.2 s.toks
    have e1 : cat [p] = p.1.cps.toList := by simp [cat]
    rw [e1, Array.toArray_toList] at this
    exact this
  | p :: q :: r => have := h s.toks (s.toks + 1); rw [← e] at this; exact ⟨by rw [e]; exact hz, this⟩
theorem cat_le {B : Nat} : ∀ (l : List (Str × Tok)), (∀ p ∈ l, p.1.cps.size ≤ B) → (cat l).length ≤ l.length * B
  | [], _ => by simp [cat]
  | a :: l, h => by
    have h1 := h a (List.mem_cons_self ..)
    have h2 := cat_le l fun z hz => h z (List.mem_cons_of_mem _ hz)
    have e : (cat (a :: l)).length = a.1.cps.size + (cat l).length := by simp [cat]
    rw [e, List.length_cons, Nat.succ_mul]; omega
theorem fin_join {prog : Program} {w : World} {A : Around} {R : Result → Shared → Prop} {s : Shared} {D : Addr} {x : Str} {l : List (Str × Tok)} {E : Value → Shared → Prop} (hD : s.heap.PlainList D (strValues l).toArray) (hp : ∀ p ∈ l, p.1.cps.size ≤ 200) (hl : l.length ≤ 1000)
    (hR : ∀ tk t', R (.ok (.ret (.str ⟨(cat l).toArray⟩ t'))) { s with toks := tk }) :
    wpAny (model prog w) A.in1 (reSlice x.cps 0 0 0 >>= fun joiner => seqItems? (.ref D) >>= fun o => if (o.getD #[]).isEmpty = true then (pure joiner >>= fun text => ret text) else (call (.builtin "str.join") [joiner, .ref D] >>= fun text => ret text))
      (fun fin s' => match fin with | .done f => R (.ok f) s' | .again c' => c'.quiet = true ∧ codeAny (model prog w) A c' R s') E s := by
  have e0 : (⟨x.cps.extract 0 0⟩ : Str) = ⟨#[]⟩ := by simp
  show wpAny _ _ (mkStr ⟨x.cps.extract 0 0⟩ >>= _) _ _ _
  rw [e0]
  refine wpAny_bind (wpAny_mkStr ?_ (by decide))
  obtain ⟨c, ho⟩ := hD
  refine wpAny_bind (wpAny_seqItems ho rfl ?_)
  show wpAny _ _ (if ((strValues l).toArray).isEmpty = true then _ else _) _ _ _
  cases l with
  | nil =>
    rw [if_pos (by rfl)]
    refine wpAny_bind (wpAny_pure (wpAny_pure ?_))
    exact hR (s.toks + 1) s.toks
  | cons a l =>
    rw [if_neg (by simp [strValues])]
    refine wpAny_bind (call_meets F.slot_str_join (typeIs_str _ _ _) F.entry_str_join (F.args_str_join_2 _ _) (meets_str_join_list ⟨#[]⟩ s.toks D (a :: l) (StrLaws.joinFits (B := 200) (fun y hy => ?_) ?_)) ⟨⟨_, ho, rfl, c, rfl⟩, made_join ?_ fun t' tk => wpAny_pure ?_⟩)
    · obtain ⟨p, hp', rfl⟩ := List.mem_map.mp hy
      exact hp p hp'
    · rw [List.length_map]
      show (a :: l).length * 200 + (a :: l).length * 0 ≤ 16777216
      omega
    · have hsl : (200000 : Nat) ≤ sizeLine := by decide
      have := cat_le (B := 200) (a :: l) hp
      omega
    · exact hR tk t'
theorem cat_snoc (l : List (Str × Tok)) (y : Str) (t : Tok) : cat (l ++ [(y, t)]) = cat l ++ y.cps.toList := by simp [cat]
theorem push_str {D : Addr} {l : List (Str × Tok)} {h : Heap} {y : Str} {t : Tok} (hD : h.PlainList D (strValues l).toArray) : (h.update D (Obj.mapSeq (·.push (.str y t)))).PlainList D (strValues (l ++ [(y, t)])).toArray := by
  obtain ⟨c, ho⟩ := hD
  have q := IsL.update ho (·.push (.str y t))
  have e : (strValues l).toArray.push (.str y t) = (strValues (l ++ [(y, t)])).toArray := by simp [strValues]
  have e' : ∀ n, ({ cls := .type "list", dict := none, data := .seq ((strValues l).toArray.push (.str y t)) n, slots := #[] } : Obj) = { cls := .type "list", dict := none, data := .seq (strValues (l ++ [(y, t)])).toArray n, slots := #[] } := fun n => by rw [e]
  exact ⟨_, q.trans (congrArg some (e' _))⟩
theorem upd_push {M : Model} {A : Around} {E : Value → Shared → Prop} {s : Shared} {Q : Unit → Shared → Prop} {D : Addr} {l : List (Str × Tok)} {y : Str} {t : Tok} (hD : s.heap.PlainList D (strValues l).toArray) (hl : l.length ≤ 1000)
    (h : ∀ h', h'.PlainList D (strValues (l ++ [(y, t)])).toArray → (∀ b, b ≠ D → h'.get? b = s.heap.get? b) → Q () { s with heap := h' }) : wpAny M A (updateSeq D (·.push (.str y t))) Q E s := by
  have hD' := hD
  obtain ⟨c, ho⟩ := hD
  have hz : (strValues l).toArray.size ≤ 1000 := by simp [strValues]; exact hl
  have hs : (1000 : Nat) ≤ sizeLine := by decide
  exact wpAny_updateSeq ho rfl (h _ (push_str hD') fun b hb => (Heap.SameBut.update s.heap D _).2 b hb) (Nat.le_trans hz hs) (by rw [Array.size_push]; omega)
theorem ext_le (t : Array Nat) (i j : Nat) : (t.extract i j).size ≤ t.size := by rw [Array.size_extract]; omega
theorem sub_loop {P D : Addr} {code : Array Nat} {x rp : Str} {t u : Tok} {nx : Nat → Option Nat} {ln : Nat → Nat} (S : Srch code x.cps nx ln) (hx : x.cps.size ≤ 200) (hrp : rp.cps.size ≤ 200) :
    ∀ (k d n : Nat) (l : List (Str × Tok)), x.cps.size < d + k → d ≤ x.cps.size → l.length ≤ 2 * d → (∀ p ∈ l, p.1.cps.size ≤ 200) →
    Meets (Builtin.«re.Pattern.sub.loop» ⟨[.ref P, .str x t, .str rp u, rawInt 0, rawInt 0, rawInt n, rawInt d, rawInt d, .bool false, .ref D, .bool false], []⟩)
      (fun A R s => Pat s.heap P code ∧ (∀ o fs T, s.heap.get? P = some o → o.data = .fields fs → fs.getD 5 .none = .ref T → T ≠ D) ∧ s.heap.PlainList D (strValues l).toArray ∧
        ∀ h' tk t', (∀ b, b ≠ D → h'.get? b = s.heap.get? b) → R (.ok (.ret (.str ⟨(cat l ++ subOut nx ln x.cps rp.cps.toList k d).toArray⟩ t'))) { s with heap := h', toks := tk })
  | 0, d, n, l, hk, hd, hl, hp => by omega
  | k + 1, d, n, l, hk, hd, hl, hp => fun prog w A R s ⟨pt, hT, hD, hR⟩ => by
    have hsl : (1000 : Nat) ≤ sizeLine := by decide
    unfold Builtin.«re.Pattern.sub.loop»
    refine wpAny_bind (whole_target pt ?_)
    refine wpAny_bind (wpAny_of_eq (a := ()) rfl ?_)
    show wpAny _ _ (reNextFound _ d false >>= _) _ _ s
    refine wpAny_bind (next_found (nx := nx) (ln := ln) S rfl rfl hd ?_)
    cases e : nx d with
    | none =>
      show wpAny _ _ (if d < x.cps.size then (reSlice x.cps 0 d x.cps.size >>= fun v => updateSeq D (fun a => a.push v) >>= fun _ => (reSlice x.cps 0 0 0 >>= fun joiner => seqItems? (.ref D) >>= fun o => if (o.getD #[]).isEmpty = true then (pure joiner >>= fun text => ret text) else (call (.builtin "str.join") [joiner, .ref D] >>= fun text => ret text)))
        else (reSlice x.cps 0 0 0 >>= fun joiner => seqItems? (.ref D) >>= fun o => if (o.getD #[]).isEmpty = true then (pure joiner >>= fun text => ret text) else (call (.builtin "str.join") [joiner, .ref D] >>= fun text => ret text))) _ _ s
      have eo : subOut nx ln x.cps rp.cps.toList (k + 1) d = (x.cps.extract d x.cps.size).toList := by rw [subOut, e]
      by_cases hlt : d < x.cps.size
      · rw [if_pos hlt]
        show wpAny _ _ (mkStr ⟨x.cps.extract d x.cps.size⟩ >>= _) _ _ _
        refine wpAny_bind (wpAny_mkStr ?_ (Nat.le_trans (ext_le _ _ _) (by omega)))
        refine wpAny_bind (upd_push hD (by omega) fun h' hD' hb => ?_)
        refine fin_join hD' (fun p hp' => ?_) (by simp; omega) fun tk t' => ?_
        · rcases List.mem_append.mp hp' with q | q
          · exact hp p q
          · have : p = (⟨x.cps.extract d x.cps.size⟩, s.toks) := by simpa using q
            rw [this]; exact Nat.le_trans (ext_le _ _ _) hx
        · have := hR h' tk t' hb
          rw [eo] at this
          rw [cat_snoc]; exact this
      · rw [if_neg hlt]
        refine fin_join hD hp (by omega) fun tk t' => ?_
        have := hR s.heap tk t' fun _ _ => rfl
        have e2 : (x.cps.extract d x.cps.size).toList = [] := by simp; omega
        rw [eo, e2, List.append_nil] at this
        exact this
    | some j =>
      intro r hr1 hr2
      obtain ⟨hj1, hj2, hj3⟩ := S.ok d j hd e
      subst hr1
      have J : ∀ (l' : List (Str × Tok)) (s' : Shared), l'.length ≤ 2 * d + 1 → (∀ p ∈ l', p.1.cps.size ≤ 200) → s'.heap.PlainList D (strValues l').toArray → (∀ b, b ≠ D → s'.heap.get? b = s.heap.get? b) → (∃ tk, s' = { s with heap := s'.heap, toks := tk }) → cat l' = cat l ++ (x.cps.extract d r.start).toList →
          wpAny (model prog w) A.in1 (updateSeq D (fun a => a.push (.str rp u)) >>= fun _ => (pure (Fin.again (.builtin "re.Pattern.sub.loop" ⟨[.ref P, .str x t, .str rp u, rawInt 0, rawInt 0, rawInt (n + 1), rawInt r.handed, rawInt r.handed, .bool (r.handed == r.start), .ref D, .bool false], []⟩)) : Sem PySem.Fin))
            (fun fin s' => match fin with | .done f => R (.ok f) s' | .again c' => c'.quiet = true ∧ codeAny (model prog w) A c' R s') (fun e s' => R (.error e) s') s' := by
        intro l' s' hl' hp' hD' hb' hs' hcat
        refine wpAny_bind (upd_push hD' (by omega) fun h2 hD2 hb2 => wpAny_pure ?_)
        refine ⟨plainId_quiet plain_sub_loop _, codeAny_builtin entry_sub_loop ?_⟩
        rw [Around.under_plainId plain_sub_loop _]
        have hne : (r.handed == r.start) = false := by rw [hr2]; simp; omega
        rw [hne, show ((n : Int) + 1) = ((n + 1 : Nat) : Int) by push_cast; rfl]
        have hall : ∀ b, b ≠ D → h2.get? b = s.heap.get? b := fun b hb => (hb2 b hb).trans (hb' b hb)
        have pD : P ≠ D := fun q => by
          obtain ⟨o, _, _, _, _, _, h1, h2, _⟩ := pt
          obtain ⟨c, ho⟩ := hD
          rw [q, ho] at h1; cases h1; exact absurd (show Value.type "list" = Value.type "re.Pattern" from h2) (by decide)
        refine sub_loop S hx hrp k r.handed (n + 1) (l' ++ [(rp, u)]) (by omega) (by omega) (by simp; omega) (fun p q => ?_) prog w A R _ ⟨?_, ?_, hD2, fun h' tk t' hb => ?_⟩
        · rcases List.mem_append.mp q with q | q
          · exact hp' p q
          · have : p = (rp, u) := by simpa using q
            rw [this]; exact hrp
        · exact pt.keeps D (fun o ho => by obtain ⟨c, q⟩ := hD; rw [ho] at q; cases q; exact ⟨rfl, _, _, rfl⟩) (fun b hb o ho => (hall b hb).trans ho) hT
        · intro o fs T h1 h2 h3
          exact hT o fs T (by rw [← hall P pD]; exact h1) h2 h3
        · obtain ⟨tk0, e0⟩ := hs'
          have := hR h' tk t' fun b hb' => (hb b hb').trans (hall b hb')
          rw [subOut, e] at this
          rw [cat_snoc, hcat, hr2]
          rw [e0]
          have ea : cat l ++ (x.cps.extract d r.start).toList ++ rp.cps.toList ++ subOut nx ln x.cps rp.cps.toList k (r.start + ln r.start) = cat l ++ ((x.cps.extract d r.start).toList ++ rp.cps.toList ++ subOut nx ln x.cps rp.cps.toList k (r.start + ln r.start)) := by simp
          rw [ea]
          exact this
      show wpAny _ _ (if d < r.start then (reSlice x.cps 0 d r.start >>= fun v => updateSeq D (fun a => a.push v) >>= fun _ => (updateSeq D (fun a => a.push (.str rp u)) >>= fun _ => (pure (Fin.again (.builtin "re.Pattern.sub.loop" ⟨[.ref P, .str x t, .str rp u, rawInt 0, rawInt 0, rawInt (n + 1), rawInt r.handed, rawInt r.handed, .bool (r.handed == r.start), .ref D, .bool false], []⟩)) : Sem PySem.Fin)))
        else (updateSeq D (fun a => a.push (.str rp u)) >>= fun _ => (pure (Fin.again (.builtin "re.Pattern.sub.loop" ⟨[.ref P, .str x t, .str rp u, rawInt 0, rawInt 0, rawInt (n + 1), rawInt r.handed, rawInt r.handed, .bool (r.handed == r.start), .ref D, .bool false], []⟩)) : Sem PySem.Fin))) _ _ s
      by_cases hlt : d < r.start
      · rw [if_pos hlt]
        show wpAny _ _ (mkStr ⟨x.cps.extract d r.start⟩ >>= _) _ _ _
        refine wpAny_bind (wpAny_mkStr ?_ (Nat.le_trans (ext_le _ _ _) (by omega)))
        refine wpAny_bind (upd_push hD (by omega) fun h' hD' hb => ?_)
        refine J _ _ (by simp; omega) (fun p hp' => ?_) hD' hb ⟨_, rfl⟩ (cat_snoc _ _ _)
        rcases List.mem_append.mp hp' with q | q
        · exact hp p q
        · have : p = (⟨x.cps.extract d r.start⟩, s.toks) := by simpa using q
          rw [this]; exact Nat.le_trans (ext_le _ _ _) hx
      · rw [if_neg hlt]
        have e2 : (x.cps.extract d r.start).toList = [] := by simp; omega
        exact J l s (by omega) hp hD (fun _ _ => rfl) ⟨s.toks, rfl⟩ (by rw [e2]; simp)
end Mine
end
section
open PySem PySem.W PySem.Calls PyProof.Rows PySem.Sre PySem.Builtin.Re
set_option maxRecDepth 100000
set_option linter.unusedVariables false
namespace Mine
theorem slot_sub : Slot "re.Pattern" "sub" "re.Pattern.sub" :=
  .of (owner := "re.Pattern") (n := "sub") (by rw [typeLookup_type, builtinLookup_eq_fast]; kernel_rfl) (by decide +kernel) (by decide +kernel) (by decide +kernel)
    (by first | exact .inl (by decide +kernel) | exact .inr (by decide +kernel)) (by rw [isSubtype_type]; kernel_rfl)
theorem type_sub : typeOf (.builtin "re.Pattern.sub") = pure (.type "method_descriptor") := by show builtinType _ = _; rw [builtinType_eq_fast]; kernel_rfl
theorem entry_sub : entryFor table "re.Pattern.sub" = some Builtin.«re.Pattern.sub» := entryFor_of_tree (by kernel_rfl)
theorem owner_pat : Manifest.owners.lookup (String.ofList ['n', 'r', 'e', 't', 't', 'a', 'P', '.', 'e', 'r'].reverse) = some Manifest.sig_re_Pattern := by kernel_rfl
theorem args_sub (a b c : Value) : argsOk "re.Pattern.sub" ⟨[a, b, c], []⟩ := by
  unfold argsOk; rw [signature?_of (id := "re.Pattern.sub") (n := ['b', 'u', 's']) (o := ['n', 'r', 'e', 't', 't', 'a', 'P', '.', 'e', 'r']) (by kernel_rfl) owner_pat]; kernel_rfl
theorem attrs_pat : PlainAttrs "re.Pattern" :=
  ⟨⟨"object.__getattribute__", by rw [typeLookup_type, builtinLookup_eq_fast]; kernel_rfl, by decide +kernel⟩, by rw [typeLookup_type, builtinLookup_eq_fast]; kernel_rfl⟩
theorem str_no_call : typeLookup (.type "str") "__call__" = pure none := by rw [typeLookup_type, builtinLookup_eq_fast]; kernel_rfl
theorem sub_meets {P : Addr} {code : Array Nat} {x rp : Str} {t u : Tok} {nx : Nat → Option Nat} {ln : Nat → Nat} (S : Srch code x.cps nx ln) (hx : x.cps.size ≤ 200) (hrp : rp.cps.size ≤ 200) (h92 : rp.cps.contains 92 = false) :
    Meets (Builtin.«re.Pattern.sub» ⟨[.ref P, .str rp u, .str x t], []⟩)
      (fun A R s => Pat s.heap P code ∧ ∀ h' tk t', (∀ b o, s.heap.get? b = some o → h'.get? b = some o) → R (.ok (.ret (.str ⟨(subOut nx ln x.cps rp.cps.toList (x.cps.size + 1) 0).toArray⟩ t'))) { s with heap := h', toks := tk }) := fun prog w A R s ⟨pt, hR⟩ => by
  unfold Builtin.«re.Pattern.sub» reSubstitute
  refine wpAny_bind (wpAny_of_eq (a := [some (.str rp u), some (.str x t), none]) rfl ?_)
  show wpAny _ _ (pure (0 : Int) >>= _) _ _ s
  refine wpAny_bind (wpAny_pure ?_)
  show wpAny _ _ (specialOf (.str rp u) "__call__" >>= _) _ _ s
  refine wpAny_bind (wpAny_specialOf (typeIs_str s rp u) str_no_call ?_)
  show wpAny _ _ (asStr? (.str rp u) >>= _) _ _ s
  refine wpAny_bind (wpAny_of_eq (a := some rp) rfl ?_)
  show wpAny _ _ (pure (!rp.cps.contains 92) >>= _) _ _ s
  rw [h92]
  refine wpAny_bind (wpAny_pure ?_)
  show wpAny _ _ (pure (Value.str rp u, (0 : Int)) >>= _) _ _ s
  refine wpAny_bind (wpAny_pure ?_)
  show wpAny _ _ (holding [.str rp u] (reWholeTarget (.ref P) (.str x t)) >>= fun _ => (newList [] >>= fun l => (pure (Fin.again (.builtin "re.Pattern.sub.loop" ⟨[.ref P, .str x t, .str rp u, rawInt 0, rawInt 0, rawInt 0, rawInt 0, rawInt 0, .bool false, l, .bool false], []⟩)) : Sem PySem.Fin))) _ _ s
  refine wpAny_bind (wpAny_holding (whole_target pt ?_))
  refine wpAny_bind (wpAny_newList (wpAny_pure ?_) (Nat.zero_le _))
  refine ⟨plainId_quiet plain_sub_loop _, codeAny_builtin entry_sub_loop ?_⟩
  rw [Around.under_plainId plain_sub_loop _]
  have kp : ∀ b o, s.heap.get? b = some o → (s.heap.push { cls := .type "list", data := .seq ([] : List Value).toArray }).get? b = some o := fun b o e => Heap.get?_push_of_some _ e
  refine sub_loop S hx hrp (x.cps.size + 1) 0 0 [] (by omega) (by omega) (by simp) (by simp) prog w A R _ ⟨?_, ?_, ⟨_, Heap.get?_push_size _ rfl⟩, fun h' tk t' hb => ?_⟩
  · obtain ⟨o, fs, T, oT, its, n, h1, h2, h3, h4, h5, h6, h7, h8, h9, h10⟩ := pt
    exact ⟨o, fs, T, oT, its, n, kp _ _ h1, h2, h3, h4, h5, h6, h7, kp _ _ h8, h9, h10⟩
  · intro o fs T h1 h2 h3 hT
    obtain ⟨o', fs', T', oT, its, n, g1, g2, g3, g4, g5, g6, g7, g8, g9, g10⟩ := pt
    have := kp _ _ g1
    rw [h1] at this; cases this
    rw [h2] at g4; cases g4
    rw [h3] at g6; cases g6
    have := Heap.lt_size g8
    rw [hT] at this; exact Nat.lt_irrefl _ this
  · have := hR h' tk t' fun b o e => by
      rw [hb b (Nat.ne_of_lt (Heap.lt_size e))]
      exact kp b o e
    simpa [cat] using this
/-- a pattern's sub with a plain text -/
theorem c_sub {C : Cx} {d : Nat} {ls : LS} {P : Addr} {code : Array Nat} {x rp : Str} {nx : Nat → Option Nat} {ln : Nat → Nat} (pt : Pat C.hb P code) (S : Srch code x.cps nx ln) (hx : x.cps.size ≤ 200) (hrp : rp.cps.size ≤ 200) (h92 : rp.cps.contains 92 = false) :
    CTo C d (.builtin "re.Pattern.sub") [.ref P, .str rp, .str x] [] ls (.str ⟨(subOut nx ln x.cps rp.cps.toList (x.cps.size + 1) 0).toArray⟩) ls := .of fun A s am vs kv Q E hr R hvs hkv K => by
  cases hkv
  cases hvs with
  | cons h1 h2 => cases h2 with
    | cons h2 h3 => cases h3 with
      | cons h3 h4 =>
        cases h4; cases h1; cases h2; cases h3
        have pt' : Pat s.heap P code := by
          obtain ⟨o, fs, T, oT, its, n, h1, h2, h3, h4, h5, h6, h7, h8, h9, h10⟩ := pt
          exact ⟨o, fs, T, oT, its, n, R.old _ _ h1, h2, h3, h4, h5, h6, h7, R.old _ _ h8, h9, h10⟩
        have hT : s.TypeIs (.ref P) "re.Pattern" := by
          obtain ⟨o, fs, T, oT, its, n, h1, h2, h3, h4, h5, h6, h7, h8, h9, h10⟩ := pt'
          exact ⟨o, h1, h2⟩
        refine call_meets slot_sub hT entry_sub (args_sub _ _ _) (sub_meets S hx hrp h92) ⟨pt', fun h' tk t' hk => ?_⟩
        exact K _ h' tk am (Pre.refl _) (Gr.of_keeps hk) (R.keeps hk) (.str _ _)
end Mine
end
section
open PySem PySem.W PySem.Calls PyProof.Rows PySem.Sre PySem.Builtin.Re
set_option maxRecDepth 100000
set_option linter.unusedVariables false
namespace Mine
theorem next1_lt (text : Array Nat) : ∀ (k s j : Nat), s + k = text.size → next1 text k s = some j → j < text.size ∧ s ≤ j
  | 0, s, j, hk, e => by simp [next1] at e
  | k + 1, s, j, hk, e => by
    rw [next1] at e
    by_cases hh : (at1 text s && text.getD s 0 == 46) = true
    · rw [if_pos hh] at e; cases e; exact ⟨by omega, Nat.le_refl _⟩
    · rw [if_neg hh] at e
      have := next1_lt text k (s + 1) j (by omega) e
      exact ⟨this.1, by omega⟩
def N1 (text : Array Nat) (s : Nat) : Option Nat := next1 text (text.size - s) s
def N2 (text : Array Nat) (s : Nat) : Option Nat := next2 text (text.size - s) s
theorem srch1 (text : Array Nat) (h : text.size ≤ 200) : Srch code1 text (N1 text) (fun _ => 1) where
  go := fun s hs => by
    obtain ⟨n, r, hn, hc, ho⟩ := f1 text s hs
    exact ⟨n, r, by omega, hc, ho⟩
  ok := fun s j hs e => by
    have := next1_lt text _ s j (by omega) e
    exact ⟨this.2, Nat.one_pos, by omega⟩
theorem len2_pos (text : Array Nat) (s : Nat) : 0 < len2 text s := by unfold len2; split <;> omega
theorem len2_le (text : Array Nat) (s : Nat) (h : s < text.size) : s + len2 text s ≤ text.size := by
  by_cases q : (text.getD s 0 == 13 && (decide (s + 1 < text.size) && text.getD (s + 1) 0 == 10)) = true
  · have e : len2 text s = 2 := by unfold len2; rw [if_pos q]
    have q2 := (Bool.and_eq_true _ _ ▸ (Bool.and_eq_true _ _ ▸ q).2).1
    have q3 : s + 1 < text.size := of_decide_eq_true q2
    omega
  · have e : len2 text s = 1 := by unfold len2; rw [if_neg q]
    omega
theorem srch2 (text : Array Nat) : Srch code2 text (N2 text) (len2 text) where
  go := fun s hs => by
    obtain ⟨n, r, hn, hc, ho⟩ := f2 text s hs
    exact ⟨n, r, by omega, hc, ho⟩
  ok := fun s j hs e => by
    have := next2_lt text _ s j (by omega) e
    exact ⟨this.2.2, len2_pos _ _, len2_le _ _ this.1⟩
/-! in plain: texts as lists of signs -/
/-- ends of rows made alike -/
def ends : List Nat → List Nat
  | [] => []
  | 13 :: 10 :: r => 13 :: 10 :: ends r
  | 10 :: r => 13 :: 10 :: ends r
  | 13 :: r => 13 :: 10 :: ends r
  | c :: r => c :: ends r
/-- a dot more ahead of a row's dot; b: at a row's beginning -/
def dots : Bool → List Nat → List Nat
  | _, [] => []
  | b, c :: r => (if b && c == 46 then [46, 46] else [c]) ++ dots (c == 10) r
def quoted (l : List Nat) : List Nat := dots true (ends l)
section
variable {nx : Nat → Option Nat} {ln : Nat → Nat} {t : Array Nat} {rp : List Nat}
theorem ext_cons {d j : Nat} (hd : d < t.size) (hj : d + 1 ≤ j) : (t.extract d j).toList = t.getD d 0 :: (t.extract (d + 1) j).toList := by
  have e : t.getD d 0 = t.toList[d]'(by simpa using hd) := by simp [Array.getD, hd]
  rw [Array.toList_extract, Array.toList_extract, e]
  show (t.toList.drop d).take (j - d) = _ :: (t.toList.drop (d + 1)).take (j - (d + 1))
  rw [List.drop_eq_getElem_cons (by simpa using hd), show j - d = (j - (d + 1)) + 1 by omega, List.take_succ_cons]
theorem sub_step {k d : Nat} (hd : d < t.size) (hn : nx d = nx (d + 1)) (hj : ∀ j, nx (d + 1) = some j → d + 1 ≤ j) : subOut nx ln t rp (k + 1) d = t.getD d 0 :: subOut nx ln t rp (k + 1) (d + 1) := by
  rw [subOut, subOut, hn]
  cases e : nx (d + 1) with
  | none => exact ext_cons hd (by omega)
  | some j =>
    show (t.extract d j).toList ++ rp ++ _ = _
    rw [ext_cons hd (hj j e)]
    rfl
theorem sub_hit {k d : Nat} (hn : nx d = some d) : subOut nx ln t rp (k + 1) d = rp ++ subOut nx ln t rp k (d + ln d) := by
  rw [subOut, hn]
  show (t.extract d d).toList ++ rp ++ _ = _
  have : (t.extract d d).toList = [] := by simp
  rw [this]; rfl
theorem sub_end {k d : Nat} (hn : nx d = none) (hd : t.size ≤ d) : subOut nx ln t rp (k + 1) d = [] := by
  rw [subOut, hn]
  simp; omega
end
theorem next_end2 {text : Array Nat} {d : Nat} (h : text.size ≤ d) : N2 text d = none := by unfold N2; rw [show text.size - d = 0 by omega]; rfl
theorem next_end1 {text : Array Nat} {d : Nat} (h : text.size ≤ d) : N1 text d = none := by unfold N1; rw [show text.size - d = 0 by omega]; rfl
theorem drop_cons (t : Array Nat) (d : Nat) (hd : d < t.size) : t.toList.drop d = t.getD d 0 :: t.toList.drop (d + 1) := by
  have e : t.getD d 0 = t.toList[d]'(by simpa using hd) := by simp [Array.getD, hd]
  rw [e, List.drop_eq_getElem_cons (by simpa using hd)]
theorem drop_end (t : Array Nat) (d : Nat) (hd : t.size ≤ d) : t.toList.drop d = [] := by simp; exact hd
theorem ends_13 (r : List Nat) (h : ∀ r', r ≠ 10 :: r') : ends (13 :: r) = 13 :: 10 :: ends r := by
  cases r with
  | nil => simp [ends]
  | cons c r =>
    by_cases hc : c = 10
    · exact absurd (by rw [hc]) (h r)
    · rw [ends]
      intro r' e
      exact absurd (List.cons.inj e).1 hc
theorem ends_other (c : Nat) (r : List Nat) (h1 : c ≠ 10) (h2 : c ≠ 13) : ends (c :: r) = c :: ends r := by
  rw [ends] <;> (intros; simp_all)
theorem sub2_eq (text : Array Nat) : ∀ (m d k : Nat), text.size - d ≤ m → text.size < d + k → d ≤ text.size → subOut (N2 text) (len2 text) text [13, 10] k d = ends (text.toList.drop d)
  | m, d, 0, hm, hk, hd => by omega
  | 0, d, k + 1, hm, hk, hd => by
    rw [sub_end (nx := N2 text) (next_end2 (by omega)) (by omega), drop_end _ _ (by omega)]; rfl
  | m + 1, d, k + 1, hm, hk, hd => by
    by_cases hlt : d < text.size
    · have hnx : N2 text d = if hit2 text d = true then some d else N2 text (d + 1) := by
        unfold N2
        rw [show text.size - d = (text.size - (d + 1)) + 1 by omega, next2]
      by_cases hh : hit2 text d = true
      · rw [sub_hit (nx := N2 text) (by rw [hnx, if_pos hh]), drop_cons _ _ hlt]
        show [13, 10] ++ subOut _ _ text [13, 10] k (d + len2 text d) = _
        have hl := len2_le text d hlt
        have hp := len2_pos text d
        rw [sub2_eq text m (d + len2 text d) k (by omega) (by omega) hl]
        by_cases h13 : (text.getD d 0 == 13) = true
        · have e13 : text.getD d 0 = 13 := by simpa using h13
          by_cases hn : (decide (d + 1 < text.size) && text.getD (d + 1) 0 == 10) = true
          · have e : len2 text d = 2 := by unfold len2; rw [if_pos (by rw [h13, hn]; rfl)]
            simp only [Bool.and_eq_true, decide_eq_true_eq] at hn
            have e10 : text.getD (d + 1) 0 = 10 := by simpa using hn.2
            rw [e, e13, drop_cons _ _ hn.1, e10]
            rw [ends]; rfl
          · have e : len2 text d = 1 := by unfold len2; rw [if_neg (by rw [h13]; simpa using hn)]
            rw [e, e13, ends_13]
            · rfl
            · intro r' q
              by_cases hl1 : d + 1 < text.size
              · rw [drop_cons _ _ hl1] at q
                have q1 := (List.cons.inj q).1
                exact hn (by simp only [Bool.and_eq_true, decide_eq_true_eq]; exact ⟨hl1, by rw [q1]; rfl⟩)
              · rw [drop_end _ _ (by omega)] at q; cases q
        · have h13' : (text.getD d 0 == 13) = false := by simpa using h13
          have h10 : text.getD d 0 = 10 := by
            unfold hit2 at hh
            rw [h13', Bool.or_false] at hh; simpa using hh
          have e : len2 text d = 1 := by unfold len2; rw [if_neg (by rw [h13', Bool.false_and]; decide)]
          rw [e, h10, ends]; rfl
      · have hh' : hit2 text d = false := by simpa using hh
        rw [sub_step (nx := N2 text) hlt (by rw [hnx, if_neg hh]) fun j e => (next2_lt text (text.size - (d + 1)) _ _ (by omega) e).2.2]
        rw [sub2_eq text m (d + 1) (k + 1) (by omega) (by omega) (by omega), drop_cons _ _ hlt]
        unfold hit2 at hh'
        rw [Bool.or_eq_false_iff] at hh'
        rw [ends_other _ _ (by simpa using hh'.1) (by simpa using hh'.2)]
    · rw [sub_end (nx := N2 text) (next_end2 (by omega)) (by omega), drop_end _ _ (by omega)]; rfl
def beg (text : Array Nat) (d : Nat) : Bool := at1 text d
theorem sub1_eq (text : Array Nat) : ∀ (m d k : Nat), text.size - d ≤ m → text.size < d + k → d ≤ text.size → subOut (N1 text) (fun _ => 1) text [46, 46] k d = dots (at1 text d) (text.toList.drop d)
  | m, d, 0, hm, hk, hd => by omega
  | 0, d, k + 1, hm, hk, hd => by
    rw [sub_end (nx := N1 text) (next_end1 (by omega)) (by omega), drop_end _ _ (by omega)]; rfl
  | m + 1, d, k + 1, hm, hk, hd => by
    by_cases hlt : d < text.size
    · have hnx : N1 text d = if (at1 text d && text.getD d 0 == 46) = true then some d else N1 text (d + 1) := by
        unfold N1
        rw [show text.size - d = (text.size - (d + 1)) + 1 by omega, next1]
      have hat : at1 text (d + 1) = (text.getD d 0 == 10) := by
        unfold at1
        rw [show (d + 1 == 0) = false by rfl, Bool.false_or]; rfl
      rw [drop_cons _ _ hlt, dots]
      by_cases hh : (at1 text d && text.getD d 0 == 46) = true
      · rw [sub_hit (nx := N1 text) (by rw [hnx, if_pos hh]), if_pos hh]
        rw [sub1_eq text m (d + 1) k (by omega) (by omega) (by omega), hat]
      · rw [sub_step (nx := N1 text) hlt (by rw [hnx, if_neg hh]) fun j e => (next1_lt text (text.size - (d + 1)) _ _ (by omega) e).2, if_neg hh]
        rw [sub1_eq text m (d + 1) (k + 1) (by omega) (by omega) (by omega), hat]
        rfl
    · rw [sub_end (nx := N1 text) (next_end1 (by omega)) (by omega), drop_end _ _ (by omega)]; rfl
section
variable {C : Cx} {d : Nat} {ls : LS} {P : Addr}
theorem c_sub2 (pt : Pat C.hb P code2) {x rp : Str} (hrp : rp.cps = #[13, 10]) (hx : x.cps.size ≤ 200) : CTo C d (.builtin "re.Pattern.sub") [.ref P, .str rp, .str x] [] ls (.str ⟨(ends x.cps.toList).toArray⟩) ls := by
  have := c_sub (d := d) (ls := ls) (rp := rp) pt (srch2 x.cps) hx (by rw [hrp]; decide) (by rw [hrp]; simp)
  rw [hrp, sub2_eq x.cps x.cps.size 0 _ (by omega) (by omega) (by omega), List.drop_zero] at this
  exact this
theorem c_sub1 (pt : Pat C.hb P code1) {x rp : Str} (hrp : rp.cps = #[46, 46]) (hx : x.cps.size ≤ 200) : CTo C d (.builtin "re.Pattern.sub") [.ref P, .str rp, .str x] [] ls (.str ⟨(dots true x.cps.toList).toArray⟩) ls := by
  have := c_sub (d := d) (ls := ls) (rp := rp) pt (srch1 x.cps hx) hx (by rw [hrp]; decide) (by rw [hrp]; simp)
  rw [hrp, sub1_eq x.cps x.cps.size 0 _ (by omega) (by omega) (by omega), List.drop_zero] at this
  exact this
end
end Mine
end
section
open PySem PySem.W PySem.Calls PyProof.Rows
set_option maxRecDepth 100000
set_option linter.unusedVariables false
set_option maxHeartbeats 4000000
namespace Mine
abbrev KIn (C : Cx) : Prop := (hd.heap_39 C.w.params).In C.hb
def tab : List (Str × Value) := [("insort_right", .ref 40), ("bisect_right", .ref 49), ("bisect_left", .ref 58), ("rgb_to_hsv", .ref 65), ("hsv_to_rgb", .ref 72), ("_twin_re_1", .ref 77), ("_twin_re_2", .ref 82), ("quotedata", .ref 89),
  ("_law_row", .ref 96), ("_law_due_text", .ref 103), ("_law_due_places", .ref 110), ("_law_tint", .ref 117), ("_law_hue", .ref 124), ("_law_wheel", .ref 131), ("_law_by_halves", .ref 138), ("_law_turn", .ref 145), ("_law_by_mixing", .ref 150), ("_law_right", .ref 155)]
def btab : List (Str × Value) := [("max", .builtin "max"), ("min", .builtin "min"), ("len", .builtin "len"), ("sum", .builtin "sum"), ("sorted", .builtin "sorted"), ("range", .type "range"), ("int", .type "int")]
structure G2 (C : Cx) : Prop where
  ok : C.Ok
  k : KIn C
  mg : ∀ x v, tab.lookup x = some v → C.mg x = some v
  mb : ∀ x v, btab.lookup x = some v → C.mg x = none ∧ C.mb x = some v
  crlf : ∃ t, C.mg "CRLF" = some (.str "\r\n" t)
section
variable {C : Cx} {env : Env} {d : Nat} {ρ ρ1 ρ2 : Loc} {ls ls1 ls2 ls3 : LS} {p q r : PV} {ps qs : List PV}
theorem g_glob (g : G2 C) {x : Str} {v : Value} {pos : Pos} (hv : tab.lookup x = some v) (hf : Fix p v) (hk : env.kindOf x = some .globalImplicit) (hd : (x == ("__debug__" : Str)) = false) : ETo C env d (eval (.Name x pos) env) ρ ls p ls := e_glob g.ok (g.mg x v hv) hf hk hd
theorem g_blt (g : G2 C) {x : Str} {v : Value} {pos : Pos} (hv : btab.lookup x = some v) (hf : Fix p v) (hk : env.kindOf x = some .globalImplicit) (hd : (x == ("__debug__" : Str)) = false) : ETo C env d (eval (.Name x pos) env) ρ ls p ls := e_blt g.ok (g.mb x v hv).1 (g.mb x v hv).2 hf hk hd
theorem RTo.to {t : Sem Flow} (h : RTo C env d t ρ ls p ls1) (e : p = q) : RTo C env d t ρ ls q ls1 := e ▸ h
theorem r_ifT {t : Expr} {body rest : List Stmt} {pos : Pos} {b : Bool} (ht : BTo C env d (isTrue t env (eval t env)) ρ ls b ls1) (hb : b = true) (h1 : XTo C env d (execs body env) ρ ls1 (.ret p) ρ1 ls2) : RTo C env d (execs (.If t body [] pos :: rest) env) ρ ls p ls2 :=
  r_if ht (fun _ => h1) fun e => by rw [hb] at e; cases e
theorem r_ifF {t : Expr} {body rest : List Stmt} {pos : Pos} {b : Bool} (ht : BTo C env d (isTrue t env (eval t env)) ρ ls b ls1) (hb : b = false) (h1 : RTo C env d (execs rest env) ρ ls1 p ls2) : RTo C env d (execs (.If t body [] pos :: rest) env) ρ ls p ls2 :=
  r_if (ρ1 := []) ht (fun e => by rw [hb] at e; cases e) fun _ => h1
theorem x_ifT {t : Expr} {body orelse : List Stmt} {pos : Pos} {b : Bool} {f : PF} (ht : BTo C env d (isTrue t env (eval t env)) ρ ls b ls1) (hb : b = true) (h1 : XTo C env d (execs body env) ρ ls1 f ρ1 ls2) : XTo C env d (exec (.If t body orelse pos) env) ρ ls f ρ1 ls2 :=
  x_if ht (fun _ => h1) fun e => by rw [hb] at e; cases e
theorem x_ifF {t : Expr} {body orelse : List Stmt} {pos : Pos} {b : Bool} {f : PF} (ht : BTo C env d (isTrue t env (eval t env)) ρ ls b ls1) (hb : b = false) (h1 : XTo C env d (execs orelse env) ρ ls1 f ρ1 ls2) : XTo C env d (exec (.If t body orelse pos) env) ρ ls f ρ1 ls2 :=
  x_if ht (fun e => by rw [hb] at e; cases e) fun _ => h1
end
def Fn (C : Cx) (fa : Addr) : Prop := ∃ o fd, C.hb.get? fa = some o ∧ o.data = .func fd
section
variable {C : Cx} {env : Env} {d : Nat} {ρ ρ1 ρ2 : Loc} {ls ls1 ls2 ls3 : LS} {p q r : PV} {ps qs : List PV}
theorem e_callF {fn : Str} {fp pos : Pos} {e : Expr} {args : List Expr} {fa : Addr} (hf : ETo C env d (eval (.Name fn fp) env) ρ ls (.ref fa) ls) (hfn : Fn C fa)
    (ha : LTo C env d (spliced (backTo pos (starEach (e :: args) env))) ρ ls ps ls1) (hc : CTo C d (.ref fa) ps [] ls1 p ls2) (he : starEach (e :: args) env = (false, eval e env) :: starEach args env) :
    ETo C env d (eval (.Call (.Name fn fp) (e :: args) [] pos) env) ρ ls p ls2 := by
  obtain ⟨o, fd, h1, h2⟩ := hfn
  exact e_call hf h1 h2 ha hc he
theorem fn65 (g : G2 C) : Fn C 65 := ⟨_, _, g.k _ _ (by with_unfolding_all rfl), by with_unfolding_all rfl⟩
theorem fn72 (g : G2 C) : Fn C 72 := ⟨_, _, g.k _ _ (by with_unfolding_all rfl), by with_unfolding_all rfl⟩
end
end Mine
end
open PySem PySem.W PySem.Calls PyProof.Rows Mine
local macro_rules | `(tactic| walk_at "m-op") => `(tactic| with_reducible first
  | exact o_add_int | exact o_sub_int | exact o_lt_int | exact o_gt_int | exact o_eq_int | exact o_add_flt | exact o_sub_flt | exact o_mul_flt | exact o_eq_flt | exact o_lt_flt | exact o_eq_fi | exact o_gt_fi
  | exact o_is_none | exact o_is_ref _ | exact o_is_int | exact o_and_int | exact o_eq_str | exact o_ne_str
  | exact o_div_flt (by assumption) | exact o_div_flt (by decide +kernel) | exact o_mod_flt (by decide +kernel) | exact o_sub_fi (by assumption) | exact o_mod_int (by decide) | exact o_fdiv_int (by decide) (by decide) | exact o_div_int (by decide) (by assumption) | assumption
  | exact o_muls (by omega) | exact o_rep (by omega) (by omega) | exact o_cat (by (simp only [List.length_append, List.length_replicate, List.length_cons, List.length_nil]; omega)))
local macro_rules | `(tactic| walk_at "m-tail") => `(tactic| first
  | ((with_reducible apply t_tup); (case hn => exact trivial); (case hj => exact rfl); (case hx => exact rfl); (case hlo => decide); (case hhi => decide))
  | ((with_reducible apply t_lstN); (case hn => exact trivial); (case hl => assumption); (case hx => assumption); (case hhi => omega)))
local macro_rules | `(tactic| walk_at "m-env") => `(tactic| (subst_vars; rfl))
local macro_rules | `(tactic| walk_at "m-look") => `(tactic| with_reducible (repeat (first | exact lk_hit _ _ _ | exact lc_hit _ _ _ | exact lz_hit _ _ _ _ | assumption | (apply lk_miss (by simp)) | (apply lc_miss (by simp)) | (apply lz_miss (by simp)))))
local macro_rules | `(tactic| walk_at "m-name") => `(tactic| first
  | ((with_reducible apply e_name); (case hp => walk_at "m-look"); (case hk => walk_at "m-env"); (case hd => exact rfl))
  | ((with_reducible apply e_cell); (case hp => walk_at "m-look"); (case hk => walk_at "m-env"); (case hd => exact rfl))
  | ((with_reducible apply e_free); (case hp => walk_at "m-look"); (case hk => walk_at "m-env"); (case hd => exact rfl); (case hd' => exact rfl))
  | ((with_reducible apply g_glob); (case g => assumption); (case hv => exact rfl); (case hf => first | exact fix_ref _ | exact fix_bi _ | exact fix_ty _); (case hk => walk_at "m-env"); (case hd => exact rfl))
  | ((with_reducible apply g_blt); (case g => assumption); (case hv => exact rfl); (case hf => first | exact fix_ref _ | exact fix_bi _ | exact fix_ty _); (case hk => walk_at "m-env"); (case hd => exact rfl)))
local macro_rules | `(tactic| walk_at "m-asg") => `(tactic| ((with_reducible apply x_assign); (case hk => walk_at "m-env"); (case hs => exact rfl)))
local macro_rules | `(tactic| walk_at "m-args") => `(tactic| first
  | with_reducible exact l_nil
  | ((with_reducible apply l_cons); (case he => exact rfl)))
local macro_rules | `(tactic| walk_at "m-call") => `(tactic| first
  | ((with_reducible apply e_callB); (case hf => walk_at "m-name"); (case he => exact rfl); (case hp => exact rfl))
  | ((with_reducible apply e_callT); (case hf => walk_at "m-name"); (case he => exact rfl); (case hp => exact rfl))
  | ((with_reducible apply e_callF); (case hf => walk_at "m-name"); (case hfn => assumption); (case he => exact rfl)))
local macro_rules | `(tactic| walk_at "m-test") => `(tactic| ((with_reducible apply b_cmp); (case hm => exact rfl)))
local macro_rules | `(tactic| walk_at "m1") => `(tactic| first
  | ((with_reducible show ETo _ _ _ _ _ _ _ _); first
    | with_reducible apply e_bin
    | walk_at "m-name"
    | with_reducible exact e_int | with_reducible exact e_flt | with_reducible exact e_lit (by assumption) | with_reducible exact e_str | with_reducible exact e_none | with_reducible exact e_bool
    | with_reducible apply e_sub
    | with_reducible apply e_tup
    | with_reducible apply e_list
    | walk_at "m-call")
  | ((with_reducible show V2To _ _ _ _ _ _ _ _); first | walk_at "m-op" | walk_at "m-tail")
  | ((with_reducible show RTo _ _ _ _ _ _ _ _); first
    | with_reducible apply r_return
    | ((with_reducible apply r_cons); (case' h1 => walk_at "m-asg")))
  | ((with_reducible show XTo _ _ _ _ _ _ _ _ _); first
    | ((with_reducible apply x_cons); (case' h1 => walk_at "m-asg"))
    | with_reducible exact x_nil
    | with_reducible apply x_ret
    | with_reducible apply x_return
    | walk_at "m-asg")
  | ((with_reducible show LTo _ _ _ _ _ _ _ _); walk_at "m-args")
  | ((with_reducible show BTo _ _ _ _ _ _ _ _); walk_at "m-test")
  | ((with_reducible show CTo _ _ _ _ _ _ _ _); first | with_reducible exact c_max3 | with_reducible exact c_min3 | with_reducible exact c_int_flt (by assumption) | with_reducible assumption))
local macro_rules | `(tactic| walk_at "m-fit") => `(tactic| ((with_reducible show List.length _ ≤ sizeLine); simp only [List.length_cons, List.length_nil]; decide))
local macro_rules | `(tactic| walk_at "m") => `(tactic| ((repeat' walk_at "m1"); (all_goals (try walk_at "m-fit"))))
section
open PySem PySem.W PySem.Calls PyProof.Rows
set_option maxRecDepth 100000
set_option linter.unusedVariables false
set_option maxHeartbeats 4000000
namespace Mine
/-! colorsys -/
theorem rgb_spec {C : Cx} {d : Nat} {ls : LS} (g2 : G2 C) {r g b : UInt64} (hh : Hued r g b) : CTo C (d + 1) (.ref 65) [.flt r, .flt g, .flt b] [] ls (t3 (rgbHue r g b) (rgbSat r g b) (fmax r g b)) ls := by
  refine c_def (xs := ["r", "g", "b"]) g2.ok (g2.k _ _ (by with_unfolding_all rfl)) (by with_unfolding_all rfl) ?hcd (by with_unfolding_all rfl) ?hbind (by rfl) ?hkind (by decide) (by rfl) (by rfl) (by rfl) ?_
  case hcd => exact codeRec_of g2.k (by with_unfolding_all rfl)
  case hbind =>
    intro vs hl
    match vs, hl with
    | [a, b, c], _ => rfl
  case hkind => intro L; rfl
  intro L
  generalize he : callEnvC _ L 65 = env
  have z1 := hh.z1
  have z2 := hh.z2
  walk_at "m"
  with_reducible apply r_ifF
  · walk_at "m"
  · exact hh.ne
  walk_at "m"
  cases h1 : (Float64.cmp r (fmax r g b) == some Ordering.eq) with
  | true =>
    refine RTo.to (p := t3 (Float64.divmod (Float64.div (Float64.sub (rgbC r g b b) (rgbC r g b g)) 0x4018000000000000) 0x3ff0000000000000).2 (Float64.div (rgbR r g b) (fmax r g b)) (fmax r g b)) ?_ (by unfold rgbHue rgbSat rgbH; rw [if_pos h1])
    with_reducible apply r_cons
    · with_reducible apply x_ifT
      · walk_at "m"
      · exact h1
      · walk_at "m"
    · walk_at "m"
  | false =>
    cases h2 : (Float64.cmp g (fmax r g b) == some Ordering.eq) with
    | true =>
      refine RTo.to (p := t3 (Float64.divmod (Float64.div (Float64.sub (Float64.add 0x4000000000000000 (rgbC r g b r)) (rgbC r g b b)) 0x4018000000000000) 0x3ff0000000000000).2 (Float64.div (rgbR r g b) (fmax r g b)) (fmax r g b)) ?_ (by unfold rgbHue rgbSat rgbH; rw [if_neg (by rw [h1]; decide), if_pos h2])
      with_reducible apply r_cons
      · with_reducible apply x_ifF
        · walk_at "m"
        · exact h1
        · with_reducible apply x_cons
          · with_reducible apply x_ifT
            · walk_at "m"
            · exact h2
            · walk_at "m"
          · walk_at "m"
      · walk_at "m"
    | false =>
      refine RTo.to (p := t3 (Float64.divmod (Float64.div (Float64.sub (Float64.add 0x4010000000000000 (rgbC r g b g)) (rgbC r g b r)) 0x4018000000000000) 0x3ff0000000000000).2 (Float64.div (rgbR r g b) (fmax r g b)) (fmax r g b)) ?_ (by unfold rgbHue rgbSat rgbH; rw [if_neg (by rw [h1]; decide), if_neg (by rw [h2]; decide)])
      with_reducible apply r_cons
      · with_reducible apply x_ifF
        · walk_at "m"
        · exact h1
        · with_reducible apply x_cons
          · with_reducible apply x_ifF
            · walk_at "m"
            · exact h2
            · walk_at "m"
          · walk_at "m"
      · walk_at "m"

/-! hsv_to_rgb -/
theorem hsv_spec {C : Cx} {d : Nat} {ls : LS} (g2 : G2 C) {h s v : UInt64} {sg : Bool} {m : Nat} {e : Int} (hs : (Float64.cmp s 0x0000000000000000 == some Ordering.eq) = false) (hd : Float64.decode (Float64.mul h 0x4018000000000000) = .fin sg m e)
    (hb : (Float64.truncOf sg m e).natAbs < 2 ^ 1023) : CTo C (d + 1) (.ref 72) [.flt h, .flt s, .flt v] [] ls (ft (hsvPick ((Float64.truncOf sg m e).fmod 6) (Float64.sub (Float64.mul h 0x4018000000000000) (Float64.ofInt (Float64.truncOf sg m e))) s v)) ls := by
  have h1 : 0 ≤ (Float64.truncOf sg m e).fmod 6 := Int.fmod_nonneg_of_pos _ (by decide)
  have h2 : (Float64.truncOf sg m e).fmod 6 < 6 := Int.fmod_lt_of_pos _ (by decide)
  refine c_def (xs := ["h", "s", "v"]) g2.ok (g2.k _ _ (by with_unfolding_all rfl)) (by with_unfolding_all rfl) ?hcd (by with_unfolding_all rfl) ?hbind (by rfl) ?hkind (by decide) (by rfl) (by rfl) (by rfl) ?_
  case hcd => exact codeRec_of g2.k (by with_unfolding_all rfl)
  case hbind =>
    intro vs hl
    match vs, hl with
    | [a, b, c], _ => rfl
  case hkind => intro L; rfl
  intro L
  generalize he : callEnvC _ L 72 = env
  with_reducible apply r_ifF
  · walk_at "m"
  · exact hs
  walk_at "m"
  generalize (Float64.truncOf sg m e).fmod 6 = i at h1 h2 ⊢
  have hi : i = 0 ∨ i = 1 ∨ i = 2 ∨ i = 3 ∨ i = 4 ∨ i = 5 := by omega
  rcases hi with rfl | rfl | rfl | rfl | rfl | rfl
  · refine RTo.to (p := t3 v (hsvT (Float64.sub (Float64.mul h 0x4018000000000000) (Float64.ofInt (Float64.truncOf sg m e))) s v) (hsvP s v)) ?_ rfl
    with_reducible apply r_ifT
    · walk_at "m"
    · rfl
    · walk_at "m"
  · refine RTo.to (p := t3 (hsvQ (Float64.sub (Float64.mul h 0x4018000000000000) (Float64.ofInt (Float64.truncOf sg m e))) s v) v (hsvP s v)) ?_ rfl
    with_reducible apply r_ifF
    · walk_at "m"
    · rfl
    with_reducible apply r_ifT
    · walk_at "m"
    · rfl
    · walk_at "m"
  · refine RTo.to (p := t3 (hsvP s v) v (hsvT (Float64.sub (Float64.mul h 0x4018000000000000) (Float64.ofInt (Float64.truncOf sg m e))) s v)) ?_ rfl
    with_reducible apply r_ifF
    · walk_at "m"
    · rfl
    with_reducible apply r_ifF
    · walk_at "m"
    · rfl
    with_reducible apply r_ifT
    · walk_at "m"
    · rfl
    · walk_at "m"
  · refine RTo.to (p := t3 (hsvP s v) (hsvQ (Float64.sub (Float64.mul h 0x4018000000000000) (Float64.ofInt (Float64.truncOf sg m e))) s v) v) ?_ rfl
    with_reducible apply r_ifF
    · walk_at "m"
    · rfl
    with_reducible apply r_ifF
    · walk_at "m"
    · rfl
    with_reducible apply r_ifF
    · walk_at "m"
    · rfl
    with_reducible apply r_ifT
    · walk_at "m"
    · rfl
    · walk_at "m"
  · refine RTo.to (p := t3 (hsvT (Float64.sub (Float64.mul h 0x4018000000000000) (Float64.ofInt (Float64.truncOf sg m e))) s v) (hsvP s v) v) ?_ rfl
    with_reducible apply r_ifF
    · walk_at "m"
    · rfl
    with_reducible apply r_ifF
    · walk_at "m"
    · rfl
    with_reducible apply r_ifF
    · walk_at "m"
    · rfl
    with_reducible apply r_ifF
    · walk_at "m"
    · rfl
    with_reducible apply r_ifT
    · walk_at "m"
    · rfl
    · walk_at "m"
  · refine RTo.to (p := t3 v (hsvP s v) (hsvQ (Float64.sub (Float64.mul h 0x4018000000000000) (Float64.ofInt (Float64.truncOf sg m e))) s v)) ?_ rfl
    with_reducible apply r_ifF
    · walk_at "m"
    · rfl
    with_reducible apply r_ifF
    · walk_at "m"
    · rfl
    with_reducible apply r_ifF
    · walk_at "m"
    · rfl
    with_reducible apply r_ifF
    · walk_at "m"
    · rfl
    with_reducible apply r_ifF
    · walk_at "m"
    · rfl
    with_reducible apply r_ifT
    · walk_at "m"
    · rfl
    · walk_at "m"
/-- a colour of the wheel, as its three floats -/
def colF (c : Nat) (n a b : Int) : List UInt64 := (colI c n a b).map fun k => fl k (cE c)
theorem hsv_col {C : Cx} {d : Nat} {ls : LS} (g2 : G2 C) {c : Nat} {n a b : Int} (h : ColOk c n a b) : CTo C (d + 1) (.ref 72) [.flt (fl n c), .flt (fl a 2), .flt (fl b 2)] [] ls (ft (colF c n a b)) ls := by
  obtain ⟨m, e, h1, h2⟩ := h.int
  have ha := h.a
  have hF := h.F
  have z := hsv_spec (d := d) (ls := ls) g2 (h := fl n c) (s := fl a 2) (v := fl b 2) (by
    have e0 : (0x0000000000000000 : UInt64) = fl 0 2 := by decide +kernel
    rw [e0, fl_cmp (fitS (by omega) (by decide)) (fitS (by decide) (by decide)), cmp_eq]
    exact decide_eq_false (by omega)) h1 (by
    rw [h2]
    have : (6 : Nat) < 2 ^ 1023 := Nat.lt_of_lt_of_le (by decide : (6 : Nat) < 2 ^ 3) (Nat.pow_le_pow_right (by decide) (by decide))
    omega)
  rw [h2, h.pick] at z
  exact z
theorem rgb_col {C : Cx} {d : Nat} {ls : LS} (g2 : G2 C) {c : Nat} {n a b x y z : Int} (h : ColOk c n a b) (hx : colI c n a b = [x, y, z]) : CTo C (d + 1) (.ref 65) [.flt (fl x (cE c)), .flt (fl y (cE c)), .flt (fl z (cE c))] [] ls (t3 (fl n c) (fl a 2) (fl b 2)) ls := by
  obtain ⟨h1, h2, h3, h4⟩ := h.back hx
  have z := rgb_spec (d := d) (ls := ls) g2 h1
  rw [h2, h3, h4] at z
  exact z
end Mine
end
section
open PySem PySem.W PySem.Calls PyProof.Rows
set_option maxRecDepth 100000
set_option linter.unusedVariables false
set_option maxHeartbeats 4000000
namespace Mine
theorem hue_spec {C : Cx} {d : Nat} {ls : LS} (g2 : G2 C) {r g b : UInt64} (hh : Hued r g b) : CTo C (d + 2) (.ref 124) [t3 r g b] [] ls (.flt (rgbHue r g b)) ls := by
  refine c_def (xs := ["colour"]) g2.ok (g2.k _ _ (by with_unfolding_all rfl)) (by with_unfolding_all rfl) ?hcd (by with_unfolding_all rfl) ?hbind (by rfl) ?hkind (by decide) (by rfl) (by rfl) (by rfl) ?_
  case hcd => exact codeRec_of g2.k (by with_unfolding_all rfl)
  case hbind =>
    intro vs hl
    match vs, hl with
    | [a], _ => rfl
  case hkind => intro L; rfl
  intro L
  generalize he : callEnvC _ L 124 = env
  have hc := rgb_spec (d := d) (ls := ls) g2 hh
  have hf := fn65 g2
  with_reducible apply r_return
  with_reducible apply e_sub
  · with_reducible apply e_callF
    case hf => walk_at "m-name"
    case hfn => exact hf
    case he => exact rfl
    case hc => exact hc
    case ha => walk_at "m"
  · walk_at "m"
  · walk_at "m"

abbrev fdv (a b : Int) : UInt64 := Float64.ofFrac (decide (a < 0) != decide (b < 0)) a.natAbs b.natAbs
def tintS (place draw : Int) : UInt64 := fdv (1 + (place + draw).fmod 4) 4
def tintV (place draw : Int) : UInt64 := fdv (1 + (place.fdiv 4 + draw).fmod 4) 4
theorem quarter_fin (x : Int) : Float64.isInf (fdv (1 + x.fmod 4) 4) = false := by
  have h1 : 0 ≤ x.fmod 4 := Int.fmod_nonneg_of_pos x (by decide)
  have h2 : x.fmod 4 < 4 := Int.fmod_lt_of_pos x (by decide)
  generalize x.fmod 4 = y at h1 h2
  have : y = 0 ∨ y = 1 ∨ y = 2 ∨ y = 3 := by omega
  rcases this with rfl | rfl | rfl | rfl <;> decide +kernel
theorem tint_spec {C : Cx} {d : Nat} {ls : LS} (g2 : G2 C) {place draw : Int} (hp : Float64.isInf (fdv place 32) = false) : CTo C (d + 1) (.ref 117) [.int place, .int draw] [] ls (t3 (fdv place 32) (tintS place draw) (tintV place draw)) ls := by
  refine c_def (xs := ["place", "draw"]) g2.ok (g2.k _ _ (by with_unfolding_all rfl)) (by with_unfolding_all rfl) ?hcd (by with_unfolding_all rfl) ?hbind (by rfl) ?hkind (by decide) (by rfl) (by rfl) (by rfl) ?_
  case hcd => exact codeRec_of g2.k (by with_unfolding_all rfl)
  case hbind =>
    intro vs hl
    match vs, hl with
    | [a, b], _ => rfl
  case hkind => intro L; rfl
  intro L
  generalize he : callEnvC _ L 117 = env
  have h1 := quarter_fin (place + draw)
  have h2 := quarter_fin (place.fdiv 4 + draw)
  refine RTo.to (p := t3 (fdv place 32) (fdv (1 + (place + draw).fmod 4) 4) (fdv (1 + (place.fdiv 4 + draw).fmod 4) 4)) ?_ rfl
  walk_at "m"
/-! a row -/
def endOf (x : Int) : Str := if (x.fdiv 8).fmod 3 = 0 then "\n" else if (x.fdiv 8).fmod 3 = 1 then "\r" else "\r\n"
abbrev rowP (x : Int) : PV := .tup [.int (x.fmod 2), .int (1 + (x.fdiv 2).fmod 4), .str (endOf x)]
theorem row_spec {C : Cx} {d : Nat} {ls : LS} (g2 : G2 C) (hf : FlatLS ls) {x : Int} : CTo C (d + 1) (.ref 96) [.int x] [] ls (rowP x) ls := by
  refine CTo.drop (X := [[.str "\n", .str "\r", .str "\r\n"]]) ?_ hf rfl (.tup (Flat.cons (.int _) (Flat.cons (.int _) (Flat.cons (.str _) Flat.nil))))
  refine c_def (xs := ["x"]) g2.ok (g2.k _ _ (by with_unfolding_all rfl)) (by with_unfolding_all rfl) ?hcd (by with_unfolding_all rfl) ?hbind (by rfl) ?hkind (by decide) (by rfl) (by rfl) (by rfl) ?_
  case hcd => exact codeRec_of g2.k (by with_unfolding_all rfl)
  case hbind =>
    intro vs hl
    match vs, hl with
    | [a], _ => rfl
  case hkind => intro L; rfl
  intro L
  generalize he : callEnvC _ L 96 = env
  have h1 : 0 ≤ (x.fdiv 8).fmod 3 := Int.fmod_nonneg_of_pos _ (by decide)
  have h2 : (x.fdiv 8).fmod 3 < 3 := Int.fmod_lt_of_pos _ (by decide)
  have hg : ([.str "\n", .str "\r", .str "\r\n"] : List PV)[((x.fdiv 8).fmod 3).toNat]? = some (.str (endOf x)) := by
    unfold endOf
    generalize (x.fdiv 8).fmod 3 = y at h1 h2
    have : y = 0 ∨ y = 1 ∨ y = 2 := by omega
    rcases this with rfl | rfl | rfl <;> rfl
  with_reducible apply r_return
  with_reducible apply e_tup
  case hl => (simp only [List.length_cons, List.length_nil]; decide)
  with_reducible apply l_cons
  case he => exact rfl
  · walk_at "m"
  with_reducible apply l_cons
  case he => exact rfl
  · walk_at "m"
  with_reducible apply l_cons
  case he => exact rfl
  · with_reducible apply e_sub
    · walk_at "m"
    · walk_at "m"
    · with_reducible apply t_lst
      case hn => exact trivial
      case hl => exact List.getElem?_concat_length
      case h0 => exact h1
      case hhi => omega
      case hx => exact hg
  · walk_at "m"
end Mine
end
section
open PySem PySem.W PySem.Calls PyProof.Rows
set_option maxRecDepth 100000
set_option linter.unusedVariables false
set_option maxHeartbeats 4000000
namespace Mine
section
variable {C : Cx} {env : Env} {d : Nat} {ρ ρ1 ρ2 : Loc} {ls ls1 ls2 ls3 : LS} {p q r : PV} {ps qs : List PV}
theorem pat77 (g : G2 C) : Pat C.hb 77 code1 := ⟨_, _, 76, _, _, _, g.k _ _ (by with_unfolding_all rfl), by with_unfolding_all rfl, by with_unfolding_all rfl, by with_unfolding_all rfl, by with_unfolding_all rfl, by with_unfolding_all rfl, by with_unfolding_all rfl, g.k _ _ (by with_unfolding_all rfl), by with_unfolding_all rfl, by with_unfolding_all rfl⟩
theorem pat82 (g : G2 C) : Pat C.hb 82 code2 := ⟨_, _, 81, _, _, _, g.k _ _ (by with_unfolding_all rfl), by with_unfolding_all rfl, by with_unfolding_all rfl, by with_unfolding_all rfl, by with_unfolding_all rfl, by with_unfolding_all rfl, by with_unfolding_all rfl, g.k _ _ (by with_unfolding_all rfl), by with_unfolding_all rfl, by with_unfolding_all rfl⟩
theorem ty_pat {P : Addr} {code : Array Nat} (pt : Pat C.hb P code) : ∀ am h tk v (s : Shared), s.heap = h → Rep C am ls h tk → RV am h (.ref P) v → s.TypeIs v "re.Pattern" ∧ (∀ a, v = .ref a → ∃ ob, h.get? a = some ob ∧ ob.dict = none) := fun am h tk v s e R hv => by
  cases hv
  obtain ⟨o, fs, T, oT, its, n, h1, h2, h3, _⟩ := pt
  subst e
  exact ⟨⟨o, R.old _ _ h1, h2⟩, fun a ea => by cases ea; exact ⟨o, R.old _ _ h1, h3⟩⟩
end
theorem ends_len : ∀ (l : List Nat), (ends l).length ≤ 2 * l.length
  | [] => by simp [ends]
  | c :: r => by
    have ih := ends_len r
    by_cases h1 : c = 10
    · subst h1; rw [ends]; simp; omega
    · by_cases h2 : c = 13
      · subst h2
        cases r with
        | nil => simp [ends]
        | cons e r =>
          by_cases h3 : e = 10
          · subst h3
            have ih2 := ends_len r
            rw [ends]; simp; omega
          · rw [ends_13 _ (by intro r' q; exact h3 (List.cons.inj q).1)]
            simp at ih ⊢; omega
      · rw [ends_other c r h1 h2]; simp; omega
termination_by l => l.length
theorem quote_spec {C : Cx} {d : Nat} {ls : LS} (g2 : G2 C) {x : Str} (hx : x.cps.size ≤ 100) : CTo C (d + 1) (.ref 89) [.str x] [] ls (.str ⟨(quoted x.cps.toList).toArray⟩) ls := by
  refine c_def (xs := ["data"]) g2.ok (g2.k _ _ (by with_unfolding_all rfl)) (by with_unfolding_all rfl) ?hcd (by with_unfolding_all rfl) ?hbind (by rfl) ?hkind (by decide) (by rfl) (by rfl) (by rfl) ?_
  case hcd => exact codeRec_of g2.k (by with_unfolding_all rfl)
  case hbind =>
    intro vs hl
    match vs, hl with
    | [a], _ => rfl
  case hkind => intro L; rfl
  intro L
  generalize he : callEnvC _ L 89 = env
  have hz : (ends x.cps.toList).length ≤ 200 := by
    have := ends_len x.cps.toList
    have e : x.cps.toList.length = x.cps.size := Array.length_toList
    rw [e] at this
    exact Nat.le_trans this (by omega)
  have c2 := c_sub2 (d := d) (ls := ls) (pat82 g2) (x := x) (rp := "\r\n") (by decide +kernel) (by omega)
  have c1 := c_sub1 (d := d) (ls := ls) (pat77 g2) (x := ⟨(ends x.cps.toList).toArray⟩) (rp := "..") (by decide +kernel) (by simpa using hz)
  obtain ⟨tc, hcr⟩ := g2.crlf
  with_reducible apply r_return
  refine e_meth (p := .ref 77) (ls1 := ls) (ls2 := ls) ?_ (ty_pat (pat77 g2)) attrs_pat slot_sub type_sub ?_ c1 rfl rfl rfl rfl rfl
  · walk_at "m"
  refine l_cons (ls1 := ls) ?_ (l_cons (ls1 := ls) ?_ l_nil rfl) rfl
  · walk_at "m"
  refine e_meth (p := .ref 82) (ls1 := ls) (ls2 := ls) ?_ (ty_pat (pat82 g2)) attrs_pat slot_sub type_sub ?_ c2 rfl rfl rfl rfl rfl
  · walk_at "m"
  refine l_cons (ls1 := ls) ?_ (l_cons (ls1 := ls) ?_ l_nil rfl) rfl
  · exact e_glob g2.ok hcr (fix_str _ _) (by walk_at "m-env") rfl
  · walk_at "m"
end Mine
end
section
open PySem PySem.W PySem.Calls PyProof.Rows
set_option maxRecDepth 100000
set_option linter.unusedVariables false
set_option maxHeartbeats 4000000
namespace Mine
theorem mid_of {lo hi : Nat} (h : lo < hi) : ((lo : Int) + (hi : Int)).fdiv 2 = ((lo + hi) / 2 : Nat) := by
  rw [Int.fdiv_eq_ediv_of_nonneg _ (by decide)]; omega
/-- the parts of bisect_right's contract that do not hang on how it is called -/
theorem bisR_core {C : Cx} {d : Nat} {ls : LS} (g2 : G2 C) {n : Nat} {l : List PV} {x : PV} {ka : Addr} {k : Nat} {ps : List PV} (hfn : Fn C ka) (hn : ls[n]? = some l) (hk : k ≤ l.length) (hz : l.length < 2 ^ 60)
    (hkey : ∀ i p, l[i]? = some p → ∃ r, CTo C d (.ref ka) [p] [] ls r ls ∧ V2To C d x r (compareOp .Lt) ls (.bool (decide (k ≤ i))) ls)
    (hps : ps = [.lst n, x] ∨ ps = [.lst n, x, .int 0, .none]) : CTo C (d + 1) (.ref 49) ps [("key", .ref ka)] ls (.int k) ls := by
  refine c_defK (ρ0 := [("a", .lst n), ("x", x), ("lo", .int 0), ("hi", .none), ("key", .ref ka)]) g2.ok (g2.k _ _ (by with_unfolding_all rfl)) (by with_unfolding_all rfl) ?hcd (by with_unfolding_all rfl) ?hbind (by decide) (by simp only [List.map_cons, List.map_nil]; decide) (by simp only [List.map_cons, List.map_nil]; decide) (by rfl) (by rfl) (by rfl) ?_
  case hcd => exact codeRec_of g2.k (by with_unfolding_all rfl)
  case hbind =>
    intro s am vs kv keep hvs hkv
    cases hkv with
    | cons hkey hkv =>
      cases hkv
      rcases hps with rfl | rfl
      · cases hvs with
        | cons h1 hvs => cases hvs with
          | cons h2 hvs =>
            cases hvs
            refine ⟨_, binds_K (fun a o e => keep a o (g2.k a o e)) (by with_unfolding_all rfl) (by with_unfolding_all rfl) (by with_unfolding_all rfl) (by with_unfolding_all rfl) (by with_unfolding_all rfl), ?_⟩
            exact .cons h1 (.cons h2 (.cons (.int _ _) (.cons .none (.cons hkey .nil))))
      · cases hvs with
        | cons h1 hvs => cases hvs with
          | cons h2 hvs => cases hvs with
            | cons h3 hvs => cases hvs with
              | cons h4 hvs =>
                cases hvs
                refine ⟨_, binds_K (fun a o e => keep a o (g2.k a o e)) (by with_unfolding_all rfl) (by with_unfolding_all rfl) (by with_unfolding_all rfl) (by with_unfolding_all rfl) (by with_unfolding_all rfl), ?_⟩
                exact .cons h1 (.cons h2 (.cons h3 (.cons h4 (.cons hkey .nil))))
  intro L
  generalize he : callEnv _ L 49 = env
  with_reducible apply r_ifF
  · walk_at "m"
  · rfl
  with_reducible apply r_cons
  · with_reducible apply x_ifT
    · walk_at "m"
    · rfl
    · with_reducible apply x_cons
      · walk_at "m-asg"
        walk_at "m"
        exact c_len_lst hn (by omega)
      · walk_at "m"
  refine r_consE (P := fun ρ ls1 => ls = ls1 ∧ LK ρ "lo" (.int k)) ?_ ?_
  · refine xe_ifF (ls1 := ls) (b := false) (by walk_at "m") rfl (xe_one ?_)
    refine xe_while (m := l.length) (fun m ρ ls1 => ls = ls1 ∧ ∃ lo hi : Nat, hi - lo = m ∧ lo ≤ k ∧ k ≤ hi ∧ hi ≤ l.length ∧ LK ρ "a" (.lst n) ∧ LK ρ "x" x ∧ LK ρ "lo" (.int lo) ∧ LK ρ "hi" (.int hi) ∧ LK ρ "key" (.ref ka)) ?_ ?_
    · rintro m ρ _ ⟨rfl, lo, hi, hm, h1, h2, h3, l1, l2, l3, l4, l5⟩
      by_cases hlt : lo < hi
      · right
        have hdl : decide ((lo : Int) < (hi : Int)) = true := by simpa using hlt
        refine ⟨BTo.to (b := decide ((lo : Int) < (hi : Int))) (by walk_at "m") hdl, ?_⟩
        have hmid := mid_of hlt
        have hml : (lo + hi) / 2 < l.length := by omega
        have hx : l[(lo + hi) / 2]? = some l[(lo + hi) / 2] := by simp [hml]
        obtain ⟨r, hc, hv⟩ := hkey ((lo + hi) / 2) _ hx
        refine xe_cons (ρ1 := pset ρ "mid" (.int ((lo + hi) / 2 : Nat))) (ls1 := ls) ?_ (xe_one ?_)
        · rw [← hmid]; walk_at "m"
        · by_cases hkm : k ≤ (lo + hi) / 2
          · refine xe_ifT (ls1 := ls) (b := decide (k ≤ (lo + hi) / 2)) ?_ (by simpa using hkm) (XE.of (ρ1 := pset (pset ρ "mid" (.int ((lo + hi) / 2 : Nat))) "hi" (.int ((lo + hi) / 2 : Nat))) (ls1 := ls) (by walk_at "m") ?_)
            · walk_at "m"
            · refine ⟨_, ?_, rfl, lo, (lo + hi) / 2, rfl, h1, hkm, by omega, ?_, ?_, ?_, ?_, ?_⟩
              · omega
              all_goals walk_at "m-look"
          · refine xe_ifF (ls1 := ls) (b := decide (k ≤ (lo + hi) / 2)) ?_ (by simpa using hkm) (XE.of (ρ1 := pset (pset ρ "mid" (.int ((lo + hi) / 2 : Nat))) "lo" (.int (((lo + hi) / 2 : Nat) + 1))) (ls1 := ls) (by walk_at "m") ?_)
            · walk_at "m"
            · exact ⟨_, by omega, rfl, (lo + hi) / 2 + 1, hi, rfl, by omega, h2, h3, by walk_at "m-look", by walk_at "m-look", lk_hit _ _ _, by walk_at "m-look", by walk_at "m-look"⟩
      · left
        have hdl : decide ((lo : Int) < (hi : Int)) = false := by simpa using hlt
        refine ⟨BTo.to (b := decide ((lo : Int) < (hi : Int))) (by walk_at "m") hdl, rfl, ?_⟩
        have : k = lo := by omega
        rw [this]; exact l3
    · exact ⟨rfl, 0, l.length, rfl, Nat.zero_le _, hk, Nat.le_refl _, by walk_at "m-look", by walk_at "m-look", by show LK _ _ (.int 0); walk_at "m-look", by walk_at "m-look", by walk_at "m-look"⟩
  · rintro ρ ls1 ⟨rfl, hlo⟩
    walk_at "m"
/-- the parts of bisect_left's contract that do not hang on how it is called -/
theorem bisL_core {C : Cx} {d : Nat} {ls : LS} (g2 : G2 C) {n : Nat} {l : List PV} {x : PV} {ka : Addr} {k : Nat} {ps : List PV} (hfn : Fn C ka) (hn : ls[n]? = some l) (hk : k ≤ l.length) (hz : l.length < 2 ^ 60)
    (hkey : ∀ i p, l[i]? = some p → ∃ r, CTo C d (.ref ka) [p] [] ls r ls ∧ V2To C d r x (compareOp .Lt) ls (.bool (decide (i < k))) ls)
    (hps : ps = [.lst n, x] ∨ ps = [.lst n, x, .int 0, .none]) : CTo C (d + 1) (.ref 58) ps [("key", .ref ka)] ls (.int k) ls := by
  refine c_defK (ρ0 := [("a", .lst n), ("x", x), ("lo", .int 0), ("hi", .none), ("key", .ref ka)]) g2.ok (g2.k _ _ (by with_unfolding_all rfl)) (by with_unfolding_all rfl) ?hcd (by with_unfolding_all rfl) ?hbind (by decide) (by simp only [List.map_cons, List.map_nil]; decide) (by simp only [List.map_cons, List.map_nil]; decide) (by rfl) (by rfl) (by rfl) ?_
  case hcd => exact codeRec_of g2.k (by with_unfolding_all rfl)
  case hbind =>
    intro s am vs kv keep hvs hkv
    cases hkv with
    | cons hkey hkv =>
      cases hkv
      rcases hps with rfl | rfl
      · cases hvs with
        | cons h1 hvs => cases hvs with
          | cons h2 hvs =>
            cases hvs
            refine ⟨_, binds_K (fun a o e => keep a o (g2.k a o e)) (by with_unfolding_all rfl) (by with_unfolding_all rfl) (by with_unfolding_all rfl) (by with_unfolding_all rfl) (by with_unfolding_all rfl), ?_⟩
            exact .cons h1 (.cons h2 (.cons (.int _ _) (.cons .none (.cons hkey .nil))))
      · cases hvs with
        | cons h1 hvs => cases hvs with
          | cons h2 hvs => cases hvs with
            | cons h3 hvs => cases hvs with
              | cons h4 hvs =>
                cases hvs
                refine ⟨_, binds_K (fun a o e => keep a o (g2.k a o e)) (by with_unfolding_all rfl) (by with_unfolding_all rfl) (by with_unfolding_all rfl) (by with_unfolding_all rfl) (by with_unfolding_all rfl), ?_⟩
                exact .cons h1 (.cons h2 (.cons h3 (.cons h4 (.cons hkey .nil))))
  intro L
  generalize he : callEnv _ L 58 = env
  with_reducible apply r_ifF
  · walk_at "m"
  · rfl
  with_reducible apply r_cons
  · with_reducible apply x_ifT
    · walk_at "m"
    · rfl
    · with_reducible apply x_cons
      · walk_at "m-asg"
        walk_at "m"
        exact c_len_lst hn (by omega)
      · walk_at "m"
  refine r_consE (P := fun ρ ls1 => ls = ls1 ∧ LK ρ "lo" (.int k)) ?_ ?_
  · refine xe_ifF (ls1 := ls) (b := false) (by walk_at "m") rfl (xe_one ?_)
    refine xe_while (m := l.length) (fun m ρ ls1 => ls = ls1 ∧ ∃ lo hi : Nat, hi - lo = m ∧ lo ≤ k ∧ k ≤ hi ∧ hi ≤ l.length ∧ LK ρ "a" (.lst n) ∧ LK ρ "x" x ∧ LK ρ "lo" (.int lo) ∧ LK ρ "hi" (.int hi) ∧ LK ρ "key" (.ref ka)) ?_ ?_
    · rintro m ρ _ ⟨rfl, lo, hi, hm, h1, h2, h3, l1, l2, l3, l4, l5⟩
      by_cases hlt : lo < hi
      · right
        have hdl : decide ((lo : Int) < (hi : Int)) = true := by simpa using hlt
        refine ⟨BTo.to (b := decide ((lo : Int) < (hi : Int))) (by walk_at "m") hdl, ?_⟩
        have hmid := mid_of hlt
        have hml : (lo + hi) / 2 < l.length := by omega
        have hx : l[(lo + hi) / 2]? = some l[(lo + hi) / 2] := by simp [hml]
        obtain ⟨r, hc, hv⟩ := hkey ((lo + hi) / 2) _ hx
        refine xe_cons (ρ1 := pset ρ "mid" (.int ((lo + hi) / 2 : Nat))) (ls1 := ls) ?_ (xe_one ?_)
        · rw [← hmid]; walk_at "m"
        · by_cases hkm : (lo + hi) / 2 < k
          · refine xe_ifT (ls1 := ls) (b := decide ((lo + hi) / 2 < k)) ?_ (by simpa using hkm) (XE.of (ρ1 := pset (pset ρ "mid" (.int ((lo + hi) / 2 : Nat))) "lo" (.int (((lo + hi) / 2 : Nat) + 1))) (ls1 := ls) (by walk_at "m") ?_)
            · walk_at "m"
            · exact ⟨_, by omega, rfl, (lo + hi) / 2 + 1, hi, rfl, by omega, h2, h3, by walk_at "m-look", by walk_at "m-look", lk_hit _ _ _, by walk_at "m-look", by walk_at "m-look"⟩
          · refine xe_ifF (ls1 := ls) (b := decide ((lo + hi) / 2 < k)) ?_ (by simpa using hkm) (XE.of (ρ1 := pset (pset ρ "mid" (.int ((lo + hi) / 2 : Nat))) "hi" (.int ((lo + hi) / 2 : Nat))) (ls1 := ls) (by walk_at "m") ?_)
            · walk_at "m"
            · exact ⟨_, by omega, rfl, lo, (lo + hi) / 2, rfl, h1, by omega, by omega, by walk_at "m-look", by walk_at "m-look", by walk_at "m-look", by walk_at "m-look", by walk_at "m-look"⟩
      · left
        have hdl : decide ((lo : Int) < (hi : Int)) = false := by simpa using hlt
        refine ⟨BTo.to (b := decide ((lo : Int) < (hi : Int))) (by walk_at "m") hdl, rfl, ?_⟩
        have : k = lo := by omega
        rw [this]; exact l3
    · exact ⟨rfl, 0, l.length, rfl, Nat.zero_le _, hk, Nat.le_refl _, by walk_at "m-look", by walk_at "m-look", by show LK _ _ (.int 0); walk_at "m-look", by walk_at "m-look", by walk_at "m-look"⟩
  · rintro ρ ls1 ⟨rfl, hlo⟩
    walk_at "m"
theorem fn49 {C : Cx} (g : G2 C) : Fn C 49 := ⟨_, _, g.k _ _ (by with_unfolding_all rfl), by with_unfolding_all rfl⟩
theorem fn58 {C : Cx} (g : G2 C) : Fn C 58 := ⟨_, _, g.k _ _ (by with_unfolding_all rfl), by with_unfolding_all rfl⟩
theorem fn40 {C : Cx} (g : G2 C) : Fn C 40 := ⟨_, _, g.k _ _ (by with_unfolding_all rfl), by with_unfolding_all rfl⟩
theorem e_callKF {C : Cx} {env : Env} {d : Nat} {ρ : Loc} {ls ls1 ls2 ls3 : LS} {p : PV} {ps qs : List PV} {fn : Str} {fp pos : Pos} {e : Expr} {args : List Expr} {kws : List Keyword} {fa : Addr} {xs : List Str} (hf : ETo C env d (eval (.Name fn fp) env) ρ ls (.ref fa) ls) (hfn : Fn C fa)
    (ha : LTo C env d (spliced (backTo pos (starEach (e :: args) env))) ρ ls ps ls1) (hk : LTo C env d (evalAll ((backToKw pos (keywordEach kws env)).map (·.2))) ρ ls1 qs ls2) (hx : (backToKw pos (keywordEach kws env)).filterMap (·.1) = xs)
    (hall : (backToKw pos (keywordEach kws env)).all (·.1.isSome) = true) (hc : CTo C d (.ref fa) ps (xs.zip qs) ls2 p ls3) (he : backTo pos (starEach (e :: args) env) = (false, eval e env) :: backTo pos (starEach args env)) :
    ETo C env d (eval (.Call (.Name fn fp) (e :: args) kws pos) env) ρ ls p ls3 := by
  obtain ⟨o, fd, h1, h2⟩ := hfn
  exact e_callK hf h1 h2 ha hk hx hall hc he
theorem insR_spec {C : Cx} {d : Nat} {ls : LS} (g2 : G2 C) {n : Nat} {l : List PV} {x kx : PV} {ka : Addr} {k : Nat} (hfn : Fn C ka) (hn : ls[n]? = some l) (hk : k ≤ l.length) (hz : l.length ≤ 10000)
    (hkx : CTo C (d + 1) (.ref ka) [x] [] ls kx ls)
    (hkey : ∀ i p, l[i]? = some p → ∃ r, CTo C d (.ref ka) [p] [] ls r ls ∧ V2To C d kx r (compareOp .Lt) ls (.bool (decide (k ≤ i))) ls) :
    CTo C (d + 2) (.ref 40) [.lst n, x] [("key", .ref ka)] ls .none (ls.set n (ins l k x)) := by
  refine c_defK (ρ0 := [("a", .lst n), ("x", x), ("lo", .int 0), ("hi", .none), ("key", .ref ka)]) g2.ok (g2.k _ _ (by with_unfolding_all rfl)) (by with_unfolding_all rfl) ?hcd (by with_unfolding_all rfl) ?hbind (by decide) (by simp only [List.map_cons, List.map_nil]; decide) (by simp only [List.map_cons, List.map_nil]; decide) (by rfl) (by rfl) (by rfl) ?_
  case hcd => exact codeRec_of g2.k (by with_unfolding_all rfl)
  case hbind =>
    intro s am vs kv keep hvs hkv
    cases hkv with
    | cons hkey hkv =>
      cases hkv
      cases hvs with
      | cons h1 hvs => cases hvs with
        | cons h2 hvs =>
          cases hvs
          refine ⟨_, binds_K (fun a o e => keep a o (g2.k a o e)) (by with_unfolding_all rfl) (by with_unfolding_all rfl) (by with_unfolding_all rfl) (by with_unfolding_all rfl) (by with_unfolding_all rfl), ?_⟩
          exact .cons h1 (.cons h2 (.cons (.int _ _) (.cons .none (.cons hkey .nil))))
  intro L
  generalize he : callEnv _ L 40 = env
  have hf := fn49 g2
  have hs : (10000 : Nat) ≤ sizeLine := by decide
  have hb := bisR_core (d := d) (x := kx) g2 hfn hn hk (by omega) hkey (.inr rfl)
  with_reducible apply r_cons
  · with_reducible apply x_ifF
    · walk_at "m"
    · rfl
    · with_reducible apply x_cons
      · walk_at "m-asg"
        refine e_callKF (xs := ["key"]) (qs := [.ref ka]) (ps := [.lst n, kx, .int 0, .none]) (ls1 := ls) (ls2 := ls) (p := .int k) (ls3 := ls) ?hf hf ?ha ?hk rfl rfl hb rfl
        case hf => walk_at "m-name"
        case ha => walk_at "m"
        case hk => exact k_cons (ls1 := ls) (by walk_at "m") k_nil
      · walk_at "m"
  refine r_cons (ls1 := ls.set n (ins l k x)) (x_expr (ls1 := ls.set n (ins l k x)) ?_ ?_ rfl) r_nil
  · refine e_meth (p := .lst n) (ls1 := ls) (ls2 := ls) (T := "list") (id := "list.insert") ?_ (ty_lst hn) PySem.F.plainAttrs_list PySem.F.slot_list_insert PySem.F.type_list_insert ?_ (c_insert (p := x) hn (k := (k : Int)) (by omega) (by omega) ?_ (by omega)) rfl rfl rfl rfl rfl
    · walk_at "m"
    · walk_at "m"
    · unfold Builtin.List.listFitsIndex
      simp; omega
  · subst_vars; rfl
end Mine
end
section
open PySem PySem.W PySem.Calls PyProof.Rows
set_option maxRecDepth 100000
set_option linter.unusedVariables false
namespace Mine
/-! law 2 in plain: rows -/
def dt (x : Int) : Int := x.fmod 2
def lt (x : Int) : Int := 1 + (x.fdiv 2).fmod 4
theorem dt_b (x : Int) : 0 ≤ dt x ∧ dt x ≤ 1 := ⟨Int.fmod_nonneg_of_pos x (by decide), Int.lt_add_one_iff.mp (Int.fmod_lt_of_pos x (by decide))⟩
theorem lt_b (x : Int) : 1 ≤ lt x ∧ lt x ≤ 4 := by
  have h1 : 0 ≤ (x.fdiv 2).fmod 4 := Int.fmod_nonneg_of_pos _ (by decide)
  have h2 : (x.fdiv 2).fmod 4 < 4 := Int.fmod_lt_of_pos _ (by decide)
  unfold lt; omega
theorem dtm_b (x : Int) {t : Int} (h0 : 0 ≤ t) (h : t ≤ 2) : 0 ≤ dt x * (1 + t) ∧ dt x * (1 + t) ≤ 3 := by
  have := dt_b x
  have e : dt x = 0 ∨ dt x = 1 := by omega
  rcases e with e | e <;> rw [e] <;> omega
def dueRow (t x : Int) : List Nat := List.replicate (dt x * (1 + t)).toNat 46 ++ List.replicate (lt x).toNat 97 ++ [13, 10]
def dueL (t : Int) : List Int → List Nat
  | [] => []
  | x :: xs => dueRow t x ++ dueL t xs
theorem dueL_snoc (t x : Int) : ∀ xs : List Int, dueL t (xs ++ [x]) = dueL t xs ++ dueRow t x
  | [] => by simp [dueL]
  | y :: xs => by rw [List.cons_append, dueL, dueL_snoc t x xs, dueL, List.append_assoc]
theorem dueRow_len {t : Int} (h0 : 0 ≤ t) (h : t ≤ 2) (x : Int) : (dueRow t x).length ≤ 9 := by
  have h1 := dtm_b x h0 h
  have h2 := lt_b x
  unfold dueRow
  simp only [List.length_append, List.length_replicate, List.length_cons, List.length_nil]
  omega
theorem dueL_len {t : Int} (h0 : 0 ≤ t) (h : t ≤ 2) : ∀ xs : List Int, (dueL t xs).length ≤ 9 * xs.length
  | [] => by simp [dueL]
  | x :: xs => by
    have h1 := dueRow_len h0 h x
    have h2 := dueL_len h0 h xs
    rw [dueL, List.length_append, List.length_cons]; omega
def wid (t x : Int) : Int := dt x * (1 + t) + lt x + 2
theorem wid_b {t : Int} (h0 : 0 ≤ t) (h : t ≤ 2) (x : Int) : 3 ≤ wid t x ∧ wid t x ≤ 9 := by
  have h1 := dtm_b x h0 h
  have h2 := lt_b x
  unfold wid; omega
def sumW (t : Int) : List Int → Int
  | [] => 0
  | x :: xs => wid t x + sumW t xs
theorem sumW_snoc (t x : Int) : ∀ xs : List Int, sumW t (xs ++ [x]) = sumW t xs + wid t x
  | [] => by simp [sumW]
  | y :: xs => by rw [List.cons_append, sumW, sumW_snoc t x xs, sumW]; omega
theorem sumW_b {t : Int} (h0 : 0 ≤ t) (h : t ≤ 2) : ∀ xs : List Int, 0 ≤ sumW t xs ∧ sumW t xs ≤ 9 * xs.length
  | [] => by simp [sumW]
  | x :: xs => by
    have h1 := wid_b h0 h x
    have h2 := sumW_b h0 h xs
    rw [sumW, List.length_cons]; omega
def plc (s : Int) : Int := (s * 5).fmod 32
theorem plc_b (s : Int) : 0 ≤ plc s ∧ plc s < 32 := ⟨Int.fmod_nonneg_of_pos _ (by decide), Int.fmod_lt_of_pos _ (by decide)⟩
def nub1 (acc : List Int) (p : Int) : List Int := if acc.contains p then acc else acc ++ [p]
/-- the places, each once, as the rows come -/
def plcs (t : Int) : List Int → List Int → List Int → List Int
  | acc, _, [] => acc
  | acc, pre, x :: xs => plcs t (nub1 acc (plc (sumW t pre))) (pre ++ [x]) xs
def plcAt (t : Int) (xs : List Int) : Nat → List Int
  | 0 => []
  | i + 1 => nub1 (plcAt t xs i) (plc (sumW t (xs.take i)))
theorem plcAt_len (t : Int) (xs : List Int) : ∀ i, (plcAt t xs i).length ≤ i
  | 0 => by simp [plcAt]
  | i + 1 => by
    have := plcAt_len t xs i
    unfold plcAt nub1
    split <;> simp <;> omega
theorem plcAt_b (t : Int) (xs : List Int) : ∀ i, ∀ p ∈ plcAt t xs i, 0 ≤ p ∧ p < 32
  | 0, p, h => nomatch h
  | i + 1, p, h => by
    unfold plcAt nub1 at h
    split at h
    · exact plcAt_b t xs i p h
    · rcases List.mem_append.mp h with h | h
      · exact plcAt_b t xs i p h
      · have : p = plc (sumW t (xs.take i)) := by simpa using h
        rw [this]; exact plc_b _
theorem plcAt_nd (t : Int) (xs : List Int) : ∀ i, (plcAt t xs i).Nodup
  | 0 => List.nodup_nil
  | i + 1 => by
    have := plcAt_nd t xs i
    unfold plcAt nub1
    split
    · exact this
    · rename_i h
      refine List.nodup_append.mpr ⟨this, by simp, fun a ha b hb e => ?_⟩
      have : b = plc (sumW t (xs.take i)) := by simpa using hb
      rw [← this, ← e] at h
      exact h (by simpa using ha)
/-! sorted -/
def ins1 (p : Int) : List Int → List Int
  | [] => [p]
  | q :: r => if p ≤ q then p :: q :: r else q :: ins1 p r
def isort : List Int → List Int
  | [] => []
  | p :: r => ins1 p (isort r)
theorem ins1_perm (p : Int) : ∀ l : List Int, (ins1 p l).Perm (p :: l)
  | [] => .refl _
  | q :: r => by
    unfold ins1
    split
    · exact .refl _
    · exact ((ins1_perm p r).cons q).trans (.swap p q r)
theorem isort_perm : ∀ l : List Int, (isort l).Perm l
  | [] => .refl _
  | p :: r => (ins1_perm p _).trans ((isort_perm r).cons p)
theorem ins1_sorted (p : Int) : ∀ l : List Int, l.Pairwise (· ≤ ·) → (ins1 p l).Pairwise (· ≤ ·)
  | [], _ => by simp [ins1]
  | q :: r, h => by
    unfold ins1
    rw [List.pairwise_cons] at h
    split
    · rename_i hpq
      rw [List.pairwise_cons, List.pairwise_cons]
      refine ⟨fun a ha => ?_, h⟩
      rcases List.mem_cons.mp ha with rfl | ha
      · exact hpq
      · exact Int.le_trans hpq (h.1 a ha)
    · rename_i hpq
      rw [List.pairwise_cons]
      refine ⟨fun a ha => ?_, ins1_sorted p r h.2⟩
      rcases List.mem_cons.mp ((ins1_perm p r).mem_iff.mp ha) with rfl | ha
      · omega
      · exact h.1 a ha
theorem isort_sorted : ∀ l : List Int, (isort l).Pairwise (· ≤ ·)
  | [] => .nil
  | p :: r => ins1_sorted p _ (isort_sorted r)
theorem sorted_unique : ∀ {a b : List Int}, a.Perm b → a.Pairwise (· ≤ ·) → b.Pairwise (· ≤ ·) → a = b
  | [], b, h, _, _ => (List.nil_perm.mp h).symm
  | x :: a, [], h, _, _ => by have := h.length_eq; simp at this
  | x :: a, y :: b, h, ha, hb => by
    rw [List.pairwise_cons] at ha hb
    have e : x = y := by
      have h1 : x ∈ y :: b := h.mem_iff.mp (by simp)
      have h2 : y ∈ x :: a := h.mem_iff.mpr (by simp)
      rcases List.mem_cons.mp h1 with h1 | h1
      · exact h1
      · rcases List.mem_cons.mp h2 with h2 | h2
        · exact h2.symm
        · exact Int.le_antisymm (ha.1 y h2) (hb.1 x h1)
    subst e
    rw [sorted_unique (List.Perm.cons_inv h) ha.2 hb.2]
theorem isort_unique {l m : List Int} (h : m.Perm l) (hs : m.Pairwise (· ≤ ·)) : m = isort l := sorted_unique (h.trans (isort_perm l).symm) hs (isort_sorted l)
end Mine
end
section
open PySem PySem.W PySem.Calls PyProof.Rows PySem.StrLaws PySem.Builtin PySem.Builtin.Str
set_option maxRecDepth 100000
set_option linter.unusedVariables false
namespace Mine
/-! the split at both signs of a row's end -/
def spl : List Nat → List Nat → List (List Nat)
  | cur, [] => [cur]
  | cur, 13 :: 10 :: r => cur :: spl [] r
  | cur, c :: r => spl (cur ++ [c]) r
def occs : Nat → List Nat → List Nat
  | _, [] => []
  | i, 13 :: 10 :: r => i :: occs (i + 2) r
  | i, c :: r => occs (i + 1) r
theorem crlf_or (l : List Nat) : (∃ r, l = 13 :: 10 :: r) ∨ l = [] ∨ ∃ c r, l = c :: r ∧ (l.take 2 == [13, 10]) = false ∧ (∀ cur, spl cur l = spl (cur ++ [c]) r) ∧ ∀ i, occs i l = occs (i + 1) r := by
  match l with
  | [] => exact .inr (.inl rfl)
  | 13 :: 10 :: r => exact .inl ⟨r, rfl⟩
  | [c] =>
    refine .inr (.inr ⟨c, [], rfl, by simp, fun cur => ?_, fun i => ?_⟩)
    · simp [spl]
    · simp [occs]
  | c :: e :: r =>
    by_cases h : c = 13 ∧ e = 10
    · obtain ⟨rfl, rfl⟩ := h
      exact .inl ⟨r, rfl⟩
    · refine .inr (.inr ⟨c, e :: r, rfl, ?_, fun cur => ?_, fun i => ?_⟩)
      · simp
        intro h1 h2
        exact h ⟨h1, h2⟩
      · rw [spl]
        intro r' h1 h2
        exact h ⟨h1, (List.cons.inj h2).1⟩
      · rw [occs]
        intro r' h1 h2
        exact h ⟨h1, (List.cons.inj h2).1⟩
theorem occ_run (l : List Nat) : ∀ (n : Nat) (rest pre : List Nat) (st : Array Nat × Nat), rest.length = n → l = pre ++ rest → st.fst.size ≤ pre.length → st.snd ≤ pre.length →
    ((forIn (List.range' pre.length (rest.length + 1)) st (occBody (T l) (T [13, 10]) l.length (l.length + 1))).run.fst).toList = st.fst.toList ++ occs pre.length rest := by
  intro n
  induction n using Nat.strongRecOn with
  | _ n ih =>
    intro rest pre st hn hl hs hf
    have hlen : l.length = pre.length + rest.length := by rw [hl]; simp
    have hdrop : (T l).cps.toList.drop pre.length = rest := by rw [hl]; simp [T]
    rw [List.range'_succ, List.forIn_cons]
    rcases crlf_or rest with ⟨r, rfl⟩ | rfl | ⟨c, r, rfl, hne, _, hocc⟩
    · unfold occBody
      rw [if_pos (by
        refine ⟨⟨⟨by omega, hf⟩, ?_⟩, ?_⟩
        · rw [T_len]; simp at hlen ⊢; omega
        · rw [subAt_eq, hdrop]; simp [T, Str.length])]
      rw [show (13 :: 10 :: r).length = (r.length + 1) + 1 from rfl, List.range'_succ]
      rw [pure_bind]
      dsimp only
      rw [List.forIn_cons]
      rw [if_neg (by
        rintro ⟨⟨⟨_, h⟩, _⟩, _⟩
        rw [T_len] at h; simp at h)]
      have z := ih r.length (by subst hn; simp; omega) r (pre ++ [13, 10]) (st.fst.push pre.length, pre.length + (T [13, 10]).length) rfl (by rw [hl]; simp) (by simp; omega) (by rw [T_len]; simp)
      rw [occs]
      have e : (pre ++ [13, 10]).length = pre.length + 1 + 1 := by simp
      rw [e] at z
      refine Eq.trans z ?_
      simp
    · unfold occBody
      rw [if_neg (by
        rintro ⟨⟨_, h⟩, _⟩
        rw [T_len] at h; simp at h hlen; omega)]
      simp [occs]
    · unfold occBody
      rw [if_neg (by
        rintro ⟨_, h⟩
        rw [subAt_eq, hdrop] at h
        rw [T_len] at h
        have h' : ((c :: r).take 2 == [13, 10]) = true := by simpa [T] using h
        rw [hne] at h'; cases h')]
      have z := ih r.length (by subst hn; simp) r (pre ++ [c]) st rfl (by rw [hl]; simp) (by simp; omega) (by simp; omega)
      rw [hocc]
      have e : (pre ++ [c]).length = pre.length + 1 := by simp
      rw [e] at z
      exact z
theorem occ_T (l : List Nat) : occurrences (T l) (T [13, 10]) 0 l.length (l.length + 1) = occs 0 l := by
  rw [occ_eq]
  have z := occ_run l l.length l [] (#[], 0) rfl (by simp) (by simp) (by simp)
  simpa using z
theorem sub_T (l : List Nat) (i j : Nat) : strSub (T l) i j = T ((l.drop i).take (j - i)) := by
  rw [← T_list (strSub (T l) i j), strSub_toList]; rfl
theorem parts_T (l : List Nat) : ∀ (n : Nat) (rest cur pre : List Nat), rest.length = n → l = pre ++ (cur ++ rest) → partsFrom (T l) 2 pre.length (occs (pre.length + cur.length) rest) = (spl cur rest).map T := by
  intro n
  induction n using Nat.strongRecOn with
  | _ n ih =>
    intro rest cur pre hn hl
    rcases crlf_or rest with ⟨r, rfl⟩ | rfl | ⟨c, r, rfl, _, hspl, hocc⟩
    · rw [occs, spl, partsFrom, sub_T]
      have z := ih r.length (by subst hn; simp; omega) r [] (pre ++ (cur ++ [13, 10])) rfl (by rw [hl]; simp)
      have e : (pre ++ (cur ++ [13, 10])).length = pre.length + cur.length + 2 := by simp; omega
      rw [e] at z
      rw [List.map_cons]
      refine congr (congrArg List.cons ?_) z
      rw [hl]; simp
    · rw [occs, spl, partsFrom, sub_T, T_len, hl]
      simp
    · rw [hspl, hocc]
      have z := ih r.length (by subst hn; simp) r (cur ++ [c]) pre rfl (by rw [hl]; simp)
      have e : pre.length + (cur ++ [c]).length = pre.length + cur.length + 1 := by simp; omega
      rw [e] at z
      exact z
theorem split_T (l : List Nat) : Txt.split (T l) (T [13, 10]) = (spl [] l).map T := by
  have z := parts_T l l.length l [] [] rfl (by simp)
  have hpart : partsBetween (T l) (occurrences (T l) (T [13, 10]) 0 (T l).length ((T l).length + 1)) (T [13, 10]).length = (spl [] l).map T := by
    rw [partsBetween_eq, T_len, T_len, occ_T]
    simpa using z
  unfold Txt.split
  by_cases h1 : (decide ((T l).length < (T [13, 10]).length) || decide (Builtin.Str.strKind (T l) < Builtin.Str.strKind (T [13, 10]))) = true
  · rw [if_pos h1]
    have hk : Builtin.Str.strKind (T [13, 10]) = 1 := by decide +kernel
    have h2 : l.length < 2 := by
      rw [hk, T_len, T_len] at h1
      have : ¬ Builtin.Str.strKind (T l) < 1 := by unfold Builtin.Str.strKind; split <;> (try split) <;> omega
      simpa [this] using h1
    match l, h2 with
    | [], _ => rfl
    | [c], _ =>
      have : spl [] [c] = [[c]] := by rw [spl]; simp [spl]; simp
      rw [this]; rfl
  · rw [if_neg h1]
    by_cases h2 : (occurrences (T l) (T [13, 10]) 0 (T l).length ((T l).length + 1)).isEmpty = true
    · rw [if_pos h2]
      have : occurrences (T l) (T [13, 10]) 0 (T l).length ((T l).length + 1) = [] := by simpa using h2
      rw [this, partsBetween_eq, partsFrom, sub_whole] at hpart
      exact hpart
    · rw [if_neg h2]; exact hpart
theorem spl_len : ∀ (n : Nat) (l cur : List Nat), l.length = n → (spl cur l).length ≤ l.length + 1 := by
  intro n
  induction n using Nat.strongRecOn with
  | _ n ih =>
    intro l cur hn
    rcases crlf_or l with ⟨r, rfl⟩ | rfl | ⟨c, r, rfl, _, hspl, _⟩
    · rw [spl]
      have := ih r.length (by subst hn; simp; omega) r [] rfl
      simp; omega
    · simp [spl]
    · rw [hspl]
      have := ih r.length (by subst hn; simp) r (cur ++ [c]) rfl
      simp; omega
theorem c_split_T {C : Cx} {d : Nat} {ls : LS} {l : List Nat} (h : l.length ≤ 1000) : CTo C d (.builtin "str.split") [.str (T l), .str (T [13, 10])] [] ls (.lst ls.length) (ls ++ [(spl [] l).map fun r => .str (T r)]) := by
  have hs : (10000 : Nat) ≤ sizeLine := by decide
  have z := c_split (C := C) (d := d) (ls := ls) (x := T l) (y := T [13, 10]) (by rw [T_len]; rfl) (by rw [T_len]; omega) (by
    rw [partsBetween_eq, T_len, T_len, occ_T]
    have := parts_T l l.length l [] [] rfl (by simp)
    simp at this
    have e : ([13, 10] : List Nat).length = 2 := rfl
    rw [e, this]
    have := spl_len l.length l [] rfl
    simp; omega)
  rw [split_T, List.map_map] at z
  exact z
end Mine
end
section
open PySem PySem.W PySem.Calls PyProof.Rows
set_option maxRecDepth 100000
set_option linter.unusedVariables false
set_option maxHeartbeats 4000000
namespace Mine
theorem rowP_eq (x : Int) : rowP x = .tup [.int (dt x), .int (lt x), .str (endOf x)] := rfl
theorem take_snoc {α : Type} {xs : List α} {i : Nat} {x : α} (h : xs[i]? = some x) : xs.take (i + 1) = xs.take i ++ [x] := by
  rw [List.take_add_one, h]; rfl
theorem rows_at {xs : List Int} {i : Nat} {q : PV} (h : (xs.map rowP)[i]? = some q) : ∃ x, xs[i]? = some x ∧ q = .tup [.int (dt x), .int (lt x), .str (endOf x)] := by
  rw [List.getElem?_map, Option.map_eq_some_iff] at h
  obtain ⟨x, h1, h2⟩ := h
  exact ⟨x, h1, h2.symm⟩
theorem take_le {α : Type} (xs : List α) (i : Nat) : (xs.take i).length ≤ xs.length := by simp; omega
theorem dueText_spec {C : Cx} {d : Nat} {ls : LS} (g2 : G2 C) {n : Nat} {xs : List Int} {t : Int} (hn : ls[n]? = some (xs.map rowP)) (hl : xs.length ≤ 6) (h0 : 0 ≤ t) (ht : t ≤ 2) :
    CTo C (d + 1) (.ref 103) [.lst n, .int t] [] ls (.str (T (dueL t xs))) ls := by
  refine c_def (xs := ["rows", "times"]) g2.ok (g2.k _ _ (by with_unfolding_all rfl)) (by with_unfolding_all rfl) ?hcd (by with_unfolding_all rfl) ?hbind (by rfl) ?hkind (by decide) (by rfl) (by rfl) (by rfl) ?_
  case hcd => exact codeRec_of g2.k (by with_unfolding_all rfl)
  case hbind =>
    intro vs hl
    match vs, hl with
    | [a, b], _ => rfl
  case hkind => intro L; rfl
  intro L
  generalize he : callEnvC _ L 103 = env
  have s0 : Str.ofString "" = T [] := by decide +kernel
  have s1 : Str.ofString "." = T [46] := by decide +kernel
  have s2 : Str.ofString "a" = T [97] := by decide +kernel
  have s3 : Str.ofString "\r\n" = T [13, 10] := by decide +kernel
  walk_at "m"
  refine r_consE (P := fun ρ ls1 => ls = ls1 ∧ LK ρ "text" (.str (T (dueL t (xs.take (xs.map rowP).length)))) ∧ LK ρ "times" (.int t)) ?_ ?_
  · refine xe_for (p := .lst n) (ls1 := ls) (items := xs.map rowP) (fun i ρ ls1 => ls = ls1 ∧ LK ρ "text" (.str (T (dueL t (xs.take i)))) ∧ LK ρ "times" (.int t)) (by walk_at "m") (src_list hn) ⟨rfl, (by show LK _ _ (.str (T [])); walk_at "m-look"), by walk_at "m-look"⟩ ?_ ?_ (fun _ => rfl)
    · rintro i ρ ls1 _ ⟨rfl, _⟩; exact hn
    · rintro i q ρ ls1 hi ⟨rfl, h1, h2⟩
      obtain ⟨x, hx, rfl⟩ := rows_at hi
      have b1 := dtm_b x h0 ht
      have b2 := lt_b x
      have b3 := dueL_len h0 ht (xs.take i)
      have b4 := take_le xs i
      have b5 := dt_b x
      refine ⟨_, a_tup (.cons (a_loc (by walk_at "m-env")) (.cons (a_loc (by walk_at "m-env")) (.cons (a_loc (by walk_at "m-env")) .nil (fun _ => rfl)) (fun _ => rfl)) (fun _ => rfl)), ?_⟩
      rw [take_snoc hx]
      rw [dueL_snoc]
      refine XE.of (ρ1 := pset (pset (pset (pset ρ "dots" (.int (dt x))) "letters" (.int (lt x))) "end" (.str (endOf x))) "text" (.str (T (dueL t (xs.take i) ++ List.replicate (dt x * (1 + t)).toNat 46 ++ List.replicate (lt x).toNat 97 ++ [13, 10])))) (ls1 := ls) ?_ ⟨rfl, ?_, by walk_at "m-look"⟩
      · walk_at "m"
      · unfold dueRow
        rw [← List.append_assoc, ← List.append_assoc]
        walk_at "m-look"
  · rintro ρ ls1 ⟨rfl, h1, h2⟩
    rw [List.length_map, List.take_length] at h1
    walk_at "m"
theorem duePlaces_spec {C : Cx} {d : Nat} {ls : LS} (g2 : G2 C) (hf : FlatLS ls) {n : Nat} {xs : List Int} {t : Int} (hn : ls[n]? = some (xs.map rowP)) (hl : xs.length ≤ 6) (h0 : 0 ≤ t) (ht : t ≤ 2) :
    CTo C (d + 1) (.ref 110) [.lst n, .int t] [] ls (.lst ls.length) (ls ++ [(isort (plcAt t xs xs.length)).map .int]) := by
  refine CTo.keep (X := [(plcAt t xs xs.length).map .int, (isort (plcAt t xs xs.length)).map .int]) (n := ls.length + 1) ?_ hf rfl (by omega) (by simp) ?_
  · refine c_def (xs := ["rows", "times"]) g2.ok (g2.k _ _ (by with_unfolding_all rfl)) (by with_unfolding_all rfl) ?hcd (by with_unfolding_all rfl) ?hbind (by rfl) ?hkind (by decide) (by rfl) (by rfl) (by rfl) ?_
    case hcd => exact codeRec_of g2.k (by with_unfolding_all rfl)
    case hbind =>
      intro vs hl
      match vs, hl with
      | [a, b], _ => rfl
    case hkind => intro L; rfl
    intro L
    generalize he : callEnvC _ L 110 = env
    walk_at "m"
    have hnl : n < ls.length := (List.getElem?_eq_some_iff.mp hn).1
    have hn' : ∀ l, (ls ++ [l])[n]? = some (xs.map rowP) := fun l => by rw [List.getElem?_append_left hnl]; exact hn
    refine r_consE (P := fun ρ ls1 => ls ++ [(plcAt t xs (xs.map rowP).length).map .int] = ls1 ∧ LK ρ "places" (.lst ls.length)) ?_ ?_
    · refine XE.mono (xe_for (p := .lst n) (ls1 := ls ++ [[]]) (items := xs.map rowP) (fun i ρ ls1 => ls ++ [(plcAt t xs i).map .int] = ls1 ∧ LK ρ "places" (.lst ls.length) ∧ LK ρ "start" (.int (sumW t (xs.take i))) ∧ LK ρ "times" (.int t)) (by walk_at "m") (src_list (hn' _)) ⟨rfl, by walk_at "m-look", (by show LK _ _ (.int 0); walk_at "m-look"), by walk_at "m-look"⟩ ?_ ?_ (fun _ => rfl)) fun ρ ls1 h => ⟨h.1, h.2.1⟩
      · rintro i ρ ls1 _ ⟨rfl, _⟩; exact hn' _
      · rintro i q ρ ls1 hi ⟨rfl, h1, h2, h3⟩
        obtain ⟨x, hx, rfl⟩ := rows_at hi
        have b1 := dtm_b x h0 ht
        have b2 := lt_b x
        have b3 := sumW_b h0 ht (xs.take i)
        have b4 := take_le xs i
        have b5 := dt_b x
        have hil : i < xs.length := (List.getElem?_eq_some_iff.mp hx).1
        have b6 := plcAt_len t xs i
        refine ⟨_, a_tup (.cons (a_loc (by walk_at "m-env")) (.cons (a_loc (by walk_at "m-env")) (.cons (a_loc (by walk_at "m-env")) .nil (fun _ => rfl)) (fun _ => rfl)) (fun _ => rfl)), ?_⟩
        rw [take_snoc hx, sumW_snoc]
        have m1 : LK (pset (pset (pset ρ "dots" (.int (dt x))) "letters" (.int (lt x))) "end" (.str (endOf x))) "dots" (.int (dt x)) := by walk_at "m-look"
        have m2 : LK (pset (pset (pset ρ "dots" (.int (dt x))) "letters" (.int (lt x))) "end" (.str (endOf x))) "letters" (.int (lt x)) := by walk_at "m-look"
        have m3 : LK (pset (pset (pset ρ "dots" (.int (dt x))) "letters" (.int (lt x))) "end" (.str (endOf x))) "times" (.int t) := by walk_at "m-look"
        have m4 : LK (pset (pset (pset ρ "dots" (.int (dt x))) "letters" (.int (lt x))) "end" (.str (endOf x))) "start" (.int (sumW t (xs.take i))) := by walk_at "m-look"
        have m5 : LK (pset (pset (pset ρ "dots" (.int (dt x))) "letters" (.int (lt x))) "end" (.str (endOf x))) "places" (.lst ls.length) := by walk_at "m-look"
        generalize pset (pset (pset ρ "dots" (.int (dt x))) "letters" (.int (lt x))) "end" (.str (endOf x)) = ρ' at m1 m2 m3 m4 m5 ⊢
        have hs : (10000 : Nat) ≤ sizeLine := by decide
        have hni := o_notin_int (C := C) (d := d) (ls := ls ++ [(plcAt t xs i).map .int]) (n := ls.length) (ns := plcAt t xs i) (k := (sumW t (xs.take i) * 5).fmod 32) (by simp)
        have hpl : plcAt t xs (i + 1) = nub1 (plcAt t xs i) ((sumW t (xs.take i) * 5).fmod 32) := rfl
        generalize hk : (sumW t (xs.take i) * 5).fmod 32 = k at hni hpl
        refine xe_cons (ρ1 := ρ') (ls1 := ls ++ [(plcAt t xs (i + 1)).map .int]) (x_if (b := !(plcAt t xs i).contains k) (ls1 := ls ++ [(plcAt t xs i).map .int]) ?_ (fun hb => ?_) (fun hb => ?_)) (XE.of (ρ1 := pset ρ' "start" (.int (sumW t (xs.take i) + dt x * (1 + t) + lt x + 2))) (ls1 := ls ++ [(plcAt t xs (i + 1)).map .int]) (by walk_at "m") ⟨rfl, by walk_at "m-look", ?_, by walk_at "m-look"⟩)
        · subst hk; walk_at "m"
        · have e : (ls ++ [(plcAt t xs i).map PV.int] : LS).set ls.length ((plcAt t xs i).map PV.int ++ [PV.int k]) = ls ++ [(plcAt t xs (i + 1)).map PV.int] := by
            have hc : (plcAt t xs i).contains k = false := by simpa using hb
            rw [hpl]; unfold nub1; rw [hc]; simp
          have hap := c_append (C := C) (d := d) (ls := ls ++ [(plcAt t xs i).map .int]) (n := ls.length) (l := (plcAt t xs i).map .int) (p := .int k) (by simp) (by rw [List.length_map]; omega)
          rw [e] at hap
          refine x_cons (x_expr (ls1 := ls ++ [(plcAt t xs (i + 1)).map .int]) ?_ ?_ rfl) x_nil
          · refine e_meth (p := .lst ls.length) (ls1 := ls ++ [(plcAt t xs i).map .int]) (ls2 := ls ++ [(plcAt t xs i).map .int]) (T := "list") (id := "list.append") ?_ (ty_lst (l := (plcAt t xs i).map .int) (by simp)) PySem.F.plainAttrs_list PySem.F.slot_list_append PySem.F.type_list_append ?_ hap rfl rfl rfl rfl rfl
            · walk_at "m"
            · subst hk; walk_at "m"
          · subst_vars; rfl
        · have hc : (plcAt t xs i).contains k = true := by simpa using hb
          have e : plcAt t xs (i + 1) = plcAt t xs i := by rw [hpl]; unfold nub1; rw [hc]; rfl
          rw [e]; exact x_nil
        · have e : sumW t (xs.take i) + wid t x = sumW t (xs.take i) + dt x * (1 + t) + lt x + 2 := by unfold wid; omega
          rw [e]; walk_at "m-look"
    · rintro ρ ls1 ⟨rfl, h1⟩
      rw [List.length_map]
      have hso := c_sorted (C := C) (d := d) (ls := ls ++ [(plcAt t xs xs.length).map .int]) (n := ls.length) (ns := plcAt t xs xs.length) (ms := isort (plcAt t xs xs.length)) (by simp) (by have := plcAt_len t xs xs.length; omega) (fun ns' hp hs => isort_unique hp hs)
      rw [List.length_append, List.length_singleton, List.append_assoc, List.singleton_append] at hso
      walk_at "m"
  · intro x hx
    obtain ⟨y, _, rfl⟩ := List.mem_map.mp hx
    exact .int _
end Mine
end
section
open PySem PySem.W PySem.Calls PyProof.Rows PySem.Float64
set_option maxRecDepth 100000
set_option linter.unusedVariables false
namespace Mine
/-! places in order -/
def cntLt (x : Int) : List Int → Nat
  | [] => 0
  | q :: r => if q < x then cntLt x r + 1 else 0
def cntLe (x : Int) : List Int → Nat
  | [] => 0
  | q :: r => if q ≤ x then cntLe x r + 1 else 0
theorem cntLt_le (x : Int) : ∀ m, cntLt x m ≤ m.length
  | [] => Nat.le_refl _
  | q :: r => by have := cntLt_le x r; unfold cntLt; split <;> simp <;> omega
theorem cntLe_le (x : Int) : ∀ m, cntLe x m ≤ m.length
  | [] => Nat.le_refl _
  | q :: r => by have := cntLe_le x r; unfold cntLe; split <;> simp <;> omega
theorem cntLt_at (x : Int) : ∀ (m : List Int), m.Pairwise (· ≤ ·) → ∀ i q, m[i]? = some q → decide (i < cntLt x m) = decide (q < x)
  | [], _, i, q, h => by simp at h
  | p :: r, hs, i, q, h => by
    rw [List.pairwise_cons] at hs
    unfold cntLt
    cases i with
    | zero =>
      have : p = q := by simpa using h
      subst this
      by_cases hp : p < x
      · rw [if_pos hp, decide_eq_true hp]; simp
      · rw [if_neg hp, decide_eq_false hp]; simp
    | succ i =>
      have h' : r[i]? = some q := by simpa using h
      have ih := cntLt_at x r hs.2 i q h'
      by_cases hp : p < x
      · rw [if_pos hp, ← ih]
        exact decide_eq_decide.mpr (by omega)
      · rw [if_neg hp]
        have := hs.1 q (List.mem_of_getElem? h')
        rw [decide_eq_false (by omega : ¬ q < x)]; simp
theorem cntLe_at (x : Int) : ∀ (m : List Int), m.Pairwise (· ≤ ·) → ∀ i q, m[i]? = some q → decide (cntLe x m ≤ i) = decide (x < q)
  | [], _, i, q, h => by simp at h
  | p :: r, hs, i, q, h => by
    rw [List.pairwise_cons] at hs
    unfold cntLe
    cases i with
    | zero =>
      have : p = q := by simpa using h
      subst this
      by_cases hp : p ≤ x
      · rw [if_pos hp, decide_eq_false (by omega : ¬ x < p)]; simp
      · rw [if_neg hp, decide_eq_true (by omega : x < p)]; simp
    | succ i =>
      have h' : r[i]? = some q := by simpa using h
      have ih := cntLe_at x r hs.2 i q h'
      by_cases hp : p ≤ x
      · rw [if_pos hp, ← ih]
        exact decide_eq_decide.mpr (by omega)
      · rw [if_neg hp]
        have := hs.1 q (List.mem_of_getElem? h')
        rw [decide_eq_true (by omega : x < q)]; simp
theorem ins_sorted (x : Int) : ∀ (m : List Int), m.Pairwise (· ≤ ·) → (m.take (cntLe x m) ++ x :: m.drop (cntLe x m)).Pairwise (· ≤ ·)
  | [], _ => by simp [cntLe]
  | p :: r, hs => by
    have hs' := hs
    rw [List.pairwise_cons] at hs
    unfold cntLe
    by_cases hp : p ≤ x
    · rw [if_pos hp, List.take_succ_cons, List.drop_succ_cons, List.cons_append, List.pairwise_cons]
      refine ⟨fun a ha => ?_, ins_sorted x r hs.2⟩
      rcases List.mem_append.mp ha with ha | ha
      · exact hs.1 a (List.mem_of_mem_take ha)
      · rcases List.mem_cons.mp ha with rfl | ha
        · exact hp
        · exact hs.1 a (List.mem_of_mem_drop ha)
    · rw [if_neg hp]
      show (x :: p :: r).Pairwise _
      rw [List.pairwise_cons]
      refine ⟨fun a ha => ?_, hs'⟩
      rcases List.mem_cons.mp ha with rfl | ha
      · omega
      · have := hs.1 a ha; omega
theorem ins_perm (x : Int) (m : List Int) (k : Nat) : (m.take k ++ x :: m.drop k).Perm (m ++ [x]) := by
  have h1 : (m.take k ++ x :: m.drop k).Perm (x :: (m.take k ++ m.drop k)) := List.perm_middle
  rw [List.take_append_drop] at h1
  exact h1.trans (List.perm_append_comm (l₁ := [x]) (l₂ := m))
theorem ins_isort (x : Int) (acc : List Int) : (isort acc).take (cntLe x (isort acc)) ++ x :: (isort acc).drop (cntLe x (isort acc)) = isort (acc ++ [x]) :=
  isort_unique ((ins_perm x _ _).trans ((isort_perm acc).append_right [x])) (ins_sorted x _ (isort_sorted acc))
/-! a place's colour -/
def sa (D p : Int) : Int := 1 + (p + D).fmod 4
def sb (D p : Int) : Int := 1 + (p.fdiv 4 + D).fmod 4
theorem sa_b (D p : Int) : 1 ≤ sa D p ∧ sa D p ≤ 4 := by
  have h1 : 0 ≤ (p + D).fmod 4 := Int.fmod_nonneg_of_pos _ (by decide)
  have h2 : (p + D).fmod 4 < 4 := Int.fmod_lt_of_pos _ (by decide)
  unfold sa; omega
theorem sb_b (D p : Int) : 1 ≤ sb D p ∧ sb D p ≤ 4 := by
  have h1 : 0 ≤ (p.fdiv 4 + D).fmod 4 := Int.fmod_nonneg_of_pos _ (by decide)
  have h2 : (p.fdiv 4 + D).fmod 4 < 4 := Int.fmod_lt_of_pos _ (by decide)
  unfold sb; omega
theorem colOk5 {p : Int} (D : Int) (h : 0 ≤ p ∧ p < 32) : ColOk 5 p (sa D p) (sb D p) := ⟨by decide, h.1, h.2, sa_b D p, sb_b D p⟩
def colP (D p : Int) : List Int := colI 5 p (sa D p) (sb D p)
def colPF (D p : Int) : List UInt64 := (colP D p).map fun k => fl k (cE 5)
theorem colP_b (D : Int) {p : Int} (h : 0 ≤ p ∧ p < 32) : ∀ x ∈ colP D p, 0 ≤ x ∧ x ≤ 512 := (colOk5 D h).small
theorem colPF_nums (D : Int) {p : Int} (h : 0 ≤ p ∧ p < 32) : Nums (colPF D p) := by
  intro x hx
  obtain ⟨k, hk, rfl⟩ := List.mem_map.mp hx
  have := colP_b D h k hk
  rw [fl_cmp (fitS (by omega) (by decide)) (fitS (by omega) (by decide)), Int.compare_eq_eq.mpr rfl]
theorem feqs_fl {e : Nat} (he : e ≤ 100) : ∀ {l m : List Int}, (∀ x ∈ l, x.natAbs < 2 ^ 50) → (∀ x ∈ m, x.natAbs < 2 ^ 50) → feqs (l.map fun k => fl k e) (m.map fun k => fl k e) = decide (l = m)
  | [], [], _, _ => rfl
  | [], _ :: _, _, _ => rfl
  | _ :: _, [], _, _ => rfl
  | a :: l, b :: m, ha, hb => by
    have ih := feqs_fl he (l := l) (m := m) (fun x hx => ha x (by simp [hx])) (fun x hx => hb x (by simp [hx]))
    show ((cmp (fl a e) (fl b e) == some Ordering.eq) && feqs _ _) = _
    rw [ih, fl_cmp (fitS (ha a (by simp)) he) (fitS (hb b (by simp)) he), cmp_eq, ← Bool.decide_and]
    exact decide_eq_decide.mpr (by simp)
theorem fl_inj {a b : Int} {c : Nat} (fa : Fit a c) (fb : Fit b c) (h : fl a c = fl b c) : a = b := by
  have z := fl_cmp fa fb
  rw [h, fl_cmp fb fb, Int.compare_eq_eq.mpr rfl] at z
  exact Int.compare_eq_eq.mp (Option.some.inj z).symm
theorem colP_inj (D : Int) {p q : Int} (hp : 0 ≤ p ∧ p < 32) (hq : 0 ≤ q ∧ q < 32) (h : colP D p = colP D q) : p = q := by
  obtain ⟨x, y, z, hx⟩ := colI_three 5 p (sa D p) (sb D p)
  have h1 := ((colOk5 D hp).back hx).2.1
  have h2 := ((colOk5 D hq).back (h.symm.trans hx)).2.1
  rw [h1] at h2
  exact fl_inj (fitS (by omega) (by decide)) (fitS (by omega) (by decide)) h2
theorem feqs_col (D : Int) {p q : Int} (hp : 0 ≤ p ∧ p < 32) (hq : 0 ≤ q ∧ q < 32) : feqs (colPF D q) (colPF D p) = decide (q = p) := by
  unfold colPF
  rw [feqs_fl (by decide) (fun x hx => by have := colP_b D hq x hx; omega) (fun x hx => by have := colP_b D hp x hx; omega)]
  exact decide_eq_decide.mpr ⟨fun h => colP_inj D hq hp h, fun h => by rw [h]⟩
theorem any_col (D : Int) {p : Int} (hp : 0 ≤ p ∧ p < 32) : ∀ (m : List Int), (∀ q ∈ m, 0 ≤ q ∧ q < 32) → (m.map (colPF D)).any (fun g => feqs g (colPF D p)) = m.contains p
  | [], _ => rfl
  | q :: m, h => by
    rw [List.map_cons, List.any_cons, List.contains_cons, any_col D hp m (fun x hx => h x (by simp [hx])), feqs_col D hp (h q (by simp))]
    congr 1
    by_cases e : q = p
    · subst e; simp
    · rw [decide_eq_false e]
      have : (p == q) = false := by simpa using fun e' : p = q => e e'.symm
      rw [this]
/-! the rows of what is due -/
def rowTx (t x : Int) : List Nat := List.replicate (dt x * (1 + t)).toNat 46 ++ List.replicate (lt x).toNat 97
theorem spl_plain : ∀ (a cur r : List Nat), (∀ c ∈ a, c ≠ 13) → spl cur (a ++ r) = spl (cur ++ a) r
  | [], cur, r, _ => by simp
  | c :: a, cur, r, h => by
    have hc : c ≠ 13 := h c (by simp)
    have e : spl cur (c :: (a ++ r)) = spl (cur ++ [c]) (a ++ r) := by
      rw [spl]
      intro r' e1 _
      exact hc e1
    rw [List.cons_append, e, spl_plain a (cur ++ [c]) r (fun x hx => h x (by simp [hx]))]
    simp
theorem spl_due (t : Int) : ∀ xs : List Int, spl [] (dueL t xs) = xs.map (rowTx t) ++ [[]]
  | [] => by simp [dueL, spl]
  | x :: xs => by
    have e : dueL t (x :: xs) = rowTx t x ++ (13 :: 10 :: dueL t xs) := by
      rw [dueL]; unfold dueRow rowTx; simp
    rw [e, spl_plain _ _ _ (fun c hc => by
      unfold rowTx at hc
      rcases List.mem_append.mp hc with hc | hc
      · have := (List.mem_replicate.mp hc).2; omega
      · have := (List.mem_replicate.mp hc).2; omega), List.nil_append, spl, spl_due t xs]
    rfl
theorem rowTx_len {t : Int} (h0 : 0 ≤ t) (h : t ≤ 2) (x : Int) : ((rowTx t x).length : Int) + 2 = wid t x := by
  have h1 := dtm_b x h0 h
  have h2 := lt_b x
  unfold rowTx wid
  rw [List.length_append, List.length_replicate, List.length_replicate]
  omega
end Mine
end
section
open PySem PySem.W PySem.Calls PyProof.Rows
set_option maxRecDepth 100000
set_option linter.unusedVariables false
set_option maxHeartbeats 4000000
namespace Mine
section
variable {C : Cx} {env : Env} {d : Nat} {ρ ρ1 ρ2 : Loc} {ls ls1 ls2 ls3 : LS} {p q r : PV} {ps qs : List PV}
theorem e_negc {i : Int} {k : Nat} {pos pos' : Pos} : ETo C env d (eval (.UnaryOp .USub (.Constant (.int i) k pos) pos') env) ρ ls (.int (-i)) ls :=
  .of fun A s am Q E hr R F K => wpAny_UnaryOp (wpAny_Constant_int (PyProof.Rows.neg_int (K _ s.heap _ am (Pre.refl _) (Gr.refl _) R (.int _ _))))
theorem e_sliceE {value : Expr} {lower upper : Option Expr} {pp pos : Pos} {n k : Nat} {l l' : List PV} {ls4 : LS} {lo hi : Option Int} (h1 : ETo C env d (eval value env) ρ ls (.lst n) ls1) (hlo : PTo C env d ρ lower ls1 lo ls2) (hhi : PTo C env d ρ upper ls2 hi ls3) (hn : ls3[n]? = some l) (hz : l.length ≤ sizeLine)
    (ek : ls3.length = k) (e4 : pick l lo hi = l') (e5 : ls3 ++ [l'] = ls4) : ETo C env d (eval (.Subscript value (.Slice lower upper none pp) pos) env) ρ ls (.lst k) ls4 := by
  subst ek e4 e5
  exact e_slice h1 hlo hhi hn hz
theorem pick_init {l : List PV} : pick l none (some (-1)) = l.dropLast := by
  unfold pick kms_lo kms_hi
  simp [List.dropLast_eq_take]
theorem fdv_fl (p : Int) {b : Int} {c : Nat} (h : b = ((2 ^ c : Nat) : Int)) : fdv p b = fl p c := by
  subst h
  have h3 := pw_pos c
  have h2 : ¬ (((2 ^ c : Nat) : Int) < 0) := by omega
  unfold fdv fl
  rw [decide_eq_false h2]
  simp
theorem fl_fin {k : Int} {c : Nat} (f : Fit k c) : Float64.isInf (fl k c) = false := by
  obtain ⟨m, e, h, _⟩ := fl_dec f
  unfold Float64.isInf
  rw [h]
end
theorem tint_col {C : Cx} {d : Nat} {ls : LS} (g2 : G2 C) {p D : Int} (hp : 0 ≤ p ∧ p < 32) : CTo C (d + 1) (.ref 117) [.int p, .int D] [] ls (t3 (fl p 5) (fl (sa D p) 2) (fl (sb D p) 2)) ls := by
  have e := fdv_fl p (b := 32) (c := 5) rfl
  refine (tint_spec g2 (by rw [e]; exact fl_fin (fitS (by omega) (by decide)))).to ?_
  rw [e]
  have e1 : tintS p D = fl (sa D p) 2 := fdv_fl _ rfl
  have e2 : tintV p D = fl (sb D p) 2 := fdv_fl _ rfl
  rw [e1, e2]
theorem hue_col {C : Cx} {d : Nat} {ls : LS} (g2 : G2 C) {p D : Int} (hp : 0 ≤ p ∧ p < 32) : CTo C (d + 2) (.ref 124) [ft (colPF D p)] [] ls (.flt (fl p 5)) ls := by
  obtain ⟨x, y, z, hx⟩ := colI_three 5 p (sa D p) (sb D p)
  obtain ⟨h1, h2, _, _⟩ := (colOk5 D hp).back hx
  have e : colPF D p = [fl x (cE 5), fl y (cE 5), fl z (cE 5)] := by unfold colPF colP; rw [hx]; rfl
  rw [e, ← h2]
  exact hue_spec g2 h1
theorem hsv_place {C : Cx} {d : Nat} {ls : LS} (g2 : G2 C) {p D : Int} (hp : 0 ≤ p ∧ p < 32) : CTo C (d + 1) (.ref 72) [.flt (fl p 5), .flt (fl (sa D p) 2), .flt (fl (sb D p) 2)] [] ls (ft (colPF D p)) ls :=
  hsv_col g2 (colOk5 D hp)
theorem lt_fl {C : Cx} {d : Nat} {ls : LS} {p q : Int} {c : Nat} (hp : p.natAbs < 2 ^ 50) (hq : q.natAbs < 2 ^ 50) (hc : c ≤ 100) : V2To C d (.flt (fl p c)) (.flt (fl q c)) (compareOp .Lt) ls (.bool (decide (p < q))) ls :=
  o_lt_flt.to (by rw [fl_cmp (fitS hp hc) (fitS hq hc), cmp_lt])
theorem fn124 {C : Cx} (g : G2 C) : Fn C 124 := ⟨_, _, g.k _ _ (by with_unfolding_all rfl), by with_unfolding_all rfl⟩
theorem fn117 {C : Cx} (g : G2 C) : Fn C 117 := ⟨_, _, g.k _ _ (by with_unfolding_all rfl), by with_unfolding_all rfl⟩
theorem fn131 {C : Cx} (g : G2 C) : Fn C 131 := ⟨_, _, g.k _ _ (by with_unfolding_all rfl), by with_unfolding_all rfl⟩
/-- the colours of a row of places -/
abbrev cols (D : Int) (m : List Int) : List PV := m.map fun p => ft (colPF D p)
theorem cols_at {D : Int} {m : List Int} {i : Nat} {q : PV} (h : (cols D m)[i]? = some q) : ∃ p, m[i]? = some p ∧ q = ft (colPF D p) := by
  rw [List.getElem?_map, Option.map_eq_some_iff] at h
  obtain ⟨p, h1, h2⟩ := h
  exact ⟨p, h1, h2.symm⟩
theorem ins_cols (D : Int) (m : List Int) (k : Nat) (x : Int) : ins (cols D m) (k : Int) (ft (colPF D x)) = cols D (m.take k ++ x :: m.drop k) := by
  unfold ins cols
  simp [List.map_take, List.map_drop]
theorem insR_col {C : Cx} {d : Nat} {ls : LS} (g2 : G2 C) {n : Nat} {m : List Int} {x D : Int} (hn : ls[n]? = some (cols D m)) (hs : m.Pairwise (· ≤ ·)) (hx : 0 ≤ x ∧ x < 32) (hm : ∀ p ∈ m, 0 ≤ p ∧ p < 32) (hz : m.length ≤ 10000) :
    CTo C (d + 4) (.ref 40) [.lst n, ft (colPF D x)] [("key", .ref 124)] ls .none (ls.set n (cols D (m.take (cntLe x m) ++ x :: m.drop (cntLe x m)))) := by
  have z := insR_spec (d := d + 2) g2 (n := n) (l := cols D m) (x := ft (colPF D x)) (kx := .flt (fl x 5)) (ka := 124) (k := cntLe x m) (fn124 g2) hn (by rw [List.length_map]; exact cntLe_le x m) (by rw [List.length_map]; exact hz) (hue_col g2 hx) (fun i q hq => by
    obtain ⟨p, hp, rfl⟩ := cols_at hq
    have hb := hm p (List.mem_of_getElem? hp)
    refine ⟨.flt (fl p 5), hue_col g2 hb, ?_⟩
    rw [cntLe_at x m hs i p hp]
    exact lt_fl (by omega) (by omega) (by decide))
  rw [ins_cols] at z
  exact z
theorem set_at (ls : LS) (a a' b c : List PV) : (ls ++ [a, b, c]).set ls.length a' = ls ++ [a', b, c] := by simp
theorem cols_ft (D : Int) (m : List Int) : cols D m = (m.map (colPF D)).map ft := by unfold cols; rw [List.map_map]; rfl
theorem notin_col {C : Cx} {d : Nat} {ls : LS} (ok : C.Ok) {n : Nat} {m : List Int} {D x : Int} (hn : ls[n]? = some (cols D m)) (hm : ∀ p ∈ m, 0 ≤ p ∧ p < 32) (hx : 0 ≤ x ∧ x < 32) : V2To C d (ft (colPF D x)) (.lst n) (compareOp .NotIn) ls (.bool (!m.contains x)) ls := by
  rw [cols_ft] at hn
  have z := o_notin_ft (d := d) ok hn (fs := colPF D x) (fun g hg => by
    obtain ⟨p, hp, rfl⟩ := List.mem_map.mp hg
    exact colPF_nums D (hm p hp))
  rw [any_col D hx m hm] at z
  exact z
theorem wheel_spec {C : Cx} {d : Nat} {ls : LS} (g2 : G2 C) (hf : FlatLS ls) {xs : List Int} {t D : Int} (hl : xs.length ≤ 6) (h0 : 0 ≤ t) (ht : t ≤ 2) :
    CTo C (d + 5) (.ref 131) [.str (T (dueL t xs)), .int D] [] ls (.lst ls.length) (ls ++ [cols D (isort (plcAt t xs xs.length))]) := by
  have hdl := dueL_len h0 ht xs
  have hsp := spl_due t xs
  refine CTo.keep (X := [cols D (isort (plcAt t xs xs.length)), (spl [] (dueL t xs)).map fun r => .str (T r), (xs.map (rowTx t)).map fun r => .str (T r)]) (n := ls.length) ?_ hf rfl (by omega) (by simp) ?_
  · refine c_def (xs := ["sent", "draw"]) g2.ok (g2.k _ _ (by with_unfolding_all rfl)) (by with_unfolding_all rfl) ?hcd (by with_unfolding_all rfl) ?hbind (by rfl) ?hkind (by decide) (by rfl) (by rfl) (by rfl) ?_
    case hcd => exact codeRec_of g2.k (by with_unfolding_all rfl)
    case hbind =>
      intro vs hl
      match vs, hl with
      | [a, b], _ => rfl
    case hkind => intro L; rfl
    intro L
    generalize he : callEnvC _ L 131 = env
    have s3 : Str.ofString "\r\n" = T [13, 10] := by decide +kernel
    walk_at "m"
    refine r_consE (P := fun ρ ls1 => ls ++ [cols D (isort (plcAt t xs xs.length)), (spl [] (dueL t xs)).map fun r => .str (T r), (xs.map (rowTx t)).map fun r => .str (T r)] = ls1 ∧ LK ρ "shelf" (.lst ls.length)) ?_ ?_
    · have hnl : ∀ (a b : List PV) m, (ls ++ [m, a, b] : LS)[ls.length]? = some m := fun a b m => by simp
      refine XE.mono (xe_for (p := .lst (ls.length + 2)) (ls1 := ls ++ [[], (spl [] (dueL t xs)).map fun r => .str (T r), (xs.map (rowTx t)).map fun r => .str (T r)]) (items := (xs.map (rowTx t)).map fun r => .str (T r))
        (fun i ρ ls1 => ls ++ [cols D (isort (plcAt t xs i)), (spl [] (dueL t xs)).map fun r => .str (T r), (xs.map (rowTx t)).map fun r => .str (T r)] = ls1 ∧ LK ρ "shelf" (.lst ls.length) ∧ LK ρ "start" (.int (sumW t (xs.take i))) ∧ LK ρ "draw" (.int D)) ?_ (src_list (by simp)) ⟨rfl, by walk_at "m-look", (by show LK _ _ (.int 0); walk_at "m-look"), by walk_at "m-look"⟩ ?_ ?_ (fun _ => rfl)) fun ρ ls1 h => ?_
      · have hc := c_split_T (C := C) (d := d + 4) (ls := ls ++ [[]]) (l := dueL t xs) (by omega)
        rw [List.append_assoc, List.singleton_append, List.length_append, List.length_singleton] at hc
        refine e_sliceE (ls1 := ls ++ [[], (spl [] (dueL t xs)).map fun r => .str (T r)]) (ls2 := ls ++ [[], (spl [] (dueL t xs)).map fun r => .str (T r)]) (ls3 := ls ++ [[], (spl [] (dueL t xs)).map fun r => .str (T r)]) (n := ls.length + 1) (l := (spl [] (dueL t xs)).map fun r => .str (T r)) (l' := (xs.map (rowTx t)).map fun r => .str (T r)) (lo := none) (hi := some (-1)) ?_ .none (.some e_negc) (by simp) ?_ (by simp) (by rw [pick_init, hsp]; simp) (by simp)
        · refine e_meth (p := .str (T (dueL t xs))) (ls1 := ls ++ [[]]) (ls2 := ls ++ [[]]) (T := "str") (id := "str.split") ?_ ty_str PySem.F.plainAttrs_str PySem.F.slot_str_split PySem.F.type_str_split ?_ hc rfl rfl rfl rfl rfl
          · walk_at "m"
          · walk_at "m"
        · rw [hsp]; simp; have hs : (10000 : Nat) ≤ sizeLine := by decide
          omega
      · rintro i ρ ls1 _ ⟨rfl, _⟩; simp
      · rintro i q ρ ls1 hi ⟨rfl, h1, h2, h3⟩
        rw [List.map_map, List.getElem?_map, Option.map_eq_some_iff] at hi
        obtain ⟨x, hx, rfl⟩ := hi
        have b3 := sumW_b h0 ht (xs.take i)
        have b4 := take_le xs i
        have b6 := plcAt_len t xs i
        have hil : i < xs.length := (List.getElem?_eq_some_iff.mp hx).1
        refine ⟨_, a_loc (by walk_at "m-env"), ?_⟩
        rw [take_snoc hx, sumW_snoc]
        have m0 : LK (pset ρ "row" (.str (T (rowTx t x)))) "row" (.str (T (rowTx t x))) := by walk_at "m-look"
        have m3 : LK (pset ρ "row" (.str (T (rowTx t x)))) "draw" (.int D) := by walk_at "m-look"
        have m4 : LK (pset ρ "row" (.str (T (rowTx t x)))) "start" (.int (sumW t (xs.take i))) := by walk_at "m-look"
        have m5 : LK (pset ρ "row" (.str (T (rowTx t x)))) "shelf" (.lst ls.length) := by walk_at "m-look"
        show XE _ _ _ _ (pset ρ "row" (.str (T (rowTx t x)))) _ _ _
        generalize pset ρ "row" (.str (T (rowTx t x))) = ρ' at m0 m3 m4 m5 ⊢
        generalize hA : (spl [] (dueL t xs)).map (fun r => PV.str (T r)) = SA
        generalize hB : (xs.map (rowTx t)).map (fun r => PV.str (T r)) = SB
        have hpb := plc_b (sumW t (xs.take i))
        have hfp : (sumW t (xs.take i) * 5).fmod 32 = plc (sumW t (xs.take i)) := rfl
        generalize hk : plc (sumW t (xs.take i)) = k at hpb hfp
        have hpl : plcAt t xs (i + 1) = nub1 (plcAt t xs i) k := by rw [← hk]; rfl
        have hmb : ∀ p ∈ isort (plcAt t xs i), 0 ≤ p ∧ p < 32 := fun p hp => plcAt_b t xs i p ((isort_perm _).mem_iff.mp hp)
        have hml : (isort (plcAt t xs i)).length ≤ 10000 := by rw [(isort_perm _).length_eq]; omega
        have hn0 : ∀ m, (ls ++ [cols D m, SA, SB] : LS)[ls.length]? = some (cols D m) := fun m => by simp
        have htint : CTo C (d + 4) (.ref 117) [.int ((sumW t (xs.take i) * 5).fmod 32), .int D] [] (ls ++ [cols D (isort (plcAt t xs i)), SA, SB]) (.tup [.flt (fl k 5), .flt (fl (sa D k) 2), .flt (fl (sb D k) 2)]) (ls ++ [cols D (isort (plcAt t xs i)), SA, SB]) := by
          rw [hfp]; exact tint_col g2 hpb
        have hhsv := hsv_place (d := d + 3) (ls := ls ++ [cols D (isort (plcAt t xs i)), SA, SB]) g2 (p := k) (D := D) hpb
        have hni := notin_col (d := d + 4) g2.ok (hn0 (isort (plcAt t xs i))) hmb hpb
        have hco : (isort (plcAt t xs i)).contains k = (plcAt t xs i).contains k := by
          rw [Bool.eq_iff_iff, List.contains_iff_mem, List.contains_iff_mem]; exact (isort_perm _).mem_iff
        rw [hco] at hni
        have hir := insR_col (d := d) g2 (hn0 (isort (plcAt t xs i))) (isort_sorted _) hpb hmb hml
        rw [ins_isort, set_at] at hir
        have hlen := c_len_str (C := C) (d := d + 4) (ls := ls ++ [cols D (isort (plcAt t xs (i + 1))), SA, SB]) (x := T (rowTx t x)) (by rw [T_len]; have := rowTx_len h0 ht x; have := wid_b h0 ht x; omega)
        rw [T_len] at hlen
        have f117 := fn117 g2
        have f72 := fn72 g2
        have f40 := fn40 g2
        refine xe_cons (x_assignT (ps := [.flt (fl k 5), .flt (fl (sa D k) 2), .flt (fl (sb D k) 2)]) (ls1 := ls ++ [cols D (isort (plcAt t xs i)), SA, SB]) ?_ (.cons (a_loc (by walk_at "m-env")) (.cons (a_loc (by walk_at "m-env")) (.cons (a_loc (by walk_at "m-env")) .nil (fun _ => rfl)) (fun _ => rfl)) (fun _ => rfl)) (fun _ => rfl) rfl) ?_
        · walk_at "m"
        have n3 : LK (pset (pset (pset ρ' "hue" (.flt (fl k 5))) "share" (.flt (fl (sa D k) 2))) "value" (.flt (fl (sb D k) 2))) "draw" (.int D) := by walk_at "m-look"
        have n4 : LK (pset (pset (pset ρ' "hue" (.flt (fl k 5))) "share" (.flt (fl (sa D k) 2))) "value" (.flt (fl (sb D k) 2))) "start" (.int (sumW t (xs.take i))) := by walk_at "m-look"
        have n5 : LK (pset (pset (pset ρ' "hue" (.flt (fl k 5))) "share" (.flt (fl (sa D k) 2))) "value" (.flt (fl (sb D k) 2))) "shelf" (.lst ls.length) := by walk_at "m-look"
        have n6 : LK (pset (pset (pset ρ' "hue" (.flt (fl k 5))) "share" (.flt (fl (sa D k) 2))) "value" (.flt (fl (sb D k) 2))) "row" (.str (T (rowTx t x))) := by walk_at "m-look"
        refine xe_cons (ρ1 := pset (pset (pset (pset ρ' "hue" (.flt (fl k 5))) "share" (.flt (fl (sa D k) 2))) "value" (.flt (fl (sb D k) 2))) "colour" (ft (colPF D k))) (ls1 := ls ++ [cols D (isort (plcAt t xs i)), SA, SB]) (by walk_at "m") ?_
        generalize pset (pset (pset ρ' "hue" (.flt (fl k 5))) "share" (.flt (fl (sa D k) 2))) "value" (.flt (fl (sb D k) 2)) = ρ2 at n3 n4 n5 n6 ⊢
        refine xe_cons (ρ1 := pset ρ2 "colour" (ft (colPF D k))) (ls1 := ls ++ [cols D (isort (plcAt t xs (i + 1))), SA, SB]) (x_if (b := !(plcAt t xs i).contains k) (ls1 := ls ++ [cols D (isort (plcAt t xs i)), SA, SB]) ?_ (fun hb => ?_) (fun hb => ?_)) (XE.of (ρ1 := pset (pset ρ2 "colour" (ft (colPF D k))) "start" (.int (sumW t (xs.take i) + ((rowTx t x).length : Int) + 2))) (ls1 := ls ++ [cols D (isort (plcAt t xs (i + 1))), SA, SB]) (by walk_at "m") ⟨rfl, by walk_at "m-look", ?_, by walk_at "m-look"⟩)
        · walk_at "m"
        · have hc : (plcAt t xs i).contains k = false := by simpa using hb
          have e1 : plcAt t xs (i + 1) = plcAt t xs i ++ [k] := by rw [hpl]; unfold nub1; rw [hc]; rfl
          rw [e1]
          refine x_cons (x_expr (ls1 := ls ++ [cols D (isort (plcAt t xs i ++ [k])), SA, SB]) ?_ ?_ rfl) x_nil
          · refine e_callKF (xs := ["key"]) (qs := [.ref 124]) (ps := [.lst ls.length, ft (colPF D k)]) (ls1 := ls ++ [cols D (isort (plcAt t xs i)), SA, SB]) (ls2 := ls ++ [cols D (isort (plcAt t xs i)), SA, SB]) (p := .none) (ls3 := ls ++ [cols D (isort (plcAt t xs i ++ [k])), SA, SB]) ?hf f40 ?ha ?hk rfl rfl hir rfl
            case hf => walk_at "m-name"
            case ha => walk_at "m"
            case hk => exact k_cons (ls1 := ls ++ [cols D (isort (plcAt t xs i)), SA, SB]) (by walk_at "m") k_nil
          · subst_vars; rfl
        · have hc : (plcAt t xs i).contains k = true := by simpa using hb
          have e1 : plcAt t xs (i + 1) = plcAt t xs i := by rw [hpl]; unfold nub1; rw [hc]; rfl
          rw [e1]; exact x_nil
        · have e1 : sumW t (xs.take i) + wid t x = sumW t (xs.take i) + ((rowTx t x).length : Int) + 2 := by have := rowTx_len h0 ht x; omega
          rw [e1]; walk_at "m-look"
      · rw [List.length_map, List.length_map] at h
        exact ⟨h.1, h.2.1⟩
    · rintro ρ ls1 ⟨rfl, h1⟩
      walk_at "m"
  · intro x hx
    obtain ⟨p, _, rfl⟩ := List.mem_map.mp hx
    refine .tup fun y hy => ?_
    obtain ⟨u, _, rfl⟩ := List.mem_map.mp hy
    exact .flt _
end Mine
end
section
open PySem PySem.W PySem.Calls PyProof.Rows
set_option maxRecDepth 100000
set_option linter.unusedVariables false
set_option maxHeartbeats 4000000
namespace Mine
theorem turn_raw {C : Cx} {d : Nat} {ls : LS} (g2 : G2 C) (a0 a1 a2 b0 b1 b2 : UInt64) : CTo C (d+1) (.ref 145) [ft [a0, a1, a2], ft [b0, b1, b2]] [] ls (.flt (Float64.add (Float64.add (Float64.sub (Float64.mul a1 b2) (Float64.mul a2 b1)) (Float64.sub (Float64.mul a2 b0) (Float64.mul a0 b2))) (Float64.sub (Float64.mul a0 b1) (Float64.mul a1 b0)))) ls := by
  refine c_def (xs := ["one", "two"]) g2.ok (g2.k _ _ (by with_unfolding_all rfl)) (by with_unfolding_all rfl) ?hcd (by with_unfolding_all rfl) ?hbind (by rfl) ?hkind (by decide) (by rfl) (by rfl) (by rfl) ?_
  case hcd => exact codeRec_of g2.k (by with_unfolding_all rfl)
  case hbind =>
    intro vs hl
    match vs, hl with
    | [a, b], _ => rfl
  case hkind => intro L; rfl
  intro L
  generalize he : callEnvC _ L 145 = env
  show RTo C env d _ _ ls _ ls
  have h1 : ft [a0, a1, a2] = .tup [.flt a0, .flt a1, .flt a2] := rfl
  have h2 : ft [b0, b1, b2] = .tup [.flt b0, .flt b1, .flt b2] := rfl
  rw [h1, h2]
  walk_at "m"
/-- one turn, on the signs' places -/
def turnI : List Int → List Int → Int
  | [a0, a1, a2], [b0, b1, b2] => (a1 * b2 - a2 * b1) + (a2 * b0 - a0 * b2) + (a0 * b1 - a1 * b0)
  | _, _ => 0
def Sm (x : Int) : Prop := 0 ≤ x ∧ x ≤ 512
theorem Sm.mul {x y : Int} (h : Sm x) (k : Sm y) : 0 ≤ x * y ∧ x * y ≤ 262144 := by
  refine ⟨Int.mul_nonneg h.1 k.1, ?_⟩
  have := Int.mul_le_mul h.2 k.2 k.1 (by decide : (0:Int) ≤ 512)
  omega
theorem Sm.fit {x : Int} (h : Sm x) : Fit x 9 := fitS (by have := h.1; have := h.2; omega) (by decide)
theorem fl_mul9 {x y : Int} (h : Sm x) (k : Sm y) : Float64.mul (fl x 9) (fl y 9) = fl (x * y) 18 := by
  have z := h.mul k
  refine fl_mul h.fit k.fit (fitS (by omega) (by decide)) fun _ => ⟨h.1, k.1⟩
theorem turn_fl {a0 a1 a2 b0 b1 b2 : Int} (h0 : Sm a0) (h1 : Sm a1) (h2 : Sm a2) (k0 : Sm b0) (k1 : Sm b1) (k2 : Sm b2) :
    Float64.add (Float64.add (Float64.sub (Float64.mul (fl a1 9) (fl b2 9)) (Float64.mul (fl a2 9) (fl b1 9))) (Float64.sub (Float64.mul (fl a2 9) (fl b0 9)) (Float64.mul (fl a0 9) (fl b2 9)))) (Float64.sub (Float64.mul (fl a0 9) (fl b1 9)) (Float64.mul (fl a1 9) (fl b0 9))) = fl (turnI [a0, a1, a2] [b0, b1, b2]) 18 := by
  rw [fl_mul9 h1 k2, fl_mul9 h2 k1, fl_mul9 h2 k0, fl_mul9 h0 k2, fl_mul9 h0 k1, fl_mul9 h1 k0]
  have z1 := h1.mul k2
  have z2 := h2.mul k1
  have z3 := h2.mul k0
  have z4 := h0.mul k2
  have z5 := h0.mul k1
  have z6 := h1.mul k0
  show _ = fl ((a1 * b2 - a2 * b1) + (a2 * b0 - a0 * b2) + (a0 * b1 - a1 * b0)) 18
  generalize a1 * b2 = x1 at z1 ⊢
  generalize a2 * b1 = x2 at z2 ⊢
  generalize a2 * b0 = x3 at z3 ⊢
  generalize a0 * b2 = x4 at z4 ⊢
  generalize a0 * b1 = x5 at z5 ⊢
  generalize a1 * b0 = x6 at z6 ⊢
  have f : ∀ {k : Int}, k.natAbs < 2 ^ 50 → Fit k 18 := fun h => fitS h (by decide)
  rw [fl_sub (f (by omega)) (f (by omega)) (f (by omega)) (by omega), fl_sub (f (by omega)) (f (by omega)) (f (by omega)) (by omega), fl_sub (f (by omega)) (f (by omega)) (f (by omega)) (by omega), fl_add (f (by omega)) (f (by omega)) (f (by omega)), fl_add (f (by omega)) (f (by omega)) (f (by omega))]
theorem turnI_b {a b : List Int} (ha : ∀ x ∈ a, Sm x) (hb : ∀ x ∈ b, Sm x) : (turnI a b).natAbs < 2 ^ 40 := by
  unfold turnI
  split
  · rename_i a0 a1 a2 b0 b1 b2
    have h0 := ha a0 (by simp)
    have h1 := ha a1 (by simp)
    have h2 := ha a2 (by simp)
    have k0 := hb b0 (by simp)
    have k1 := hb b1 (by simp)
    have k2 := hb b2 (by simp)
    have z1 := h1.mul k2
    have z2 := h2.mul k1
    have z3 := h2.mul k0
    have z4 := h0.mul k2
    have z5 := h0.mul k1
    have z6 := h1.mul k0
    omega
  · decide
theorem colP_three (D : Int) {p : Int} (hp : 0 ≤ p ∧ p < 32) : ∃ x y z, colP D p = [x, y, z] ∧ Sm x ∧ Sm y ∧ Sm z := by
  obtain ⟨x, y, z, hx⟩ := colI_three 5 p (sa D p) (sb D p)
  have hx : colP D p = [x, y, z] := hx
  have hb := colP_b D hp
  rw [hx] at hb
  exact ⟨x, y, z, hx, hb x (by simp), hb y (by simp), hb z (by simp)⟩
def trn (D p q : Int) : Int := turnI (colP D p) (colP D q)
theorem trn_b (D : Int) {p q : Int} (hp : 0 ≤ p ∧ p < 32) (hq : 0 ≤ q ∧ q < 32) : (trn D p q).natAbs < 2 ^ 40 := turnI_b (colP_b D hp) (colP_b D hq)
theorem turn_col {C : Cx} {d : Nat} {ls : LS} (g2 : G2 C) {D p q : Int} (hp : 0 ≤ p ∧ p < 32) (hq : 0 ≤ q ∧ q < 32) : CTo C (d + 1) (.ref 145) [ft (colPF D p), ft (colPF D q)] [] ls (.flt (fl (trn D p q) 18)) ls := by
  obtain ⟨x, y, z, h1, hx, hy, hz⟩ := colP_three D hp
  obtain ⟨u, v, w, h2, hu, hv, hw⟩ := colP_three D hq
  unfold trn colPF
  rw [h1, h2]
  have z := turn_raw (d := d) (ls := ls) g2 (fl x 9) (fl y 9) (fl z 9) (fl u 9) (fl v 9) (fl w 9)
  rw [turn_fl hx hy hz hu hv hw] at z
  exact z
/-! half a turn ahead, half a turn back -/
theorem half_c : (0x3fe0000000000000 : UInt64) = fl 16 5 := by decide +kernel
theorem half_up {p : Int} (hp : 0 ≤ p ∧ p < 32) : Float64.add (fl p 5) 0x3fe0000000000000 = fl (p + 16) 5 := by
  rw [half_c, fl_add (fitS (by omega) (by decide)) (fitS (by decide) (by decide)) (fitS (by omega) (by decide))]
theorem half_down {p : Int} (hp : 0 ≤ p ∧ p < 32) : Float64.sub (fl p 5) 0x3fe0000000000000 = fl (p - 16) 5 := by
  rw [half_c, fl_sub (fitS (by omega) (by decide)) (fitS (by decide) (by decide)) (fitS (by omega) (by decide)) (by omega)]
theorem bisL_col {C : Cx} {d : Nat} {ls : LS} (g2 : G2 C) {n : Nat} {m : List Int} {x D : Int} (hn : ls[n]? = some (cols D m)) (hs : m.Pairwise (· ≤ ·)) (hx : x.natAbs < 2 ^ 50) (hm : ∀ p ∈ m, 0 ≤ p ∧ p < 32) (hz : m.length < 2 ^ 60) :
    CTo C (d + 3) (.ref 58) [.lst n, .flt (fl x 5)] [("key", .ref 124)] ls (.int (cntLt x m)) ls :=
  bisL_core (d := d + 2) g2 (n := n) (l := cols D m) (x := .flt (fl x 5)) (ka := 124) (k := cntLt x m) (fn124 g2) hn (by rw [List.length_map]; exact cntLt_le x m) (by rw [List.length_map]; exact hz) (fun i q hq => by
    obtain ⟨p, hp, rfl⟩ := cols_at hq
    have hb := hm p (List.mem_of_getElem? hp)
    refine ⟨.flt (fl p 5), hue_col g2 hb, ?_⟩
    rw [cntLt_at x m hs i p hp]
    exact lt_fl (by omega) hx (by decide)) (.inl rfl)
/-- what is to be taken off for a colour -/
def offE (m : List Int) (i : Nat) : Int := (cntLt (m.getD i 0 + 16) m : Int) - i - 1 + cntLt (m.getD i 0 - 16) m
def halvAt (m : List Int) : Nat → Int
  | 0 => 2 ^ m.length - 1
  | i + 1 => halvAt m i - 2 ^ (offE m i).toNat
theorem rng_at {n : Int} {i : Nat} {q : PV} (h : (rngItems 0 n 1)[i]? = some q) : q = .int i ∧ (i : Int) < n := by
  unfold rngItems at h
  rw [List.getElem?_map, Option.map_eq_some_iff] at h
  obtain ⟨j, h1, h2⟩ := h
  obtain ⟨h3, h4⟩ := List.getElem?_eq_some_iff.mp h1
  rw [List.getElem_range] at h4
  subst h4
  rw [List.length_range] at h3
  refine ⟨by rw [← h2]; simp, ?_⟩
  unfold Builtin.Range.rangeSize at h3
  simp at h3
  omega
theorem rng_len {n : Nat} : (rngItems 0 (n : Int) 1).length = n := by
  unfold rngItems
  rw [List.length_map, List.length_range]
  unfold Builtin.Range.rangeSize
  simp
  omega
theorem rng_small {a n : Int} (ha : 0 ≤ a) (ha2 : a ≤ 10000) (h0 : 0 ≤ n) (h : n ≤ 10000) : Builtin.Range.small a n 1 = true := by
  unfold Builtin.Range.small Builtin.Range.rangeFitsLong Builtin.Range.rangeSize
  simp
  split <;> omega
theorem getD_of {m : List Int} {i : Nat} {x : Int} (h : m[i]? = some x) : m.getD i 0 = x := by
  rw [List.getD_eq_getElem?_getD, h]; rfl
theorem halves_spec {C : Cx} {d : Nat} {ls : LS} (g2 : G2 C) {n : Nat} {m : List Int} {D : Int} (hn : ls[n]? = some (cols D m)) (hs : m.Pairwise (· ≤ ·)) (hm : ∀ p ∈ m, 0 ≤ p ∧ p < 32) (hz : m.length ≤ 6) :
    CTo C (d + 4) (.ref 138) [.lst n] [] ls (.int (halvAt m m.length)) ls := by
  refine c_def (xs := ["shelf"]) g2.ok (g2.k _ _ (by with_unfolding_all rfl)) (by with_unfolding_all rfl) ?hcd (by with_unfolding_all rfl) ?hbind (by rfl) ?hkind (by decide) (by rfl) (by rfl) (by rfl) ?_
  case hcd => exact codeRec_of g2.k (by with_unfolding_all rfl)
  case hbind =>
    intro vs hl
    match vs, hl with
    | [a], _ => rfl
  case hkind => intro L; rfl
  intro L
  generalize he : callEnvC _ L 138 = env
  have f58 := fn58 g2
  have f124 := fn124 g2
  have hlen := c_len_lst (C := C) (d := d + 3) hn (by rw [List.length_map]; omega)
  rw [List.length_map] at hlen
  have hpw : V2To C (d + 3) (.int 2) (.int m.length) (binaryOp .Pow) ls (.int (2 ^ m.length)) ls := (o_pow2 (b := m.length) (by omega) (by omega)).to (by simp)
  have hrg := c_range1 (C := C) (d := d + 3) (ls := ls) (n := m.length)
  with_reducible apply r_cons
  · walk_at "m-asg"
    walk_at "m"
  refine r_consE (P := fun ρ ls1 => ls = ls1 ∧ LK ρ "left" (.int (halvAt m m.length))) ?_ ?_
  · refine XE.mono (xe_for (p := .rng 0 m.length 1) (ls1 := ls) (items := rngItems 0 m.length 1) (fun i ρ ls1 => ls = ls1 ∧ LK ρ "shelf" (.lst n) ∧ LK ρ "left" (.int (halvAt m i))) ?_ (src_range (rng_small (by decide) (by decide) (by omega) (by omega))) ⟨rfl, by walk_at "m-look", (by show LK _ _ (.int (2 ^ m.length - 1)); walk_at "m-look")⟩ ?_ ?_ (fun _ => rfl)) fun ρ ls1 h => ?_
    · walk_at "m"
    · intros; trivial
    · rintro i q ρ ls1 hi ⟨rfl, h1, h2⟩
      obtain ⟨rfl, hlt⟩ := rng_at hi
      have hlt : i < m.length := by omega
      have hmi : m[i]? = some m[i] := by simp [hlt]
      generalize hp : m[i] = p at hmi
      have hpb := hm p (List.mem_of_getElem? hmi)
      have hli : (cols D m)[i]? = some (ft (colPF D p)) := by unfold cols; rw [List.getElem?_map, hmi]; rfl
      have hi60 : i < 2 ^ 60 := by omega
      have hhue := hue_col (d := d + 1) (ls := ls) g2 (D := D) hpb
      have b1 := bisL_col (d := d) g2 (x := p + 16) hn hs (by omega) hm (by omega)
      have b2 := bisL_col (d := d) g2 (x := p - 16) hn hs (by omega) hm (by omega)
      have hge : i < cntLt (p + 16) m := by
        have := cntLt_at (p + 16) m hs i p hmi
        rw [decide_eq_true (by omega : p < p + 16)] at this
        simpa using this
      have hc1 := cntLt_le (p + 16) m
      have hc2 := cntLt_le (p - 16) m
      have hoff : offE m i = (cntLt (p + 16) m : Int) - i - 1 + cntLt (p - 16) m := by unfold offE; rw [getD_of hmi]
      have hpw2 := o_pow2 (C := C) (d := d + 3) (ls := ls) (b := (cntLt (p + 16) m : Int) - i - 1 + cntLt (p - 16) m) (by omega) (by omega)
      refine ⟨_, a_loc (by walk_at "m-env"), ?_⟩
      have m0 : LK (pset ρ "k" (.int i)) "k" (.int i) := by walk_at "m-look"
      have m1 : LK (pset ρ "k" (.int i)) "shelf" (.lst n) := by walk_at "m-look"
      have m2 : LK (pset ρ "k" (.int i)) "left" (.int (halvAt m i)) := by walk_at "m-look"
      show XE _ _ _ _ (pset ρ "k" (.int i)) _ _ _
      generalize pset ρ "k" (.int i) = ρ' at m0 m1 m2 ⊢
      refine xe_cons (ρ1 := pset ρ' "hue" (.flt (fl p 5))) (ls1 := ls) (by walk_at "m") ?_
      have k0 : LK (pset ρ' "hue" (.flt (fl p 5))) "k" (.int i) := by walk_at "m-look"
      have k1 : LK (pset ρ' "hue" (.flt (fl p 5))) "shelf" (.lst n) := by walk_at "m-look"
      have k2 : LK (pset ρ' "hue" (.flt (fl p 5))) "left" (.int (halvAt m i)) := by walk_at "m-look"
      have k3 : LK (pset ρ' "hue" (.flt (fl p 5))) "hue" (.flt (fl p 5)) := by walk_at "m-look"
      generalize pset ρ' "hue" (.flt (fl p 5)) = ρ2 at k0 k1 k2 k3 ⊢
      refine xe_cons (ρ1 := pset ρ2 "ahead" (.int ((cntLt (p + 16) m : Int) - i - 1))) (ls1 := ls) ?_ ?_
      · walk_at "m-asg"
        refine e_bin (p := .int ((cntLt (p + 16) m : Int) - i)) (ls1 := ls) (ls2 := ls) (e_bin (p := .int (cntLt (p + 16) m)) (ls1 := ls) (ls2 := ls) ?_ (by walk_at "m") (by walk_at "m")) (by walk_at "m") (by walk_at "m")
        refine e_callKF (xs := ["key"]) (qs := [.ref 124]) (ps := [.lst n, .flt (fl (p + 16) 5)]) (ls1 := ls) (ls2 := ls) ?hf f58 ?ha ?hk rfl rfl b1 rfl
        case hf => walk_at "m-name"
        case ha => rw [← half_up hpb]; walk_at "m"
        case hk => exact k_cons (ls1 := ls) (by walk_at "m") k_nil
      refine xe_cons (ρ1 := pset (pset ρ2 "ahead" (.int ((cntLt (p + 16) m : Int) - i - 1))) "round_again" (.int (cntLt (p - 16) m))) (ls1 := ls) ?_ ?_
      · walk_at "m-asg"
        refine e_callKF (xs := ["key"]) (qs := [.ref 124]) (ps := [.lst n, .flt (fl (p - 16) 5)]) (ls1 := ls) (ls2 := ls) ?hf f58 ?ha ?hk rfl rfl b2 rfl
        case hf => walk_at "m-name"
        case ha => rw [← half_down hpb]; walk_at "m"
        case hk => exact k_cons (ls1 := ls) (by walk_at "m") k_nil
      refine XE.of (ρ1 := pset (pset (pset ρ2 "ahead" (.int ((cntLt (p + 16) m : Int) - i - 1))) "round_again" (.int (cntLt (p - 16) m))) "left" (.int (halvAt m i - 2 ^ ((cntLt (p + 16) m : Int) - i - 1 + cntLt (p - 16) m).toNat))) (ls1 := ls) (by walk_at "m") ⟨rfl, by walk_at "m-look", ?_⟩
      show LK _ _ (.int (halvAt m i - 2 ^ (offE m i).toNat))
      rw [hoff]
      walk_at "m-look"
    · rw [rng_len] at h
      exact ⟨h.1, h.2.2⟩
  · rintro ρ ls1 ⟨rfl, h1⟩
    walk_at "m"
end Mine
end
section
open PySem PySem.W PySem.Calls PyProof.Rows
set_option maxRecDepth 100000
set_option linter.unusedVariables false
namespace Mine
section
variable {C : Cx} {env : Env} {d : Nat} {ρ ρ1 ρ2 ρ3 : Loc} {ls ls1 ls2 ls3 : LS} {p q r : PV} {f : PF} {ps qs : List PV} {α : Type}
/-- comprehensions over what a list of data stands for -/
theorem cp_mapF {target elt : Expr} {ok : LS → Prop} {k : Nat} (u g : α → PV) (base : LS) (J : Loc → Prop) (hk : k = base.length) (hok : ∀ l, ok (base ++ [l])) :
    ∀ (items : List α) (done : List PV) (ρ : Loc), J ρ → done.length + items.length ≤ 10000 →
      (∀ a ∈ items, ∀ ρ l, J ρ → ∃ ρ1, ATo C env target ρ (u a) ρ1 ∧ ETo C env d (eval elt env) ρ1 (base ++ [l]) (g a) (base ++ [l]) ∧ J ρ1) →
      ∃ ρ1, Cp C env d target elt [] ok k (items.map u) ρ (base ++ [done]) ρ1 (base ++ [done ++ items.map g])
  | [], done, ρ, _, _, _ => ⟨ρ, by rw [List.map_nil, List.map_nil, List.append_nil]; exact .nil (hok _)⟩
  | q :: items, done, ρ, hj, hl, h => by
    subst hk
    have hs : (10000 : Nat) ≤ sizeLine := by decide
    obtain ⟨ρ1, ha, he, hj1⟩ := h q (by simp) ρ done hj
    obtain ⟨ρ2, hc⟩ := cp_mapF u g base J rfl hok items (done ++ [g q]) ρ1 hj1 (by simp at hl ⊢; omega) fun q' hq => h q' (by simp [hq])
    refine ⟨ρ2, .emit (acc := done) (hok _) ha .nil he (by simp) (by simp at hl; omega) ?_⟩
    have e : (base ++ [done]).set base.length (done ++ [g q]) = base ++ [done ++ [g q]] := by simp
    rw [e]
    simpa using hc
theorem cp_filterF {target elt c : Expr} {ok : LS → Prop} {k : Nat} (u : α → PV) (t : α → Bool) (g : α → PV) (base : LS) (J : Loc → Prop) (hk : k = base.length) (hok : ∀ l, ok (base ++ [l])) :
    ∀ (items : List α) (done : List PV) (ρ : Loc), J ρ → (∀ x ∈ done, ∃ a, x = g a) → done.length + items.length ≤ 10000 →
      (∀ a ∈ items, ∀ ρ l, J ρ → (∀ x ∈ l, ∃ a, x = g a) → ∃ ρ1, ATo C env target ρ (u a) ρ1 ∧ BTo C env d (isTrue c env (eval c env)) ρ1 (base ++ [l]) (t a) (base ++ [l]) ∧ ETo C env d (eval elt env) ρ1 (base ++ [l]) (g a) (base ++ [l]) ∧ J ρ1) →
      ∃ ρ1, Cp C env d target elt [c] ok k (items.map u) ρ (base ++ [done]) ρ1 (base ++ [done ++ (items.filter t).map g])
  | [], done, ρ, _, _, _, _ => ⟨ρ, by rw [List.filter_nil, List.map_nil, List.map_nil, List.append_nil]; exact .nil (hok _)⟩
  | q :: items, done, ρ, hj, hd, hl, h => by
    subst hk
    have hs : (10000 : Nat) ≤ sizeLine := by decide
    obtain ⟨ρ1, ha, hb, he, hj1⟩ := h q (by simp) ρ done hj hd
    rw [List.map_cons]
    cases ht : t q with
    | false =>
      rw [ht] at hb
      obtain ⟨ρ2, hc⟩ := cp_filterF u t g base J rfl hok items done ρ1 hj1 hd (by simp at hl ⊢; omega) fun q' hq => h q' (by simp [hq])
      rw [List.filter_cons_of_neg (by rw [ht]; decide)]
      exact ⟨ρ2, .skip (hok _) ha (.one hb) hc⟩
    | true =>
      rw [ht] at hb
      obtain ⟨ρ2, hc⟩ := cp_filterF u t g base J rfl hok items (done ++ [g q]) ρ1 hj1 (fun x hx => by
        rcases List.mem_append.mp hx with hx | hx
        · exact hd x hx
        · exact ⟨q, by simpa using hx⟩) (by simp at hl ⊢; omega) fun q' hq => h q' (by simp [hq])
      rw [List.filter_cons_of_pos ht]
      refine ⟨ρ2, .emit (acc := done) (hok _) ha (.one hb) he (by simp) (by simp at hl; omega) ?_⟩
      have e : (base ++ [done]).set base.length (done ++ [g q]) = base ++ [done ++ [g q]] := by simp
      rw [e]
      simpa using hc
/-- where each element makes a list of its own -/
theorem cp_rowsF {target elt : Expr} {ok : LS → Prop} (u : α → PV) (row : α → List PV) (base : LS) (J : Loc → Prop) (hok : ∀ rs, ok (base ++ rs)) :
    ∀ (items : List α) (rs : LS) (ρ : Loc), J ρ → rs.length + items.length ≤ 1000 →
      (∀ a ∈ items, ∀ ρ ls', ok ls' → J ρ → ∃ ρ1, ATo C env target ρ (u a) ρ1 ∧ ETo C env d (eval elt env) ρ1 ls' (.lst ls'.length) (ls' ++ [row a]) ∧ J ρ1) →
      ∃ ρ1, Cp C env d target elt [] ok base.length (items.map u) ρ (base ++ ((List.range rs.length).map fun a => .lst (base.length + 1 + a)) :: rs) ρ1
        (base ++ ((List.range (rs.length + items.length)).map fun a => .lst (base.length + 1 + a)) :: (rs ++ items.map row))
  | [], rs, ρ, _, _, _ => ⟨ρ, by rw [List.map_nil, List.map_nil, List.append_nil]; exact .nil (hok _)⟩
  | q :: items, rs, ρ, hj, hl, h => by
    have hs : (10000 : Nat) ≤ sizeLine := by decide
    obtain ⟨ρ1, ha, he, hj1⟩ := h q (by simp) ρ (base ++ ((List.range rs.length).map fun a => .lst (base.length + 1 + a)) :: rs) (hok _) hj
    obtain ⟨ρ2, hc⟩ := cp_rowsF u row base J hok items (rs ++ [row q]) ρ1 hj1 (by simp at hl ⊢; omega) fun q' hq => h q' (by simp [hq])
    refine ⟨ρ2, .emit (acc := (List.range rs.length).map fun a => .lst (base.length + 1 + a)) (hok _) ha .nil he (by simp) (by simp at hl ⊢; omega) ?_⟩
    have e : ((base ++ ((List.range rs.length).map fun a => PV.lst (base.length + 1 + a)) :: rs) ++ [row q]).set base.length (((List.range rs.length).map fun a => PV.lst (base.length + 1 + a)) ++ [.lst (base ++ ((List.range rs.length).map fun a => PV.lst (base.length + 1 + a)) :: rs).length]) = base ++ ((List.range (rs ++ [row q]).length).map fun a => .lst (base.length + 1 + a)) :: (rs ++ [row q]) := by
      simp [List.range_succ]
      omega
    rw [e]
    have e2 : (rs ++ [row q]).length + items.length = rs.length + (q :: items).length := by simp; omega
    rw [e2] at hc
    simpa using hc
theorem cp_map0 {target elt : Expr} {ok : LS → Prop} {k : Nat} (u g : α → PV) (base : LS) (J : Loc → Prop) (hk : k = base.length) (hok : ∀ l, ok (base ++ [l])) (items : List α) (ρ : Loc) (hj : J ρ) (hl : items.length ≤ 10000)
    (h : ∀ a ∈ items, ∀ ρ l, J ρ → ∃ ρ1, ATo C env target ρ (u a) ρ1 ∧ ETo C env d (eval elt env) ρ1 (base ++ [l]) (g a) (base ++ [l]) ∧ J ρ1) :
    ∃ ρ1, Cp C env d target elt [] ok k (items.map u) ρ (base ++ [[]]) ρ1 (base ++ [items.map g]) :=
  cp_mapF u g base J hk hok items [] ρ hj (by simpa using hl) h
theorem cp_filter0 {target elt c : Expr} {ok : LS → Prop} {k : Nat} (u : α → PV) (t : α → Bool) (g : α → PV) (base : LS) (J : Loc → Prop) (hk : k = base.length) (hok : ∀ l, ok (base ++ [l])) (items : List α) (ρ : Loc) (hj : J ρ) (hl : items.length ≤ 10000)
    (h : ∀ a ∈ items, ∀ ρ l, J ρ → (∀ x ∈ l, ∃ a, x = g a) → ∃ ρ1, ATo C env target ρ (u a) ρ1 ∧ BTo C env d (isTrue c env (eval c env)) ρ1 (base ++ [l]) (t a) (base ++ [l]) ∧ ETo C env d (eval elt env) ρ1 (base ++ [l]) (g a) (base ++ [l]) ∧ J ρ1) :
    ∃ ρ1, Cp C env d target elt [c] ok k (items.map u) ρ (base ++ [[]]) ρ1 (base ++ [(items.filter t).map g]) :=
  cp_filterF u t g base J hk hok items [] ρ hj (fun _ h => nomatch h) (by simpa using hl) h
theorem cp_rows0 {target elt : Expr} {ok : LS → Prop} (u : α → PV) (row : α → List PV) (base : LS) (J : Loc → Prop) (hok : ∀ rs, ok (base ++ rs)) (items : List α) (ρ : Loc) (hj : J ρ) (hl : items.length ≤ 1000)
    (h : ∀ a ∈ items, ∀ ρ ls', ok ls' → J ρ → ∃ ρ1, ATo C env target ρ (u a) ρ1 ∧ ETo C env d (eval elt env) ρ1 ls' (.lst ls'.length) (ls' ++ [row a]) ∧ J ρ1) :
    ∃ ρ1, Cp C env d target elt [] ok base.length (items.map u) ρ (base ++ [[]]) ρ1 (base ++ ((List.range items.length).map fun a => .lst (base.length + 1 + a)) :: items.map row) := by
  have z := cp_rowsF (C := C) (env := env) (d := d) (target := target) (elt := elt) u row base J hok items [] ρ hj (by simpa using hl) h
  simpa using z
theorem rng_map (N : Nat) : rngItems 0 (N : Int) 1 = (List.range N).map fun (i : Nat) => PV.int (i : Int) := by
  have e : (Builtin.Range.rangeSize 0 (N : Int) 1).toNat = N := by
    unfold Builtin.Range.rangeSize
    simp
    omega
  unfold rngItems
  rw [e]
  refine List.map_congr_left fun i _ => ?_
  simp
theorem not_nil {α β : Type} [BEq α] (f : α → β) (l : List α) : (!(l.map f).isEmpty) = (l != []) := by
  cases l <;> rfl
theorem Low.le {n m : Nat} {p : PV} (hp : Low n p) (h : n ≤ m) : Low m p := by
  induction hp with
  | none => exact .none
  | bool => exact .bool _
  | int => exact .int _
  | flt => exact .flt _
  | str => exact .str _
  | ref => exact .ref _
  | bi => exact .bi _
  | ty => exact .ty _
  | rng => exact .rng _ _ _
  | lst hm => exact .lst (Nat.lt_of_lt_of_le hm h)
  | tup _ ih => exact .tup ih
theorem cp_map1 {target elt : Expr} {ok : LS → Prop} {k : Nat} (u g : α → PV) (base : LS) (J : Loc → Prop) (hk : k = base.length) (hok : ∀ l, ok (base ++ [l])) (items : List α) (ρ : Loc) (hj : J ρ) (hl : items.length ≤ 10000)
    (h : ∀ a ∈ items, ∀ ρ l, J ρ → (∀ x ∈ l, ∃ a, x = g a) → ∃ ρ1, ATo C env target ρ (u a) ρ1 ∧ ETo C env d (eval elt env) ρ1 (base ++ [l]) (g a) (base ++ [l]) ∧ J ρ1) :
    ∃ ρ1, Cp C env d target elt [] ok k (items.map u) ρ (base ++ [[]]) ρ1 (base ++ [items.map g]) := by
  have hs : (10000 : Nat) ≤ sizeLine := by decide
  have go : ∀ (items : List α) (done : List PV) (ρ : Loc), J ρ → (∀ x ∈ done, ∃ a, x = g a) → done.length + items.length ≤ 10000 →
      (∀ a ∈ items, ∀ ρ l, J ρ → (∀ x ∈ l, ∃ a, x = g a) → ∃ ρ1, ATo C env target ρ (u a) ρ1 ∧ ETo C env d (eval elt env) ρ1 (base ++ [l]) (g a) (base ++ [l]) ∧ J ρ1) →
      ∃ ρ1, Cp C env d target elt [] ok k (items.map u) ρ (base ++ [done]) ρ1 (base ++ [done ++ items.map g]) := by
    intro items
    induction items with
    | nil => intro done ρ hj hd hl h; exact ⟨ρ, by rw [List.map_nil, List.map_nil, List.append_nil]; exact .nil (hok _)⟩
    | cons q items ih =>
      intro done ρ hj hd hl h
      subst hk
      obtain ⟨ρ1, ha, he, hj1⟩ := h q (by simp) ρ done hj hd
      obtain ⟨ρ2, hc⟩ := ih (done ++ [g q]) ρ1 hj1 (fun x hx => by
        rcases List.mem_append.mp hx with hx | hx
        · exact hd x hx
        · exact ⟨q, by simpa using hx⟩) (by simp at hl ⊢; omega) fun q' hq => h q' (by simp [hq])
      refine ⟨ρ2, .emit (acc := done) (hok _) ha .nil he (by simp) (by simp at hl; omega) ?_⟩
      have e : (base ++ [done]).set base.length (done ++ [g q]) = base ++ [done ++ [g q]] := by simp
      rw [e]
      simpa using hc
  exact go items [] ρ hj (fun _ h => nomatch h) (by simpa using hl) h
/-- a slice of a list that stood ahead -/
theorem e_slice_base {value : Expr} {lower upper : Option Expr} {pp pos : Pos} {a : Addr} {vs : List Value} {l l' : List PV} {k : Nat} {ls4 : LS} {lo hi : Option Int} (h1 : ETo C env d (eval value env) ρ ls (.ref a) ls1) (hlo : PTo C env d ρ lower ls1 lo ls2) (hhi : PTo C env d ρ upper ls2 hi ls3)
    (hl : C.hb.IsList a vs.toArray) (hv : ∀ am h, RVs am h l vs) (hz : l.length ≤ sizeLine) (ek : ls3.length = k) (e4 : pick l lo hi = l') (e5 : ls3 ++ [l'] = ls4) :
    ETo C env d (eval (.Subscript value (.Slice lower upper none pp) pos) env) ρ ls (.lst k) ls4 := fun A s am Q E hr R F K => by
  subst ek e4 e5
  refine Subscript_ (h1 A s am _ E hr R F fun b h1 t1 am1 p1 g1 R1 v1 => ?_)
  cases v1
  refine wpAny_Slice (hlo.run hr R1 (F.mono p1 g1) fun vl h2 t2 am2 p2 g2 R2 pl => ?_)
  refine hhi.run hr R2 (F.mono (p1.trans p2) (g1.trans g2)) fun vu h3 t3 am3 p3 g3 R3 pu => ?_
  refine wpAny_of_eq (evalPart_none env) ?_
  have hv := hv am3 h3
  have hlen := hv.length
  have kp : ∀ b o, h3.get? b = some o → (h3.push { cls := .type "slice", data := .fields #[vl, vu, .none] }).get? b = some o := fun b o e => Heap.get?_push_of_some _ e
  have R4 := R3.keeps kp
  have hp4 : (h3.push { cls := .type "slice", data := .fields #[vl, vu, .none] }).IsList a vs.toArray := by
    obtain ⟨o, ho, hc, n, hd⟩ := hl
    exact ⟨o, R4.old _ _ ho, hc, n, hd⟩
  refine tail_any (T := "list") hp4.typeIs slot_list_getitem.lookup (wpAny_getItem_list_slice hp4 (Heap.IsSliceOf.new ..) pl pu .none (by simp) ?_ (by rw [List.size_toArray, hlen]; exact hz)) rfl
  have e : slicePick vs.toArray lo hi none = (kms_pick vs lo hi).toArray := by rw [kms_pick_eq]
  have hv4 : RVs am3 (h3.push { cls := .type "slice", data := .fields #[vl, vu, .none] }) (pick l lo hi) (kms_pick vs lo hi) := by
    unfold pick kms_pick
    rw [hlen]
    exact ((hv.mono (Pre.refl _) (Gr.of_keeps kp)).drop _).take _
  rw [e]
  have g := (Gr.of_keeps kp).trans (Gr.push (h3.push { cls := .type "slice", data := .fields #[vl, vu, .none] }) { cls := .type "list", data := .seq (kms_pick vs lo hi).toArray })
  exact K _ _ t3 (am3.add _) ((p1.trans (p2.trans p3)).trans (Pre.add _ _)) ((g1.trans (g2.trans g3)).trans g) (R4.more get_size (fun b o e => Heap.get?_push_of_some _ e) ⟨_, Heap.get?_push_size _ rfl⟩ hv4) (.lst (R3.last _))
theorem pick_take {l : List PV} (k : Nat) : pick l none (some (k : Int)) = l.take k := by
  unfold pick kms_lo kms_hi
  have h : ¬ ((k : Int) < 0) := by omega
  simp only [if_neg h, List.drop_zero, Nat.sub_zero]
  rw [Int.toNat_natCast]
  by_cases q : k ≤ l.length
  · rw [Nat.min_eq_left q]
  · rw [Nat.min_eq_right (by omega), List.take_length, List.take_of_length_le (by omega)]
/-- the law's own frame -/
theorem entry_run {body : List Stmt} {ls' : LS} {A : Around} {s : Shared} {Q : Flow → Shared → Prop} {E : Value → Shared → Prop} (H : RTo C env d (execs body env) ρ [] (.bool true) ls') (hr : Room A d) (R : Rep C ⟨[], fun _ => none⟩ [] s.heap s.toks) (F : Fm C env ⟨[], fun _ => none⟩ s.heap ρ)
    (K : ∀ fl h' tk, (∀ b o, C.hb.get? b = some o → h'.get? b = some o) → valOf fl = .bool true → Q fl { s with heap := h', toks := tk }) : wpAny (model C.prog C.w) A (execs body env) Q E s :=
  H A s _ Q E hr R F fun fl h' tk am' p g R' hv => K fl h' tk R'.old (by
    generalize valOf fl = v at hv
    cases hv; rfl)
theorem rep_start {hb h : Heap} {tk : Nat} {prog : Program} {w : World} {mg mb : Str → Option Value} (h0 : 0 < tk) (k : ∀ b o, hb.get? b = some o → h.get? b = some o) : Rep ⟨prog, w, hb, mg, mb⟩ ⟨[], fun _ => none⟩ [] h tk where
  pos := h0
  tks := fun _ _ e => nomatch e
  old := k
  len := rfl
  nd := List.nodup_nil
  new := fun _ h => nomatch h
  its := fun ha => by simp at ha
theorem fm_start {hb h : Heap} {prog : Program} {w : World} {mg mb : Str → Option Value} {nm : Str} {scope : Scope} {fa a : Addr} {cd : Value} {x : Str} (hk : scope.kind = .function) (hx : scope.names.lookup x = some .local) (F : Fr hb hb.objs.size h fun y => List.lookup y [(x, Value.ref a)].reverse) :
    Fm ⟨prog, w, hb, mg, mb⟩ (envOf nm scope hb.objs.size fa cd) ⟨[], fun _ => none⟩ h [(x, .ref a)] where
  kind := hk
  gl := rfl
  bl := rfl
  fr := get_size
  frc := fun _ _ e => by cases e
  ns := ⟨_, F.ns, fun y p e _ => by
    rw [List.lookup_cons] at e
    refine ⟨.ref a, ?_, ?_⟩
    · show List.lookup y [(x, Value.ref a)] = _
      rw [List.lookup_cons]
      cases q : y == x with
      | true => rfl
      | false => rw [q] at e; cases e
    · cases q : y == x with
      | true => rw [q] at e; cases e; exact .ref a
      | false => rw [q] at e; cases e⟩
  cel := fun y p e hk => by
    rw [List.lookup_cons] at e
    cases q : y == x with
    | true =>
      have : y = x := by simpa using q
      subst this
      exact absurd hx hk
    | false => rw [q] at e; cases e
  all := fun _ _ e => by cases e
  apart := fun _ _ _ e => by cases e
theorem law_entry {fa : Addr} {o : Obj} {fd : FuncData} {body : List Stmt} {x : Str} {a : Addr} {ls' : LS} (ok : C.Ok)
    (ho : C.hb.get? fa = some o) (hdat : o.data = .func fd) (hcd : C.hb.CodeRec fd.code fd.qualname) (hbody : fd.body = .stmts body)
    (hbind : ∀ v, bindArgs fd ⟨[v], []⟩ = pure [(x, v)])
    (hcell : ∀ x ∈ fd.scope.names, x.2 ≠ .cell) (hloc : fd.scope.names.lookup x = some .local) (hclo : fd.closure = []) (hgl : fd.globals = mainGlobals) (hbl : fd.builtins = builtinsNs)
    (H : ∀ L, RTo C (callEnv fd L fa) d (execs body (callEnv fd L fa)) [(x, .ref a)] [] (.bool true) ls')
    {A : Around} {s : Shared} {Q : Value → Shared → Prop} {E : Value → Shared → Prop} (hr : Room A (d + 1)) (hh : s.heap = C.hb)
    (K : ∀ h' tk, (∀ b o, C.hb.get? b = some o → h'.get? b = some o) → Q (.bool true) { s with heap := h', toks := tk })
    (hco : fd.scope.isCoroutine = false := by rfl) (hgen : fd.scope.isGenerator = false := by rfl) (hk : fd.scope.kind = .function := by rfl) :
    wpAny (model C.prog C.w) A (call (.ref fa) [.ref a]) Q E s := by
  refine wpAny_call ?_
  have hb : BindsTo s fd ⟨[.ref a], []⟩ [(x, .ref a)] := fun M A Q E h => by rw [hbind]; exact wpAny_pure h
  refine codeAny_call_def (by have := hr.depth; omega) (by rw [hh]; exact ho) hdat (by rw [hh]; exact ok.lim) (by rw [hh]; exact hcd) hbody hb hcell ?_ ?_ hco hgen hk
  · intro y hy
    rw [List.mem_singleton.mp hy]; exact hloc
  · intro h' hns hkeep
    have keep : ∀ b o, C.hb.get? b = some o → h'.get? b = some o := fun b o e => hkeep b o (by rw [hh]; exact e)
    have R1 : Rep C ⟨[], fun _ => none⟩ [] h' (s.toks + 1) := ⟨Nat.succ_pos _, fun _ _ e => (nomatch e), keep, rfl, List.nodup_nil, fun _ h => (nomatch h), fun ha => by simp at ha⟩
    have hcl : (callEnv fd s.heap.objs.size fa).cells = [] := by show fd.closure = []; exact hclo
    have F1 : Fm C (callEnv fd s.heap.objs.size fa) ⟨[], fun _ => none⟩ h' [(x, .ref a)] := by
      refine ⟨hk, hgl, hbl, by rw [← hh]; exact get_size, fun x c e => ?_, ⟨_, hns, fun y q e hx => ?_⟩, fun y q e hx => ?_, fun x c e => ?_, fun x y c e e' => ?_⟩
      · rw [hcl] at e; simp at e
      · rw [List.lookup_cons] at e
        cases q2 : y == x with
        | true =>
          rw [q2] at e; cases e
          refine ⟨.ref a, ?_, .ref a⟩
          show List.lookup y [(x, Value.ref a)] = _
          rw [List.lookup_cons, q2]
        | false => rw [q2] at e; cases e
      · rw [List.lookup_cons] at e
        cases q2 : y == x with
        | true =>
          have : y = x := by simpa using q2
          subst this
          exact absurd hloc hx
        | false => rw [q2] at e; cases e
      · rw [hcl] at e; simp at e
      · rw [hcl] at e; simp at e
    refine H s.heap.objs.size _ { s with heap := h', toks := s.toks + 1 } _ _ _ (hr.deeper _) R1 F1 fun fl h2 tk2 am2 p2 g2 R2 rv => ?_
    have hv : valOf fl = .bool true := by
      generalize valOf fl = v at rv
      cases rv; rfl
    have z := K h2 tk2 R2.old
    rw [← hv] at z
    cases fl <;> exact z
theorem good_true {c : ClaimW} {cl : Str → Option Addr} {mean : ExcName → Option Value} {args : List WData} {s₁ s' : Shared} (hk : ∀ b o, s₁.heap.get? b = some o → s'.heap.get? b = some o) (hg : s'.gens = #[]) (hn : ∀ cls, c.raises args cls = false) (hp : c.post args (.bool true) args = true) (hos : s'.os = s₁.os) : GoodW c cl mean args s₁ (.ok (.ret (.bool true))) s' :=
  ⟨.inl ⟨.bool true, .bool true, [], rfl, hn, .bool true, hp, unshared_nil⟩, hk, hos, hg⟩
theorem ClOk.one {env : Env} {x : Str} {c : Addr} (h : env.cells.lookup x = some c) : ClOk env [(x, c)] := .cons h .nil
theorem Cl.one {env : Env} {scope : Scope} {cl : List (Str × Addr)} {ρ : Loc} {x : Str} {p : PV} {c : Addr} {k k' : NameKind} (h1 : ρ.lookup x = some p) (h2 : env.kindOf x = some k) (h3 : env.cells.lookup x = some c) (h4 : (relabel scope env).names.lookup x = some k') (h5 : ∀ n, (cellsFrom n scope.names cl).lookup x = some c) (hk : k ≠ .local) (hk' : k' ≠ .local) : Cl env scope cl ρ [(x, p)] :=
  .cons h1 (by rw [h2]; exact fun e => hk (Option.some.inj e)) h3 (by rw [h4]; exact fun e => hk' (Option.some.inj e)) h5 .nil
end
end Mine
end
section
open PySem PySem.W PySem.Calls PyProof.Rows
set_option maxRecDepth 100000
set_option linter.unusedVariables false
set_option maxHeartbeats 4000000
namespace Mine
def rowT (D : Int) (m : List Int) (p : Int) : List PV := m.map fun q => .flt (fl (trn D p q) 18)
def TurnsAt (D : Int) (m : List Int) (L : Nat) (ls : LS) : Prop := ∃ O, ls[L]? = some O ∧ ∀ i p, m[i]? = some p → O[i]? = some (.lst (L + 1 + i)) ∧ ls[L + 1 + i]? = some (rowT D m p)
section
variable {C : Cx} {env : Env} {d : Nat} {ρ ρ1 ρ2 : Loc} {ls ls1 ls2 ls3 : LS} {p q r : PV} {ps qs : List PV}
theorem e_turns {T I J : Expr} {pos pos' : Pos} {i j L : Nat} {D : Int} {m : List Int} {x y : Int} (hT : ETo C env d (eval T env) ρ ls (.lst L) ls) (hI : ETo C env d (eval I env) ρ ls (.int (i : Nat)) ls) (hJ : ETo C env d (eval J env) ρ ls (.int (j : Nat)) ls) (h : TurnsAt D m L ls) (hi : m[i]? = some x) (hj : m[j]? = some y) (nI : NoSlice I) (nJ : NoSlice J) (hz : m.length ≤ 1000) :
    ETo C env d (eval (.Subscript (.Subscript T I pos) J pos') env) ρ ls (.flt (fl (trn D x y) 18)) ls := by
  obtain ⟨O, h1, h2⟩ := h
  obtain ⟨h3, h4⟩ := h2 i x hi
  have b1 := (List.getElem?_eq_some_iff.mp hi).1
  have b2 := (List.getElem?_eq_some_iff.mp hj).1
  refine e_sub (p := .lst (L + 1 + i)) (ls1 := ls) (e_sub hT hI (t_lstN nI h1 (by omega) h3)) hJ (t_lstN nJ h4 (by omega) ?_)
  unfold rowT
  rw [List.getElem?_map, hj]; rfl
theorem zero_scale (c : Nat) : (0 : Int) * ((2 ^ c : Nat) : Int) = 0 := by omega
theorem b_eq0 {e : Expr} {pos pos' : Pos} {k : Nat} {whole : Sem Value} {x : Int} {c : Nat} (h : ETo C env d (eval e env) ρ ls (.flt (fl x c)) ls) (f : Fit x c) (hm : behindInMarks .Eq (.Constant (.int 0) k pos') = false) : BTo C env d (isTrue (.Compare e [.Eq] [.Constant (.int 0) k pos'] pos) env whole) ρ ls (decide (x = 0)) ls :=
  (b_cmp h e_int o_eq_fi hm).to (by rw [fl_cmpInt f, zero_scale, cmp_eq])
theorem b_gt0 {e : Expr} {pos pos' : Pos} {k : Nat} {whole : Sem Value} {x : Int} {c : Nat} (h : ETo C env d (eval e env) ρ ls (.flt (fl x c)) ls) (f : Fit x c) (hm : behindInMarks .Gt (.Constant (.int 0) k pos') = false) : BTo C env d (isTrue (.Compare e [.Gt] [.Constant (.int 0) k pos'] pos) env whole) ρ ls (decide (0 < x)) ls :=
  (b_cmp h e_int o_gt_fi hm).to (by rw [fl_cmpInt f, zero_scale, cmp_gt])
end
/-! the least sets, in plain -/
def tg (D : Int) (m : List Int) (i j : Nat) : Int := trn D (m.getD i 0) (m.getD j 0)
def addK (D : Int) (m : List Int) (i j k : Nat) (acc : List Int) : List Int := if 0 < tg D m i j ∧ 0 < tg D m j k ∧ 0 < tg D m k i then acc ++ [2 ^ i + 2 ^ j + 2 ^ k] else acc
def kAt (D : Int) (m : List Int) (i j : Nat) (acc : List Int) : Nat → List Int
  | 0 => acc
  | a + 1 => addK D m i j (j + 1 + a) (kAt D m i j acc a)
def addI (D : Int) (m : List Int) (i j : Nat) (acc : List Int) : List Int := if tg D m i j = 0 then acc ++ [2 ^ i + 2 ^ j] else acc
def iAt (D : Int) (m : List Int) (j : Nat) (acc : List Int) : Nat → List Int
  | 0 => acc
  | i + 1 => kAt D m i j (addI D m i j (iAt D m j acc i)) (m.length - (j + 1))
def jAt (D : Int) (m : List Int) : Nat → List Int
  | 0 => []
  | j + 1 => iAt D m j (jAt D m j) j
def isSub (one few : Int) : Bool := Builtin.bitAnd one few == few
def mixC (D : Int) (m : List Int) : Nat := ((List.range (2 ^ m.length)).filter fun (one : Nat) => ((jAt D m m.length).filter fun few => isSub one few) != []).length
theorem addK_len (D : Int) (m : List Int) (i j k : Nat) (acc : List Int) : (addK D m i j k acc).length ≤ acc.length + 1 := by
  unfold addK; split <;> simp
theorem kAt_len (D : Int) (m : List Int) (i j : Nat) (acc : List Int) : ∀ a, (kAt D m i j acc a).length ≤ acc.length + a
  | 0 => by simp [kAt]
  | a + 1 => by
    have h1 := kAt_len D m i j acc a
    have h2 := addK_len D m i j (j + 1 + a) (kAt D m i j acc a)
    unfold kAt; omega
theorem addI_len (D : Int) (m : List Int) (i j : Nat) (acc : List Int) : (addI D m i j acc).length ≤ acc.length + 1 := by
  unfold addI; split <;> simp
theorem iAt_len {D : Int} {m : List Int} (hz : m.length ≤ 6) (j : Nat) (acc : List Int) : ∀ i, (iAt D m j acc i).length ≤ acc.length + 10 * i
  | 0 => by simp [iAt]
  | i + 1 => by
    have h1 := iAt_len (D := D) hz j acc i
    have h2 := addI_len D m i j (iAt D m j acc i)
    have h3 := kAt_len D m i j (addI D m i j (iAt D m j acc i)) (m.length - (j + 1))
    unfold iAt; omega
theorem jAt_len {D : Int} {m : List Int} (hz : m.length ≤ 6) : ∀ j, j ≤ 6 → (jAt D m j).length ≤ 60 * j
  | 0, _ => by simp [jAt]
  | j + 1, h => by
    have h1 := jAt_len (D := D) hz j (by omega)
    have h2 := iAt_len (D := D) hz j (jAt D m j) j
    unfold jAt; omega
theorem rng_at2 {a n : Int} {i : Nat} {q : PV} (h : (rngItems a n 1)[i]? = some q) : q = .int (a + i) ∧ a + i < n := by
  unfold rngItems at h
  rw [List.getElem?_map, Option.map_eq_some_iff] at h
  obtain ⟨j, h1, h2⟩ := h
  obtain ⟨h3, h4⟩ := List.getElem?_eq_some_iff.mp h1
  rw [List.getElem_range] at h4
  subst h4
  rw [List.length_range] at h3
  refine ⟨by rw [← h2]; simp, ?_⟩
  unfold Builtin.Range.rangeSize at h3
  simp at h3
  split at h3 <;> omega
theorem rng_len2 {a n : Nat} : (rngItems (a : Int) (n : Int) 1).length = n - a := by
  unfold rngItems
  rw [List.length_map, List.length_range]
  unfold Builtin.Range.rangeSize
  simp
  split <;> omega
theorem fn145 {C : Cx} (g : G2 C) : Fn C 145 := ⟨_, _, g.k _ _ (by with_unfolding_all rfl), by with_unfolding_all rfl⟩
theorem tg_of {D : Int} {m : List Int} {i j : Nat} {x y : Int} (hi : m[i]? = some x) (hj : m[j]? = some y) : trn D x y = tg D m i j := by unfold tg; rw [getD_of hi, getD_of hj]
theorem turns_len {D : Int} {m : List Int} {ls : LS} (X : LS) : TurnsAt D m ls.length (ls ++ ((List.range m.length).map fun a => .lst (ls.length + 1 + a)) :: (m.map (rowT D m) ++ X)) := by
  refine ⟨(List.range m.length).map fun a => .lst (ls.length + 1 + a), by simp, fun i p hi => ⟨?_, ?_⟩⟩
  · have hl := (List.getElem?_eq_some_iff.mp hi).1
    simp [hl]
  · have hl := (List.getElem?_eq_some_iff.mp hi).1
    rw [List.getElem?_append_right (by omega), show ls.length + 1 + i - ls.length = i + 1 by omega, List.getElem?_cons_succ, List.getElem?_append_left (by rw [List.length_map]; exact hl), List.getElem?_map, hi]; rfl
theorem mixing_spec {C : Cx} {d : Nat} {ls : LS} (g2 : G2 C) (hf : FlatLS ls) {n : Nat} {m : List Int} {D : Int} (hn : ls[n]? = some (cols D m)) (hm : ∀ p ∈ m, 0 ≤ p ∧ p < 32) (hz : m.length ≤ 6) :
    CTo C (d + 2) (.ref 150) [.lst n] [] ls (.int (mixC D m)) ls := by
  refine CTo.drop (X := (((List.range m.length).map fun a => PV.lst (ls.length + 1 + a)) :: (m.map (rowT D m) ++ [(jAt D m m.length).map .int, ((List.range (2 ^ m.length)).filter fun (one : Nat) => ((jAt D m m.length).filter fun few => isSub one few) != []).map fun _ => .int 1]))) ?_ hf rfl (.int _)
  refine c_def (xs := ["shelf"]) g2.ok (g2.k _ _ (by with_unfolding_all rfl)) (by with_unfolding_all rfl) ?hcd (by with_unfolding_all rfl) ?hbind (by rfl) ?hkind (by decide) (by rfl) (by rfl) (by rfl) ?_
  case hcd => exact codeRec_of g2.k (by with_unfolding_all rfl)
  case hbind =>
    intro vs hl
    match vs, hl with
    | [a], _ => rfl
  case hkind => intro L; rfl
  intro L
  generalize he : callEnvC _ L 150 = env
  have hs : (10000 : Nat) ≤ sizeLine := by decide
  have f145 := fn145 g2
  have hlen := c_len_lst (C := C) (d := d + 1) hn (by rw [List.length_map]; omega)
  rw [List.length_map] at hlen
  with_reducible apply r_cons
  · walk_at "m-asg"
    walk_at "m"
  have hcel : env.cells.lookup ("shelf" : Str) = some (L + 1) := by subst_vars; rfl
  have hcel2 : env.cells.lookup ("least" : Str) = some (L + 2) := by subst_vars; rfl
  have hlt2 : env.locals < L + 2 := by
    have : env.locals = L := by subst_vars; rfl
    rw [this]; exact Nat.lt_add_of_pos_right (by decide)
  refine r_cons (ls1 := ls ++ ((List.range m.length).map fun a => .lst (ls.length + 1 + a)) :: (m.map (rowT D m))) (x_acomp (p := .lst n) (ls1 := ls) (cl := [("shelf", L + 1)]) (ρc := [("shelf", .lst n)]) (items := cols D m) (by walk_at "m") (src_list hn) (by subst_vars; rfl) (ClOk.one hcel) (Cl.one (k := .cell) (k' := .cell) (by walk_at "m-look") (by walk_at "m-env") hcel (by walk_at "m-env") (fun _ => rfl) (by decide) (by decide)) ?_ (by walk_at "m-env") (by subst_vars; rfl) rfl (by decide) (fun _ => rfl)) ?_
  · intro Lc
    refine cp_rows0 (fun p => ft (colPF D p)) (rowT D m) ls (fun ρ => LK ρ "shelf" (.lst n)) (fun rs => ?_) m [("shelf", .lst n)] (by walk_at "m-look") (by omega) ?_
    · rw [List.getElem?_append_left (List.getElem?_eq_some_iff.mp hn).1]; exact hn
    intro p hp ρ1 ls' hok hsh
    have hpb := hm p hp
    generalize he1 : cenvOf _ env Lc _ = env1
    have hc1 : env1.cells.lookup ("one" : Str) = some (Lc + 1) := by subst_vars; rfl
    have hlt1 : env1.locals < Lc + 1 := by
      have : env1.locals = Lc := by subst_vars; rfl
      rw [this]; exact Nat.lt_succ_self _
    refine ⟨_, a_cell (by walk_at "m-env") hc1 hlt1, ?_, by walk_at "m-look"⟩
    have m0 : LK (pset ρ1 "one" (ft (colPF D p))) "one" (ft (colPF D p)) := by walk_at "m-look"
    have m1 : LK (pset ρ1 "one" (ft (colPF D p))) "shelf" (.lst n) := by walk_at "m-look"
    show ETo _ _ _ _ (pset ρ1 "one" (ft (colPF D p))) _ _ _
    generalize pset ρ1 "one" (ft (colPF D p)) = ρ2 at m0 m1 ⊢
    refine e_comp (p := .lst n) (ls1 := ls') (cl := [("one", Lc + 1)]) (ρc := [("one", ft (colPF D p))]) (items := cols D m) (by walk_at "m") (src_list hok) (by subst_vars; rfl) (ClOk.one hc1) (Cl.one (k := .cell) (k' := .cell) (by walk_at "m-look") (by walk_at "m-env") hc1 (by walk_at "m-env") (fun _ => rfl) (by decide) (by decide)) ?_ rfl (by decide) (fun _ => rfl)
    intro Lc2
    refine cp_map0 (fun q => ft (colPF D q)) (fun q => .flt (fl (trn D p q) 18)) ls' (fun ρ => LK ρ "one" (ft (colPF D p))) rfl (fun l => ?_) m [("one", ft (colPF D p))] (by walk_at "m-look") (by omega) ?_
    · rw [List.getElem?_append_left (List.getElem?_eq_some_iff.mp hok).1]; exact hok
    intro q hq ρ3 l hone
    have hqb := hm q hq
    generalize he2 : cenvOf _ env1 Lc2 _ = env2
    have htn := turn_col (d := d) (ls := ls' ++ [l]) g2 (D := D) hpb hqb
    refine ⟨_, a_loc (by walk_at "m-env"), ?_, by walk_at "m-look"⟩
    walk_at "m"
  have hT : ∀ X, TurnsAt D m ls.length ((ls ++ ((List.range m.length).map fun a => PV.lst (ls.length + 1 + a)) :: (m.map (rowT D m))) ++ X) := fun X => by
    have z := turns_len (D := D) (m := m) (ls := ls) X
    rwa [← List.cons_append, ← List.append_assoc] at z
  have hLow : ∀ x ∈ (ls ++ ((List.range m.length).map fun a => PV.lst (ls.length + 1 + a)) :: (m.map (rowT D m))), ∀ y ∈ x, Low (ls ++ ((List.range m.length).map fun a => PV.lst (ls.length + 1 + a)) :: (m.map (rowT D m))).length y := by
    intro x hx y hy
    rcases List.mem_append.mp hx with hx | hx
    · exact (hf x hx y hy).low
    rcases List.mem_cons.mp hx with rfl | hx
    · obtain ⟨a, ha, rfl⟩ := List.mem_map.mp hy
      have := List.mem_range.mp ha
      exact .lst (by simp; omega)
    · obtain ⟨a, ha, rfl⟩ := List.mem_map.mp hx
      obtain ⟨b, hb, rfl⟩ := List.mem_map.mp hy
      exact .flt _
  rw [← List.cons_append, ← List.append_assoc]
  generalize ls ++ ((List.range m.length).map fun a => PV.lst (ls.length + 1 + a)) :: (m.map (rowT D m)) = B at hT hLow ⊢
  have hpw : ∀ (k : Nat) (LS), k < 10 → V2To C (d + 1) (.int 2) (.int k) (binaryOp .Pow) LS (.int (2 ^ k)) LS := fun k LS hk => (o_pow2 (b := k) (by omega) (by omega)).to (by simp)
  have hat : ∀ (l : List Int), (B ++ [l.map .int] : LS)[B.length]? = some (l.map .int) := fun l => by simp
  have hset : ∀ (l : List Int) (v : Int), (B ++ [l.map .int] : LS).set B.length (l.map .int ++ [.int v]) = B ++ [(l ++ [v]).map .int] := fun l v => by simp
  refine r_cons (ls1 := B ++ [[]]) (x_assignC (p := .lst B.length) (c := L + 2) (by walk_at "m") (by walk_at "m-env") hcel2 hlt2 (by subst_vars; rfl)) ?_
  have m1 : LK (pset (pset (pset (List.zip ["shelf"] [PV.lst n]) "size" (.int m.length)) "turns" (.lst ls.length)) "least" (.lst B.length)) "size" (.int m.length) := by walk_at "m-look"
  have m2 : LK (pset (pset (pset (List.zip ["shelf"] [PV.lst n]) "size" (.int m.length)) "turns" (.lst ls.length)) "least" (.lst B.length)) "turns" (.lst ls.length) := by walk_at "m-look"
  have m3 : LK (pset (pset (pset (List.zip ["shelf"] [PV.lst n]) "size" (.int m.length)) "turns" (.lst ls.length)) "least" (.lst B.length)) "least" (.lst B.length) := by walk_at "m-look"
  refine RTo.less (ρ' := pset (pset (pset (List.zip ["shelf"] [PV.lst n]) "size" (.int m.length)) "turns" (.lst ls.length)) "least" (.lst B.length)) ?_ (fun _ _ h => h)
  generalize pset (pset (pset (List.zip ["shelf"] [PV.lst n]) "size" (.int m.length)) "turns" (.lst ls.length)) "least" (.lst B.length) = ρ0 at m1 m2 m3 ⊢
  refine r_consE (P := fun ρ ls1 => B ++ [(jAt D m m.length).map .int] = ls1 ∧ LK ρ "size" (.int m.length) ∧ LK ρ "turns" (.lst ls.length) ∧ LK ρ "least" (.lst B.length)) ?_ ?_
  · have hrg := c_range1 (C := C) (d := d + 1) (ls := B ++ [[]]) (n := m.length)
    refine XE.mono (xe_for (p := .rng 0 m.length 1) (ls1 := B ++ [[]]) (items := rngItems 0 m.length 1) (fun j ρ ls1 => B ++ [(jAt D m j).map .int] = ls1 ∧ LK ρ "size" (.int m.length) ∧ LK ρ "turns" (.lst ls.length) ∧ LK ρ "least" (.lst B.length)) (by walk_at "m") (src_range (rng_small (by decide) (by decide) (by omega) (by omega))) ⟨rfl, m1, m2, m3⟩ (fun _ _ _ _ _ => trivial) ?_ (fun _ => rfl)) fun ρ ls1 h => by rw [rng_len] at h; exact h
    rintro j q ρ ls1 hj ⟨rfl, j1, j2, j3⟩
    obtain ⟨rfl, hjn⟩ := rng_at hj
    have hjn : j < m.length := by omega
    have hjl := jAt_len (D := D) hz j (by omega)
    refine ⟨_, a_loc (by walk_at "m-env"), ?_⟩
    have i1 : LK (pset ρ "j" (.int j)) "size" (.int m.length) := by walk_at "m-look"
    have i2 : LK (pset ρ "j" (.int j)) "turns" (.lst ls.length) := by walk_at "m-look"
    have i3 : LK (pset ρ "j" (.int j)) "least" (.lst B.length) := by walk_at "m-look"
    have i4 : LK (pset ρ "j" (.int j)) "j" (.int j) := by walk_at "m-look"
    show XE _ _ _ _ (pset ρ "j" (.int j)) _ _ _
    generalize pset ρ "j" (.int j) = ρj at i1 i2 i3 i4 ⊢
    refine xe_one ?_
    have hrg := c_range1 (C := C) (d := d + 1) (ls := B ++ [(jAt D m j).map .int]) (n := j)
    refine XE.mono (xe_for (p := .rng 0 j 1) (ls1 := B ++ [(jAt D m j).map .int]) (items := rngItems 0 j 1) (fun i ρ ls1 => B ++ [(iAt D m j (jAt D m j) i).map .int] = ls1 ∧ LK ρ "size" (.int m.length) ∧ LK ρ "turns" (.lst ls.length) ∧ LK ρ "least" (.lst B.length) ∧ LK ρ "j" (.int j)) (by walk_at "m") (src_range (rng_small (by decide) (by decide) (by omega) (by omega))) ⟨rfl, i1, i2, i3, i4⟩ (fun _ _ _ _ _ => trivial) ?_ (fun _ => rfl)) fun ρ ls1 h => by rw [rng_len] at h; exact ⟨h.1, h.2.1, h.2.2.1, h.2.2.2.1⟩
    clear i1 i2 i3 i4 ρj j1 j2 j3 hj hrg
    rintro i q ρ ls1 hi ⟨rfl, j1, j2, j3, j4⟩
    obtain ⟨rfl, hin⟩ := rng_at hi
    have hin : i < j := by omega
    have hil := iAt_len (D := D) hz j (jAt D m j) i
    have hnext : iAt D m j (jAt D m j) (i + 1) = kAt D m i j (addI D m i j (iAt D m j (jAt D m j) i)) (m.length - (j + 1)) := rfl
    simp only [hnext]
    generalize iAt D m j (jAt D m j) i = acc at hil ⊢
    have hal := addI_len D m i j acc
    obtain ⟨x, hmi⟩ : ∃ x, m[i]? = some x := ⟨m[i]'(by omega), List.getElem?_eq_getElem _⟩
    obtain ⟨y, hmj⟩ : ∃ y, m[j]? = some y := ⟨m[j], by simp⟩
    have hxb := hm x (List.mem_of_getElem? hmi)
    have hyb := hm y (List.mem_of_getElem? hmj)
    have hxy := tg_of (D := D) hmi hmj
    refine ⟨_, a_loc (by walk_at "m-env"), ?_⟩
    have i1 : LK (pset ρ "i" (.int i)) "size" (.int m.length) := by walk_at "m-look"
    have i2 : LK (pset ρ "i" (.int i)) "turns" (.lst ls.length) := by walk_at "m-look"
    have i3 : LK (pset ρ "i" (.int i)) "least" (.lst B.length) := by walk_at "m-look"
    have i4 : LK (pset ρ "i" (.int i)) "j" (.int j) := by walk_at "m-look"
    have i5 : LK (pset ρ "i" (.int i)) "i" (.int i) := by walk_at "m-look"
    show XE _ _ _ _ (pset ρ "i" (.int i)) _ _ _
    generalize pset ρ "i" (.int i) = ρi at i1 i2 i3 i4 i5 ⊢
    refine xe_cons (ρ1 := ρi) (ls1 := B ++ [(addI D m i j acc).map .int]) (x_if (b := decide (trn D x y = 0)) (ls1 := B ++ [acc.map .int]) ?_ (fun hb => ?_) (fun hb => ?_)) (xe_one ?_)
    · refine b_eq0 (e_turns (by walk_at "m") (by walk_at "m") (by walk_at "m") (hT _) hmi hmj trivial trivial (by omega)) (fitS (by have := trn_b D hxb hyb; omega) (by decide)) rfl
    · have hz0 : tg D m i j = 0 := by rw [← hxy]; simpa using hb
      have e1 : addI D m i j acc = acc ++ [2 ^ i + 2 ^ j] := by unfold addI; rw [if_pos hz0]
      rw [e1, ← hset]
      have p1 := hpw i (B ++ [acc.map .int]) (by omega)
      have p2 := hpw j (B ++ [acc.map .int]) (by omega)
      have hap := c_append (C := C) (d := d + 1) (ls := B ++ [acc.map .int]) (n := B.length) (l := acc.map .int) (p := .int (2 ^ i + 2 ^ j)) (hat _) (by rw [List.length_map]; omega)
      refine x_cons (x_expr (ls1 := (B ++ [acc.map PV.int]).set B.length (acc.map PV.int ++ [PV.int (2 ^ i + 2 ^ j)])) ?_ ?_ rfl) x_nil
      · refine e_meth (p := .lst B.length) (ls1 := B ++ [acc.map .int]) (ls2 := B ++ [acc.map .int]) (T := "list") (id := "list.append") ?_ (ty_lst (l := acc.map .int) (by simp)) PySem.F.plainAttrs_list PySem.F.slot_list_append PySem.F.type_list_append ?_ hap rfl rfl rfl rfl rfl
        · walk_at "m"
        · walk_at "m"
      · subst_vars; rfl
    · have hz0 : ¬ tg D m i j = 0 := by rw [← hxy]; simpa using hb
      have e1 : addI D m i j acc = acc := by unfold addI; rw [if_neg hz0]
      rw [e1]; exact x_nil
    generalize addI D m i j acc = bcc at hal ⊢
    have hrg := c_range2 (C := C) (d := d + 1) (ls := B ++ [bcc.map .int]) (m := (j : Int) + 1) (n := m.length)
    have hln : (rngItems ((j : Int) + 1) m.length 1).length = m.length - (j + 1) := rng_len2 (a := j + 1) (n := m.length)
    refine XE.mono (xe_for (p := .rng ((j : Int) + 1) m.length 1) (ls1 := B ++ [bcc.map .int]) (items := rngItems ((j : Int) + 1) m.length 1) (fun a ρ ls1 => B ++ [(kAt D m i j bcc a).map .int] = ls1 ∧ LK ρ "size" (.int m.length) ∧ LK ρ "turns" (.lst ls.length) ∧ LK ρ "least" (.lst B.length) ∧ LK ρ "j" (.int j) ∧ LK ρ "i" (.int i)) (by walk_at "m") (src_range (rng_small (by omega) (by omega) (by omega) (by omega))) ⟨rfl, i1, i2, i3, i4, i5⟩ (fun _ _ _ _ _ => trivial) ?_ (fun _ => rfl)) fun ρ ls1 h => by rw [hln] at h; exact ⟨h.1, h.2.1, h.2.2.1, h.2.2.2.1, h.2.2.2.2.1⟩
    clear i1 i2 i3 i4 i5 ρi j1 j2 j3 j4 hi hrg
    rintro a q ρ ls1 hk ⟨rfl, j1, j2, j3, j4, j5⟩
    obtain ⟨rfl, hkn⟩ := rng_at2 hk
    have hka : (j : Int) + 1 + a = ((j + 1 + a : Nat) : Int) := by omega
    rw [hka]
    have hkl := kAt_len D m i j bcc a
    have hnext : kAt D m i j bcc (a + 1) = addK D m i j (j + 1 + a) (kAt D m i j bcc a) := rfl
    simp only [hnext]
    generalize kAt D m i j bcc a = acc at hkl ⊢
    generalize hke : j + 1 + a = k
    obtain ⟨z, hmk⟩ : ∃ z, m[k]? = some z := ⟨m[k]'(by omega), List.getElem?_eq_getElem _⟩
    have hzb := hm z (List.mem_of_getElem? hmk)
    have hyz := tg_of (D := D) hmj hmk
    have hzx := tg_of (D := D) hmk hmi
    refine ⟨_, a_loc (by walk_at "m-env"), ?_⟩
    have i1 : LK (pset ρ "k" (.int k)) "size" (.int m.length) := by walk_at "m-look"
    have i2 : LK (pset ρ "k" (.int k)) "turns" (.lst ls.length) := by walk_at "m-look"
    have i3 : LK (pset ρ "k" (.int k)) "least" (.lst B.length) := by walk_at "m-look"
    have i4 : LK (pset ρ "k" (.int k)) "j" (.int j) := by walk_at "m-look"
    have i5 : LK (pset ρ "k" (.int k)) "i" (.int i) := by walk_at "m-look"
    have i6 : LK (pset ρ "k" (.int k)) "k" (.int k) := by walk_at "m-look"
    show XE _ _ _ _ (pset ρ "k" (.int k)) _ _ _
    generalize pset ρ "k" (.int k) = ρk at i1 i2 i3 i4 i5 i6 ⊢
    refine XE.of (ρ1 := ρk) (ls1 := B ++ [(addK D m i j k acc).map .int]) (x_cons (x_if (b := decide (0 < trn D x y) && (decide (0 < trn D y z) && (decide (0 < trn D z x) && true))) (ls1 := B ++ [acc.map .int]) ?_ (fun hb => ?_) (fun hb => ?_)) x_nil) ⟨rfl, i1, i2, i3, i4, i5⟩
    · refine b_and (b_and_cons ?_ fun _ => b_and_cons ?_ fun _ => b_and_cons ?_ fun _ => b_and_nil)
      · exact b_gt0 (e_turns (by walk_at "m") (by walk_at "m") (by walk_at "m") (hT _) hmi hmj trivial trivial (by omega)) (fitS (by have := trn_b D hxb hyb; omega) (by decide)) rfl
      · exact b_gt0 (e_turns (by walk_at "m") (by walk_at "m") (by walk_at "m") (hT _) hmj hmk trivial trivial (by omega)) (fitS (by have := trn_b D hyb hzb; omega) (by decide)) rfl
      · exact b_gt0 (e_turns (by walk_at "m") (by walk_at "m") (by walk_at "m") (hT _) hmk hmi trivial trivial (by omega)) (fitS (by have := trn_b D hzb hxb; omega) (by decide)) rfl
    · have hz0 : 0 < tg D m i j ∧ 0 < tg D m j k ∧ 0 < tg D m k i := by rw [← hxy, ← hyz, ← hzx]; simpa using hb
      have e1 : addK D m i j k acc = acc ++ [2 ^ i + 2 ^ j + 2 ^ k] := by unfold addK; rw [if_pos hz0]
      rw [e1, ← hset]
      have p1 := hpw i (B ++ [acc.map .int]) (by omega)
      have p2 := hpw j (B ++ [acc.map .int]) (by omega)
      have p3 := hpw k (B ++ [acc.map .int]) (by omega)
      have hap := c_append (C := C) (d := d + 1) (ls := B ++ [acc.map .int]) (n := B.length) (l := acc.map .int) (p := .int (2 ^ i + 2 ^ j + 2 ^ k)) (hat _) (by rw [List.length_map]; omega)
      refine x_cons (x_expr (ls1 := (B ++ [acc.map PV.int]).set B.length (acc.map PV.int ++ [PV.int (2 ^ i + 2 ^ j + 2 ^ k)])) ?_ ?_ rfl) x_nil
      · refine e_meth (p := .lst B.length) (ls1 := B ++ [acc.map .int]) (ls2 := B ++ [acc.map .int]) (T := "list") (id := "list.append") ?_ (ty_lst (l := acc.map .int) (by simp)) PySem.F.plainAttrs_list PySem.F.slot_list_append PySem.F.type_list_append ?_ hap rfl rfl rfl rfl rfl
        · walk_at "m"
        · walk_at "m"
      · subst_vars; rfl
    · have hz0 : ¬ (0 < tg D m i j ∧ 0 < tg D m j k ∧ 0 < tg D m k i) := by rw [← hxy, ← hyz, ← hzx]; simpa using hb
      have e1 : addK D m i j k acc = acc := by unfold addK; rw [if_neg hz0]
      rw [e1]; exact x_nil
  · rintro ρ ls1 ⟨rfl, h1, h2, h3⟩
    have hpn := hpw m.length (B ++ [(jAt D m m.length).map .int]) (by omega)
    have hrg := c_range1 (C := C) (d := d + 1) (ls := B ++ [(jAt D m m.length).map .int]) (n := 2 ^ m.length)
    have hjl := jAt_len (D := D) hz m.length (by omega)
    have hp64 : 2 ^ m.length ≤ 64 := Nat.pow_le_pow_right (by decide) hz
    have hpc : ((2 ^ m.length : Nat) : Int) = 2 ^ m.length := by simp
    unfold mixC
    generalize jAt D m m.length = js at hjl hpn hrg ⊢
    rw [← hpc] at hpn hrg
    clear hpc
    generalize (2 : Nat) ^ m.length = N at hp64 hpn hrg ⊢
    have hfl : ((List.range N).filter fun (one : Nat) => (js.filter fun few => isSub one few) != []).length ≤ 64 := by
      refine Nat.le_trans (List.length_filter_le _ _) ?_
      rw [List.length_range]; exact hp64
    have hle := c_len_lst (C := C) (d := d + 1) (ls := B ++ [js.map PV.int, ((List.range N).filter fun (one : Nat) => (js.filter fun few => isSub one few) != []).map fun _ => PV.int 1]) (n := B.length + 1) (l := ((List.range N).filter fun (one : Nat) => (js.filter fun few => isSub one few) != []).map fun _ => PV.int 1) (by simp) (by rw [List.length_map]; omega)
    rw [List.length_map] at hle
    refine r_return ?_
    refine e_callB (ls1 := B ++ [js.map PV.int, ((List.range N).filter fun (one : Nat) => (js.filter fun few => isSub one few) != []).map fun _ => PV.int 1]) (by walk_at "m-name") (l_cons ?_ l_nil rfl) hle rfl rfl
    have hk1 : B.length + 1 = (B ++ [js.map PV.int] : LS).length := by simp
    rw [hk1]
    refine e_comp (p := .rng 0 (N : Int) 1) (ls1 := B ++ [js.map PV.int]) (cl := [("least", L + 2)]) (ρc := [("least", .lst B.length)]) (items := rngItems 0 (N : Int) 1) (by walk_at "m") (src_range (rng_small (by decide) (by decide) (by omega) (by omega))) (by subst_vars; rfl) (ClOk.one hcel2) (Cl.one (k := .cell) (k' := .cell) (by walk_at "m-look") (by walk_at "m-env") hcel2 (by walk_at "m-env") (fun _ => rfl) (by decide) (by decide)) ?_ rfl (by decide) (fun _ => rfl)
    intro Lc
    rw [rng_map]
    have hap : ∀ (a b : List PV), (B ++ [a] : LS) ++ [b] = B ++ [a, b] := fun a b => by simp
    rw [← hap _ (List.map _ (List.filter _ _))]
    refine cp_filter0 (fun (i : Nat) => PV.int (i : Int)) (fun (one : Nat) => (js.filter fun few => isSub one few) != []) (fun _ => PV.int 1) (B ++ [js.map PV.int]) (fun ρ => LK ρ "least" (.lst B.length)) rfl (fun _ => trivial) (List.range N) _ (by walk_at "m-look") (by rw [List.length_range]; omega) ?_
    intro a ha ρ1 l hle1 hl1
    have ha64 : a < 64 := by have := List.mem_range.mp ha; omega
    generalize he1 : cenvOf _ env Lc _ = env1
    have hc1 : env1.cells.lookup ("one" : Str) = some (Lc + 1) := by subst_vars; rfl
    have hlt1 : env1.locals < Lc + 1 := by
      have : env1.locals = Lc := by subst_vars; rfl
      rw [this]; exact Nat.lt_succ_self _
    refine ⟨_, a_cell (by walk_at "m-env") hc1 hlt1, ?_, e_int, by walk_at "m-look"⟩
    have m0 : LK (pset ρ1 "one" (.int (a : Nat))) "one" (.int (a : Nat)) := by walk_at "m-look"
    have m1 : LK (pset ρ1 "one" (.int (a : Nat))) "least" (.lst B.length) := by walk_at "m-look"
    show BTo _ _ _ _ (pset ρ1 "one" (.int (a : Nat))) _ _ _
    generalize pset ρ1 "one" (.int (a : Nat)) = ρ2 at m0 m1 ⊢
    have hlow : LowLS (B ++ [js.map PV.int] ++ [l]) := by
      intro x hx y hy
      rcases List.mem_append.mp hx with hx | hx
      · rcases List.mem_append.mp hx with hx | hx
        · exact (hLow x hx y hy).le (by simp)
        · rw [List.mem_singleton.mp hx] at hy
          obtain ⟨b, _, rfl⟩ := List.mem_map.mp hy
          exact .int _
      · rw [List.mem_singleton.mp hx] at hy
        obtain ⟨_, rfl⟩ := hl1 y hy
        exact .int _
    refine BTo.drop (X := [(js.filter fun few => isSub (a : Nat) few).map PV.int, []]) ?_ hlow rfl
    have hbl : ((B ++ [js.map PV.int] ++ [l]) : LS)[B.length]? = some (js.map PV.int) := by simp
    have hx2 : (B ++ [js.map PV.int] ++ [l] ++ [(js.filter fun few => isSub (a : Nat) few).map PV.int, []] : LS) = (B ++ [js.map PV.int] ++ [l] ++ [(js.filter fun few => isSub (a : Nat) few).map PV.int]) ++ [[]] := by simp
    rw [hx2]
    have hne := o_ne_nil (C := C) (d := d + 1) (ls := (B ++ [js.map PV.int] ++ [l] ++ [(js.filter fun few => isSub (a : Nat) few).map PV.int]) ++ [[]]) (n := (B ++ [js.map PV.int] ++ [l] : LS).length) (m := (B ++ [js.map PV.int] ++ [l] ++ [(js.filter fun few => isSub (a : Nat) few).map PV.int] : LS).length) (l := (js.filter fun few => isSub (a : Nat) few).map PV.int) (by simp) (by simp)
    rw [not_nil] at hne
    refine b_cmp (ls1 := B ++ [js.map PV.int] ++ [l] ++ [(js.filter fun few => isSub (a : Nat) few).map PV.int]) ?_ (e_list l_nil (by simp)) hne rfl
    refine e_comp (p := .lst B.length) (ls1 := B ++ [js.map PV.int] ++ [l]) (cl := [("one", Lc + 1)]) (ρc := [("one", .int (a : Nat))]) (items := js.map PV.int) (by walk_at "m") (src_list hbl) (by subst_vars; rfl) (ClOk.one hc1) (Cl.one (k := .cell) (k' := .cell) (by walk_at "m-look") (by walk_at "m-env") hc1 (by walk_at "m-env") (fun _ => rfl) (by decide) (by decide)) ?_ rfl (by decide) (fun _ => rfl)
    intro Lc2
    refine cp_filter0 (fun (few : Int) => PV.int few) (fun few => isSub (a : Nat) few) (fun few => PV.int few) (B ++ [js.map PV.int] ++ [l]) (fun ρ => LK ρ "one" (.int (a : Nat))) rfl (fun x => ?_) js _ (by walk_at "m-look") (by omega) ?_
    · rw [List.getElem?_append_left (by simp)]; exact hbl
    intro few hfew ρ3 l3 hone hl3
    generalize he2 : cenvOf _ env1 Lc2 _ = env2
    refine ⟨_, a_loc (by walk_at "m-env"), ?_, ?_, by walk_at "m-look"⟩
    · refine BTo.to (b := (Builtin.bitAnd (a : Nat) few == few)) ?_ rfl
      walk_at "m"
    · walk_at "m"
end Mine
end
section
open PySem PySem.W PySem.Calls PyProof.Rows
set_option maxRecDepth 100000
set_option linter.unusedVariables false
set_option maxHeartbeats 4000000
namespace Mine
theorem fn103 {C : Cx} (g : G2 C) : Fn C 103 := ⟨_, _, g.k _ _ (by with_unfolding_all rfl), by with_unfolding_all rfl⟩
theorem fn110 {C : Cx} (g : G2 C) : Fn C 110 := ⟨_, _, g.k _ _ (by with_unfolding_all rfl), by with_unfolding_all rfl⟩
theorem fn138 {C : Cx} (g : G2 C) : Fn C 138 := ⟨_, _, g.k _ _ (by with_unfolding_all rfl), by with_unfolding_all rfl⟩
theorem fn150 {C : Cx} (g : G2 C) : Fn C 150 := ⟨_, _, g.k _ _ (by with_unfolding_all rfl), by with_unfolding_all rfl⟩
theorem fn155 {C : Cx} (g : G2 C) : Fn C 155 := ⟨_, _, g.k _ _ (by with_unfolding_all rfl), by with_unfolding_all rfl⟩
def tintP (D p : Int) : List UInt64 := [fl p 5, fl (sa D p) 2, fl (sb D p) 2]
theorem fl_num {k : Int} {c : Nat} (f : Fit k c) : Float64.cmp (fl k c) (fl k c) = some .eq := by rw [fl_cmp f f, Int.compare_eq_eq.mpr rfl]
theorem tintP_nums (D : Int) {p : Int} (hp : 0 ≤ p ∧ p < 32) : Nums (tintP D p) := by
  have h1 := sa_b D p
  have h2 := sb_b D p
  intro x hx
  unfold tintP at hx
  simp only [List.mem_cons, List.not_mem_nil, or_false] at hx
  rcases hx with rfl | rfl | rfl
  · exact fl_num (fitS (by omega) (by decide))
  · exact fl_num (fitS (by omega) (by decide))
  · exact fl_num (fitS (by omega) (by decide))
theorem back_col {C : Cx} {d : Nat} {ls : LS} (g2 : G2 C) {p D : Int} (hp : 0 ≤ p ∧ p < 32) : ∃ x y z, colPF D p = [x, y, z] ∧ CTo C (d + 1) (.ref 65) [.flt x, .flt y, .flt z] [] ls (ft (tintP D p)) ls := by
  obtain ⟨x, y, z, hx⟩ := colI_three 5 p (sa D p) (sb D p)
  refine ⟨fl x (cE 5), fl y (cE 5), fl z (cE 5), by unfold colPF colP; rw [hx]; rfl, ?_⟩
  exact rgb_col g2 (colOk5 D hp) hx
abbrev mOf (t : Int) (xs : List Int) : List Int := isort (plcAt t xs xs.length)
theorem mOf_b (t : Int) (xs : List Int) : ∀ p ∈ mOf t xs, 0 ≤ p ∧ p < 32 := fun p hp => plcAt_b t xs _ p ((isort_perm _).mem_iff.mp hp)
theorem mOf_len (t : Int) (xs : List Int) : (mOf t xs).length ≤ xs.length := by rw [(isort_perm _).length_eq]; exact plcAt_len t xs _
theorem right_spec {C : Cx} {d : Nat} {ls : LS} (g2 : G2 C) (hf : FlatLS ls) {n : Nat} {xs : List Int} {t D : Int} (hn : ls[n]? = some (xs.map rowP)) (hl : xs.length ≤ 6) (h0 : 0 ≤ t) (ht : t ≤ 2) :
    CTo C (d + 6) (.ref 155) [.str (T (dueL t xs)), .lst n, .int t, .int D] [] ls (.bool (halvAt (mOf t xs) (mOf t xs).length == (mixC D (mOf t xs) : Int))) ls := by
  refine CTo.drop (X := [cols D (mOf t xs), (mOf t xs).map .int, (mOf t xs).map fun p => ft (tintP D p), (mOf t xs).map fun p => ft (tintP D p)]) ?_ hf rfl (.bool _)
  refine c_def (xs := ["sent", "rows", "times", "draw"]) g2.ok (g2.k _ _ (by with_unfolding_all rfl)) (by with_unfolding_all rfl) ?hcd (by with_unfolding_all rfl) ?hbind (by rfl) ?hkind (by decide) (by rfl) (by rfl) (by rfl) ?_
  case hcd => exact codeRec_of g2.k (by with_unfolding_all rfl)
  case hbind =>
    intro vs hl
    match vs, hl with
    | [a, b, c, e], _ => rfl
  case hkind => intro L; rfl
  intro L
  generalize he : callEnvC _ L 155 = env
  have hs : (10000 : Nat) ≤ sizeLine := by decide
  have hnl : n < ls.length := (List.getElem?_eq_some_iff.mp hn).1
  have hnX : ∀ X : LS, (ls ++ X)[n]? = some (xs.map rowP) := fun X => by rw [List.getElem?_append_left hnl]; exact hn
  have f103 := fn103 g2
  have f110 := fn110 g2
  have f131 := fn131 g2
  have f138 := fn138 g2
  have f150 := fn150 g2
  have f117 := fn117 g2
  have f65 := fn65 g2
  have c1 := dueText_spec (d := d + 4) g2 hn hl h0 ht
  have c2 := wheel_spec (d := d) g2 hf (t := t) (D := D) hl h0 ht
  have hf2 : FlatLS (ls ++ [cols D (mOf t xs)]) := by
    intro x hx y hy
    rcases List.mem_append.mp hx with hx | hx
    · exact hf x hx y hy
    · rw [List.mem_singleton.mp hx] at hy
      obtain ⟨p, _, rfl⟩ := List.mem_map.mp hy
      refine .tup fun w hw => ?_
      obtain ⟨u, _, rfl⟩ := List.mem_map.mp hw
      exact .flt _
  have c3 := duePlaces_spec (d := d + 4) g2 hf2 (hnX _) hl h0 ht
  rw [List.length_append, List.length_singleton, List.append_assoc, List.singleton_append] at c3
  have hmb := mOf_b t xs
  have hml := mOf_len t xs
  have hms : (mOf t xs).Pairwise (· ≤ ·) := isort_sorted _
  change CTo _ _ _ _ _ _ (.lst ls.length) (ls ++ [cols D (mOf t xs)]) at c2
  change CTo _ _ _ _ _ _ _ (ls ++ [cols D (mOf t xs), (mOf t xs).map .int]) at c3
  change CTo _ _ _ _ _ (ls ++ [cols D (mOf t xs)]) (.lst (ls.length + 1)) _ at c3
  show RTo _ _ _ _ _ _ _ _
  generalize mOf t xs = m at *
  with_reducible apply r_ifF
  · walk_at "m"
  · simp
  have hcel : env.cells.lookup ("draw" : Str) = some (L + 1) := by subst_vars; rfl
  refine r_cons (ls1 := ls ++ [cols D m]) (by walk_at "m") ?_
  refine r_cons (ls1 := ls ++ [cols D m, m.map .int, m.map fun p => ft (tintP D p)]) (x_acomp (p := .lst (ls.length + 1)) (ls1 := ls ++ [cols D m, m.map .int]) (cl := [("draw", L + 1)]) (ρc := [("draw", .int D)]) (items := m.map .int) ?_ (src_list (by simp)) (by subst_vars; rfl) (ClOk.one hcel) (Cl.one (k := .cell) (k' := .cell) (by walk_at "m-look") (by walk_at "m-env") hcel (by walk_at "m-env") (fun _ => rfl) (by decide) (by decide)) ?_ (by walk_at "m-env") (by subst_vars; rfl) rfl (by decide) (fun _ => rfl)) ?_
  · walk_at "m"
  · intro Lc
    have hap : ∀ (a b c : List PV), (ls ++ [a, b] : LS) ++ [c] = ls ++ [a, b, c] := fun a b c => by simp
    rw [← hap]
    refine cp_map0 (fun (p : Int) => PV.int p) (fun p => ft (tintP D p)) (ls ++ [cols D m, m.map .int]) (fun ρ => LK ρ "draw" (.int D)) rfl (fun l => by simp) m _ (by walk_at "m-look") (by omega) ?_
    intro p hp ρ1 l hd
    have hpb := hmb p hp
    generalize he1 : cenvOf _ env Lc _ = env1
    have ct : CTo C (d + 5) (.ref 117) [.int p, .int D] [] (ls ++ [cols D m, m.map .int] ++ [l]) (ft (tintP D p)) (ls ++ [cols D m, m.map .int] ++ [l]) := tint_col (d := d + 4) (ls := ls ++ [cols D m, m.map .int] ++ [l]) g2 (D := D) hpb
    refine ⟨_, a_loc (by walk_at "m-env"), ?_, by walk_at "m-look"⟩
    walk_at "m"
  have hlen2 : (ls ++ [cols D m, m.map .int] : LS).length = ls.length + 2 := by simp
  rw [hlen2]
  have hlen3 : (ls ++ [cols D m, m.map .int, m.map fun p => ft (tintP D p)] : LS).length = ls.length + 3 := by simp
  have htt : (m.map fun p => ft (tintP D p)) = (m.map (tintP D)).map ft := by rw [List.map_map]; rfl
  have hne := o_ne_fts (C := C) (d := d + 5) (ls := ls ++ [cols D m, m.map .int, m.map fun p => ft (tintP D p), m.map fun p => ft (tintP D p)]) (n := ls.length + 3) (m := ls.length + 2) (L := m.map (tintP D)) g2.ok (by rw [← htt]; simp) (by rw [← htt]; simp) (fun g hg => by
    obtain ⟨p, hp, rfl⟩ := List.mem_map.mp hg
    exact tintP_nums D (hmb p hp))
  with_reducible apply r_ifF
  · refine b_cmp (p := .lst (ls.length + 3)) (ls1 := ls ++ [cols D m, m.map .int, m.map fun p => ft (tintP D p), m.map fun p => ft (tintP D p)]) ?_ ?_ hne rfl
    · rw [← hlen3]
      refine e_comp (p := .lst ls.length) (ls1 := ls ++ [cols D m, m.map .int, m.map fun p => ft (tintP D p)]) (cl := []) (ρc := []) (items := cols D m) (by walk_at "m") (src_list (by simp)) (by subst_vars; rfl) .nil .nil ?_ rfl (by decide) (fun _ => rfl)
      intro Lc
      have hap : ∀ (a b c e : List PV), (ls ++ [a, b, c] : LS) ++ [e] = ls ++ [a, b, c, e] := fun a b c e => by simp
      rw [← hap]
      refine cp_map0 (fun p => ft (colPF D p)) (fun p => ft (tintP D p)) (ls ++ [cols D m, m.map .int, m.map fun p => ft (tintP D p)]) (fun ρ => True) rfl (fun l => by simp) m _ trivial (by omega) ?_
      intro p hp ρ1 l _
      have hpb := hmb p hp
      generalize he1 : cenvOf _ env Lc _ = env1
      obtain ⟨x, y, z, hx, ct⟩ := back_col (d := d + 4) (ls := ls ++ [cols D m, m.map .int, m.map fun p => ft (tintP D p)] ++ [l]) g2 (D := D) hpb
      rw [hx]
      refine ⟨_, a_tup (ps := [.flt x, .flt y, .flt z]) (.cons (a_loc (by walk_at "m-env")) (.cons (a_loc (by walk_at "m-env")) (.cons (a_loc (by walk_at "m-env")) .nil (fun _ => rfl)) (fun _ => rfl)) (fun _ => rfl)), ?_, trivial⟩
      walk_at "m"
    · walk_at "m"
  · rfl
  have hff : ∀ (l : List (List UInt64)), ∀ y ∈ l.map ft, Flat y := by
    intro l y hy
    obtain ⟨p, _, rfl⟩ := List.mem_map.mp hy
    refine .tup fun w hw => ?_
    obtain ⟨u, _, rfl⟩ := List.mem_map.mp hw
    exact .flt _
  have hf3 : FlatLS (ls ++ [cols D m, m.map .int, m.map fun p => ft (tintP D p), m.map fun p => ft (tintP D p)]) := by
    intro x hx y hy
    rcases List.mem_append.mp hx with hx | hx
    · exact hf x hx y hy
    · simp only [List.mem_cons, List.not_mem_nil, or_false] at hx
      rw [htt, cols_ft] at hx
      rcases hx with rfl | rfl | rfl | rfl
      · exact hff _ y hy
      · obtain ⟨p, _, rfl⟩ := List.mem_map.mp hy
        exact .int _
      · exact hff _ y hy
      · exact hff _ y hy
  have ch := halves_spec (d := d + 1) (ls := ls ++ [cols D m, m.map .int, m.map fun p => ft (tintP D p), m.map fun p => ft (tintP D p)]) (n := ls.length) (D := D) g2 (by simp) hms hmb (by omega)
  have cm := mixing_spec (d := d + 3) (n := ls.length) (D := D) (m := m) g2 hf3 (by simp) hmb (by omega)
  refine r_return (e_cmp (p := .int (halvAt m m.length)) (q := .int (mixC D m)) (ls1 := ls ++ [cols D m, m.map .int, m.map fun p => ft (tintP D p), m.map fun p => ft (tintP D p)]) (ls2 := ls ++ [cols D m, m.map .int, m.map fun p => ft (tintP D p), m.map fun p => ft (tintP D p)]) ?_ ?_ o_eq_int rfl)
  · walk_at "m"
  · walk_at "m"
end Mine
end
section
open PySem PySem.W PySem.Calls PyProof.Rows
set_option maxRecDepth 100000
set_option linter.unusedVariables false
namespace Mine
/-! what is sent, in plain -/
def endC (x : Int) : List Nat := if (x.fdiv 8).fmod 3 = 0 then [10] else if (x.fdiv 8).fmod 3 = 1 then [13] else [13, 10]
theorem endOf_T (x : Int) : endOf x = T (endC x) := by
  unfold endOf endC
  split
  · decide +kernel
  · split <;> decide +kernel
def bodyC (x : Int) : List Nat := List.replicate (dt x).toNat 46 ++ List.replicate (lt x).toNat 97
def rawR (x : Int) : List Nat := bodyC x ++ endC x
def rawL : List Int → List Nat
  | [] => []
  | x :: xs => rawR x ++ rawL xs
theorem body_ne {x : Int} : ∀ c ∈ bodyC x, c ≠ 10 ∧ c ≠ 13 := by
  intro c hc
  unfold bodyC at hc
  rcases List.mem_append.mp hc with h | h
  · rw [(List.mem_replicate.mp h).2]; decide
  · rw [(List.mem_replicate.mp h).2]; decide
theorem ends_plain : ∀ (a r : List Nat), (∀ c ∈ a, c ≠ 10 ∧ c ≠ 13) → ends (a ++ r) = a ++ ends r
  | [], r, _ => rfl
  | c :: a, r, h => by
    have h1 := h c (by simp)
    rw [List.cons_append, ends_other _ _ h1.1 h1.2, ends_plain a r (fun x hx => h x (by simp [hx]))]; rfl
theorem body_head (x : Int) : ∃ c r, bodyC x = c :: r ∧ c ≠ 10 := by
  have h1 := lt_b x
  have h2 := dt_b x
  unfold bodyC
  rw [show (lt x).toNat = ((lt x).toNat - 1) + 1 by omega, List.replicate_succ]
  cases (dt x).toNat with
  | zero => exact ⟨97, _, rfl, by decide⟩
  | succ n => exact ⟨46, _, rfl, by decide⟩
theorem raw_head (xs : List Int) : ∀ r', rawL xs ≠ 10 :: r' := by
  intro r' e
  cases xs with
  | nil => cases e
  | cons x xs =>
    obtain ⟨c, r, h1, h2⟩ := body_head x
    unfold rawL rawR at e
    rw [h1] at e
    exact h2 (List.cons.inj e).1
theorem ends_end (x : Int) (r : List Nat) (h : ∀ r', r ≠ 10 :: r') : ends (endC x ++ r) = 13 :: 10 :: ends r := by
  unfold endC
  split
  · show ends (10 :: r) = _; rw [ends]
  · split
    · exact ends_13 r h
    · show ends (13 :: 10 :: r) = _; rw [ends]
theorem dueRow0 (x : Int) : dueRow 0 x = bodyC x ++ [13, 10] := by
  unfold dueRow bodyC
  rw [show dt x * (1 + 0) = dt x by omega]
theorem ends_raw : ∀ xs : List Int, ends (rawL xs) = dueL 0 xs
  | [] => by simp [rawL, dueL, ends]
  | x :: xs => by
    unfold rawL dueL rawR
    rw [List.append_assoc, ends_plain _ _ body_ne, ends_end x _ (raw_head xs), ends_raw xs, dueRow0]; simp
theorem row_ne {t x : Int} : ∀ c ∈ rowTx t x, c ≠ 10 ∧ c ≠ 13 := by
  intro c hc
  unfold rowTx at hc
  rcases List.mem_append.mp hc with h | h
  · rw [(List.mem_replicate.mp h).2]; decide
  · rw [(List.mem_replicate.mp h).2]; decide
theorem dueRow_eq (t x : Int) : dueRow t x = rowTx t x ++ [13, 10] := rfl
theorem ends_due (t : Int) : ∀ xs : List Int, ends (dueL t xs) = dueL t xs
  | [] => by simp [dueL, ends]
  | x :: xs => by
    unfold dueL
    rw [dueRow_eq, List.append_assoc, ends_plain _ _ row_ne]
    show rowTx t x ++ ends (13 :: 10 :: dueL t xs) = _
    rw [ends, ends_due t xs]; rfl
theorem dots_plain : ∀ (a r : List Nat), (∀ c ∈ a, c ≠ 10) → dots false (a ++ r) = a ++ dots false r
  | [], r, _ => rfl
  | c :: a, r, h => by
    have h1 := h c (by simp)
    have e : (c == 10) = false := by simpa using h1
    rw [List.cons_append, dots, e, dots_plain a r (fun x hx => h x (by simp [hx]))]; rfl
theorem dots_row {t : Int} (h0 : 0 ≤ t) (x : Int) (r : List Nat) : dots true (dueRow t x ++ r) = dueRow (t + 1) x ++ dots true r := by
  have h1 := lt_b x
  have h2 := dt_b x
  have fin : dots false ([13, 10] ++ r) = [13, 10] ++ dots true r := by
    show dots false (13 :: 10 :: r) = _
    rw [dots, dots]; rfl
  have hd : dt x = 0 ∨ dt x = 1 := by omega
  rcases hd with hd | hd
  · have e1 : rowTx t x = 97 :: List.replicate ((lt x).toNat - 1) 97 := by
      unfold rowTx
      rw [hd, show ((0 : Int) * (1 + t)).toNat = 0 by omega, show (lt x).toNat = ((lt x).toNat - 1) + 1 by omega]; rfl
    have e2 : rowTx (t + 1) x = rowTx t x := by
      unfold rowTx
      rw [hd, show ((0 : Int) * (1 + t)).toNat = 0 by omega, show ((0 : Int) * (1 + (t + 1))).toNat = 0 by omega]
    rw [dueRow_eq, dueRow_eq, e2, e1, List.append_assoc, List.append_assoc]
    show dots true (97 :: (List.replicate ((lt x).toNat - 1) 97 ++ ([13, 10] ++ r))) = 97 :: (List.replicate ((lt x).toNat - 1) 97 ++ ([13, 10] ++ dots true r))
    rw [dots]
    show [97] ++ dots false _ = _
    rw [dots_plain _ _ (fun c hc => by rw [(List.mem_replicate.mp hc).2]; decide), fin]; rfl
  · have e1 : rowTx t x = 46 :: (List.replicate t.toNat 46 ++ List.replicate (lt x).toNat 97) := by
      unfold rowTx
      rw [hd, show ((1 : Int) * (1 + t)).toNat = t.toNat + 1 by omega]; rfl
    have e2 : rowTx (t + 1) x = 46 :: 46 :: (List.replicate t.toNat 46 ++ List.replicate (lt x).toNat 97) := by
      unfold rowTx
      rw [hd, show ((1 : Int) * (1 + (t + 1))).toNat = t.toNat + 1 + 1 by omega]; rfl
    rw [dueRow_eq, dueRow_eq, e2, e1, List.append_assoc, List.append_assoc]
    show dots true (46 :: (List.replicate t.toNat 46 ++ List.replicate (lt x).toNat 97 ++ ([13, 10] ++ r))) = 46 :: 46 :: (List.replicate t.toNat 46 ++ List.replicate (lt x).toNat 97 ++ ([13, 10] ++ dots true r))
    rw [dots]
    show [46, 46] ++ dots false _ = _
    rw [dots_plain _ _ (fun c hc => by
      rcases List.mem_append.mp hc with hc | hc
      · rw [(List.mem_replicate.mp hc).2]; decide
      · rw [(List.mem_replicate.mp hc).2]; decide), fin]; rfl
theorem dots_due {t : Int} (h0 : 0 ≤ t) : ∀ xs : List Int, dots true (dueL t xs) = dueL (t + 1) xs
  | [] => by simp [dueL, dots]
  | x :: xs => by
    unfold dueL
    rw [dots_row h0, dots_due h0 xs]
theorem quoted_raw (xs : List Int) : quoted (rawL xs) = dueL 1 xs := by
  unfold quoted
  rw [ends_raw, dots_due (by decide)]; rfl
theorem quoted_due (xs : List Int) : quoted (dueL 1 xs) = dueL 2 xs := by
  unfold quoted
  rw [ends_due, dots_due (by decide)]; rfl
theorem rawR_len (x : Int) : (rawR x).length ≤ 7 := by
  have h1 := lt_b x
  have h2 := dt_b x
  have h3 : (endC x).length ≤ 2 := by unfold endC; split; decide; split <;> decide
  unfold rawR bodyC
  simp only [List.length_append, List.length_replicate]
  omega
theorem rawL_len : ∀ xs : List Int, (rawL xs).length ≤ 7 * xs.length
  | [] => by simp [rawL]
  | x :: xs => by
    have h1 := rawR_len x
    have h2 := rawL_len xs
    unfold rawL
    rw [List.length_append, List.length_cons]; omega
/-! glued -/
theorem glue_cat : ∀ (l : List (List Nat)) (a : List Nat), (⟨(l.map T).foldl (fun acc p => acc ++ (T []).cps ++ p.cps) (T a).cps⟩ : Str) = T (a ++ l.flatten)
  | [], a => by simp
  | b :: l, a => by
    rw [List.map_cons, List.foldl_cons]
    have e : (T a).cps ++ (T []).cps ++ (T b).cps = (T (a ++ b)).cps := by unfold T; simp
    rw [e, glue_cat l (a ++ b)]; simp
theorem glued_T (l : List (List Nat)) : Builtin.Str.glued (T []) (l.map T) = T l.flatten := by
  unfold Builtin.Str.glued
  cases l with
  | nil => simp; rfl
  | cons a l =>
    have := glue_cat l a
    simpa using this
theorem raw_flat : ∀ xs : List Int, (xs.map rawR).flatten = rawL xs
  | [] => rfl
  | x :: xs => by rw [List.map_cons, List.flatten_cons, raw_flat xs]; rfl
end Mine
end
section
open PySem PySem.W PySem.Calls PyProof.Rows
set_option maxRecDepth 100000
set_option linter.unusedVariables false
namespace Mine
/-! a turn's sign hangs on the places alone -/
def gI (p : Int) : List Int := pickI (cI 5 p) 0 (cM 5) (cF 5 p) (cM 5 - cF 5 p)
theorem pickI_map {α β : Type} (f : α → β) (i : Int) (v p q t : α) : (pickI i v p q t).map f = pickI i (f v) (f p) (f q) (f t) := by
  unfold pickI
  repeat' split
  all_goals rfl
theorem colP_g (D p : Int) : colP D p = (gI p).map fun g => sb D p * (4 * cM 5 - sa D p * g) := by
  unfold colP colI gI
  rw [pickI_map]
  have e1 : cV 5 (sb D p) = sb D p * (4 * cM 5 - sa D p * 0) := by unfold cV; rw [Int.mul_zero, Int.sub_zero]
  have e2 : cP 5 (sa D p) (sb D p) = sb D p * (4 * cM 5 - sa D p * cM 5) := by unfold cP; rw [Int.sub_mul]
  rw [e1, e2]; rfl
theorem turn_scale (M b1 b2 a1 a2 x0 x1 x2 y0 y1 y2 : Int) : turnI [b1 * (4 * M - a1 * x0), b1 * (4 * M - a1 * x1), b1 * (4 * M - a1 * x2)] [b2 * (4 * M - a2 * y0), b2 * (4 * M - a2 * y1), b2 * (4 * M - a2 * y2)] = (b1 * a1 * (b2 * a2)) * turnI [x0, x1, x2] [y0, y1, y2] := by
  unfold turnI
  grind
theorem gI_three (p : Int) : ∃ x y z, gI p = [x, y, z] := by
  unfold gI pickI
  repeat' split
  all_goals exact ⟨_, _, _, rfl⟩
theorem trn_g (D p q : Int) : ∃ k : Int, 0 < k ∧ trn D p q = k * turnI (gI p) (gI q) := by
  have h1 := sa_b D p
  have h2 := sb_b D p
  have h3 := sa_b D q
  have h4 := sb_b D q
  refine ⟨sb D p * sa D p * (sb D q * sa D q), Int.mul_pos (Int.mul_pos (by omega) (by omega)) (Int.mul_pos (by omega) (by omega)), ?_⟩
  unfold trn
  rw [colP_g, colP_g]
  obtain ⟨x0, x1, x2, hx⟩ := gI_three p
  obtain ⟨y0, y1, y2, hy⟩ := gI_three q
  rw [hx, hy]
  exact turn_scale _ _ _ _ _ _ _ _ _ _ _
def posN (p q : Nat) : Bool := Nat.ble 1 ((q + 32 - p) % 32) && Nat.ble ((q + 32 - p) % 32) 15
def zerN (p q : Nat) : Bool := Nat.beq ((q + 32 - p) % 16) 0
def sgnOk (p q : Nat) : Bool := (decide (0 < turnI (gI p) (gI q)) == posN p q) && (decide (turnI (gI p) (gI q) = 0) == zerN p q)
theorem sgn_all : ((List.range 32).all fun p => (List.range 32).all fun q => sgnOk p q) = true := by decide +kernel
theorem sgn_at {p q : Nat} (hp : p < 32) (hq : q < 32) : decide (0 < turnI (gI p) (gI q)) = posN p q ∧ decide (turnI (gI p) (gI q) = 0) = zerN p q := by
  have h := List.all_eq_true.mp (List.all_eq_true.mp sgn_all p (List.mem_range.mpr hp)) q (List.mem_range.mpr hq)
  unfold sgnOk at h
  rw [Bool.and_eq_true, beq_iff_eq, beq_iff_eq] at h
  exact h
theorem pos_mul {k z : Int} (h : 0 < k) : decide (0 < k * z) = decide (0 < z) := by
  refine decide_eq_decide.mpr ⟨fun e => ?_, fun e => Int.mul_pos h e⟩
  rcases Int.lt_trichotomy z 0 with h1 | h1 | h1
  · have := Int.mul_neg_of_pos_of_neg h h1
    omega
  · rw [h1, Int.mul_zero] at e; omega
  · exact h1
theorem zer_mul {k z : Int} (h : 0 < k) : decide (k * z = 0) = decide (z = 0) := by
  refine decide_eq_decide.mpr ⟨fun e => ?_, fun e => by rw [e, Int.mul_zero]⟩
  rcases Int.mul_eq_zero.mp e with e | e
  · omega
  · exact e
def pN (m : List Int) (i : Nat) : Nat := (m.getD i 0).toNat
theorem tg_sgn (D : Int) {m : List Int} (hm : ∀ p ∈ m, 0 ≤ p ∧ p < 32) (i j : Nat) : decide (0 < tg D m i j) = posN (pN m i) (pN m j) ∧ decide (tg D m i j = 0) = zerN (pN m i) (pN m j) := by
  have hg : ∀ i, 0 ≤ m.getD i 0 ∧ m.getD i 0 < 32 := fun i => by
    rw [List.getD_eq_getElem?_getD]
    cases e : m[i]? with
    | none => exact ⟨by decide, by decide⟩
    | some x => exact hm x (List.mem_of_getElem? e)
  obtain ⟨k, hk, e⟩ := trn_g D (m.getD i 0) (m.getD j 0)
  have h1 := hg i
  have h2 := hg j
  have z := sgn_at (p := pN m i) (q := pN m j) (by unfold pN; omega) (by unfold pN; omega)
  have e1 : ((pN m i : Nat) : Int) = m.getD i 0 := by unfold pN; omega
  have e2 : ((pN m j : Nat) : Int) = m.getD j 0 := by unfold pN; omega
  rw [e1, e2] at z
  unfold tg
  rw [e, pos_mul hk, zer_mul hk]
  exact z
/-! the least sets, on plain numbers -/
def addKN (m : List Int) (i j k : Nat) (acc : List Nat) : List Nat := if (posN (pN m i) (pN m j) && (posN (pN m j) (pN m k) && posN (pN m k) (pN m i))) = true then acc ++ [2 ^ i + 2 ^ j + 2 ^ k] else acc
def kN (m : List Int) (i j : Nat) (acc : List Nat) : Nat → List Nat
  | 0 => acc
  | a + 1 => addKN m i j (j + 1 + a) (kN m i j acc a)
def addIN (m : List Int) (i j : Nat) (acc : List Nat) : List Nat := if zerN (pN m i) (pN m j) = true then acc ++ [2 ^ i + 2 ^ j] else acc
def iN (m : List Int) (j : Nat) (acc : List Nat) : Nat → List Nat
  | 0 => acc
  | i + 1 => kN m i j (addIN m i j (iN m j acc i)) (m.length - (j + 1))
def jN (m : List Int) : Nat → List Nat
  | 0 => []
  | j + 1 => iN m j (jN m j) j
section
variable {D : Int} {m : List Int} (hm : ∀ p ∈ m, 0 ≤ p ∧ p < 32)
include hm
abbrev ofN (l : List Nat) : List Int := l.map fun (x : Nat) => (x : Int)
theorem addK_N (i j k : Nat) (acc : List Nat) : addK D m i j k (ofN acc) = ofN (addKN m i j k acc) := by
  unfold addK addKN
  rw [← (tg_sgn D hm i j).1, ← (tg_sgn D hm j k).1, ← (tg_sgn D hm k i).1]
  simp only [Bool.and_eq_true, decide_eq_true_eq]
  split
  · simp
  · rfl
theorem k_N (i j : Nat) (acc : List Nat) : ∀ a, kAt D m i j (ofN acc) a = ofN (kN m i j acc a)
  | 0 => rfl
  | a + 1 => by rw [kAt, k_N i j acc a, addK_N hm]; rfl
theorem addI_N (i j : Nat) (acc : List Nat) : addI D m i j (ofN acc) = ofN (addIN m i j acc) := by
  unfold addI addIN
  rw [← (tg_sgn D hm i j).2]
  simp only [decide_eq_true_eq]
  split
  · simp
  · rfl
theorem i_N (j : Nat) (acc : List Nat) : ∀ i, iAt D m j (ofN acc) i = ofN (iN m j acc i)
  | 0 => rfl
  | i + 1 => by rw [iAt, i_N j acc i, addI_N hm, k_N hm]; rfl
theorem j_N : ∀ j, jAt D m j = ofN (jN m j)
  | 0 => rfl
  | j + 1 => by rw [jAt, j_N j, i_N hm]; rfl
end
def mixN (m : List Int) : Nat := ((List.range (2 ^ m.length)).filter fun one => (jN m m.length).any fun few => Nat.beq (one &&& few) few).length
theorem sub_N (one few : Nat) : isSub (one : Int) (few : Int) = Nat.beq (one &&& few) few := by
  unfold isSub Builtin.bitAnd
  have h1 : decide ((0 : Int) ≤ (one : Int)) = true := by simp
  have h2 : decide ((0 : Int) ≤ (few : Int)) = true := by simp
  rw [h1, h2]
  show (((one &&& few : Nat) : Int) == (few : Int)) = _
  rw [Bool.eq_iff_iff, beq_iff_eq, Nat.beq_eq]
  omega
theorem filter_any {α : Type} [BEq α] (p : α → Bool) (l : List α) : (l.filter p != []) = l.any p := by
  induction l with
  | nil => rfl
  | cons a l ih =>
    rw [List.filter_cons, List.any_cons]
    cases p a with
    | true => rfl
    | false => simpa using ih
theorem mix_N {D : Int} {m : List Int} (hm : ∀ p ∈ m, 0 ≤ p ∧ p < 32) : mixC D m = mixN m := by
  unfold mixC mixN
  rw [j_N hm]
  congr 1
  refine List.filter_congr fun one _ => ?_
  rw [filter_any]
  unfold ofN
  rw [List.any_map]
  congr 1
  funext few
  exact sub_N one few
/-! the places, by the rows' widths -/
def plW (ws : List Int) : Nat → List Int
  | 0 => []
  | i + 1 => nub1 (plW ws i) (plc (ws.take i).sum)
theorem sumW_sum (t : Int) : ∀ xs : List Int, sumW t xs = (xs.map (wid t)).sum
  | [] => rfl
  | x :: xs => by rw [sumW, sumW_sum t xs, List.map_cons, List.sum_cons]
theorem plAt_W (t : Int) (xs : List Int) : ∀ i, plcAt t xs i = plW (xs.map (wid t)) i
  | 0 => rfl
  | i + 1 => by rw [plcAt, plAt_W t xs i, plW, sumW_sum, List.map_take]
theorem plW_congr {ws vs : List Int} : ∀ n, (∀ i, i < n → ws.take i = vs.take i) → plW ws n = plW vs n
  | 0, _ => rfl
  | n + 1, h => by rw [plW, plW, plW_congr n (fun i hi => h i (by omega)), h n (by omega)]
def chk (ws : List Int) : Bool := decide (halvAt (isort (plW ws ws.length)) (isort (plW ws ws.length)).length = (mixN (isort (plW ws ws.length)) : Int))
theorem chk_0 (t : Nat) (h : t = 1 ∨ t = 2) : chk [4, 4 + t, 0] = true := by
  rcases h with rfl | rfl <;> decide +kernel
theorem chk_1 (t : Nat) (h : t = 1 ∨ t = 2) : chk [4, 4 + t, 6 + t, 0] = true := by
  rcases h with rfl | rfl <;> decide +kernel
theorem chk_2 : ((List.range 2).all fun t => (List.range 7).all fun a => chk [4, 5 + t, 7 + t, 3 + a, 0]) = true := by decide +kernel
theorem chk_3a : ((List.range 7).all fun a => (List.range 7).all fun b => chk [4, 5, 7, 3 + a, 3 + b, 0]) = true := by decide +kernel
theorem chk_3b : ((List.range 7).all fun a => (List.range 7).all fun b => chk [4, 6, 8, 3 + a, 3 + b, 0]) = true := by decide +kernel
theorem range_all {n : Nat} {p : Nat → Bool} (h : (List.range n).all p = true) {a : Nat} (ha : a < n) : p a = true := List.all_eq_true.mp h a (List.mem_range.mpr ha)
theorem chk_last {ws vs : List Int} (h : chk (ws ++ [0]) = true) (w : Int) : chk (ws ++ [w]) = true := by
  have e : plW (ws ++ [w]) (ws ++ [w]).length = plW (ws ++ [0]) (ws ++ [0]).length := by
    rw [List.length_append, List.length_append]
    refine plW_congr _ fun i hi => ?_
    have hi : i ≤ ws.length := by simp at hi; omega
    rw [List.take_append_of_le_length hi, List.take_append_of_le_length hi]
  unfold chk at h ⊢
  rw [e]
  exact h
theorem nat_of {w : Int} (h : 3 ≤ w ∧ w ≤ 9) : ∃ a : Nat, a < 7 ∧ w = 3 + a := ⟨(w - 3).toNat, by omega, by omega⟩
theorem chk_mail {t : Int} (ht : t = 1 ∨ t = 2) (ys : List Int) (hl : ys.length ≤ 3) : chk (([2, 9, 21] ++ ys).map (wid t)) = true := by
  have hb : ∀ y, 3 ≤ wid t y ∧ wid t y ≤ 9 := wid_b (by omega) (by omega)
  have hw : [2, 9, 21].map (wid t) = [4, 4 + t, 6 + t] := by rcases ht with rfl | rfl <;> decide
  rw [List.map_append, hw]
  match ys, hl with
  | [], _ =>
    refine chk_last (ws := [4, 4 + t]) (vs := []) ?_ _
    rcases ht with rfl | rfl
    · exact chk_0 1 (.inl rfl)
    · exact chk_0 2 (.inr rfl)
  | [y], _ =>
    refine chk_last (ws := [4, 4 + t, 6 + t]) (vs := []) ?_ _
    rcases ht with rfl | rfl
    · exact chk_1 1 (.inl rfl)
    · exact chk_1 2 (.inr rfl)
  | [y, z], _ =>
    refine chk_last (ws := [4, 4 + t, 6 + t, wid t y]) (vs := []) ?_ _
    obtain ⟨a, ha, e⟩ := nat_of (hb y)
    rw [e]
    rcases ht with rfl | rfl
    · exact range_all (range_all chk_2 (a := 0) (by decide)) ha
    · exact range_all (range_all chk_2 (a := 1) (by decide)) ha
  | [y, z, u], _ =>
    refine chk_last (ws := [4, 4 + t, 6 + t, wid t y, wid t z]) (vs := []) ?_ _
    obtain ⟨a, ha, e⟩ := nat_of (hb y)
    obtain ⟨b, hb', e2⟩ := nat_of (hb z)
    rw [e, e2]
    rcases ht with rfl | rfl
    · exact range_all (range_all chk_3a ha) hb'
    · exact range_all (range_all chk_3b ha) hb'
/-- the two counts are one -/
theorem counts {t : Int} (ht : t = 1 ∨ t = 2) (D : Int) (ys : List Int) (hl : ys.length ≤ 3) :
    (halvAt (mOf t ([2, 9, 21] ++ ys)) (mOf t ([2, 9, 21] ++ ys)).length == (mixC D (mOf t ([2, 9, 21] ++ ys)) : Int)) = true := by
  have h := chk_mail ht ys hl
  have hm := mOf_b t ([2, 9, 21] ++ ys)
  rw [mix_N hm]
  have e : mOf t ([2, 9, 21] ++ ys) = isort (plW (([2, 9, 21] ++ ys).map (wid t)) (([2, 9, 21] ++ ys).map (wid t)).length) := by
    unfold mOf
    rw [plAt_W, List.length_map]
  rw [e]
  unfold chk at h
  rw [beq_iff_eq]
  exact of_decide_eq_true h
end Mine
end
section
open PySem PySem.W PySem.Calls PyProof.Rows
set_option maxRecDepth 100000
set_option linter.unusedVariables false
set_option maxHeartbeats 8000000
namespace Mine
def strKey (e : DictEntry) : Bool := match e.key with
  | .str .. => true
  | _ => false
theorem strKeys_of {es : Array DictEntry} (h : es.all strKey = true) : StrKeys es := fun e he => by
  have := Array.all_eq_true'.mp h e he
  unfold strKey at this
  split at this
  · rename_i n t e1; exact ⟨n, t, e1⟩
  · cases this
theorem look_mem {α : Type} {x : Str} {v : α} : ∀ {l : List (Str × α)}, l.lookup x = some v → (x, v) ∈ l
  | [], e => nomatch e
  | (y, u) :: l, e => by
    rw [List.lookup_cons] at e
    cases q : x == y with
    | true =>
      rw [q] at e
      have e : some u = some v := e
      cases e
      have : x = y := by simpa using q
      rw [this]; exact List.mem_cons_self ..
    | false => rw [q] at e; exact List.mem_cons_of_mem _ (look_mem e)
theorem g2_of {prog : Program} {w : World} {h : Heap} {mg mb : Str → Option Value} (k : (hd.heap_39 w.params).In h) (hl : h.NoLimit) (g : h.Ns mainGlobals mg) (b : h.Ns builtinsNs mb) (hb : ∀ x : Str, x ≠ "__name__" → mb x = bootBuiltins x) : G2 ⟨prog, w, h, mg, mb⟩ := by
  have h3 := k 3 _ (by with_unfolding_all rfl)
  have h2 := k 2 _ (by with_unfolding_all rfl)
  have g' := g
  obtain ⟨o, es, ep, ho, hdt, hk, hf⟩ := g'
  rw [show h.get? mainGlobals = _ from h3] at ho
  cases ho
  cases hdt
  refine ⟨⟨hl, g, b, ?_⟩, k, ?_, ?_, ?_⟩
  · refine ⟨_, ⟨_, _, _, h2, rfl, ?_, fun _ => rfl⟩, by with_unfolding_all rfl⟩
    exact strKeys_of (by with_unfolding_all rfl)
  · intro x v e
    have e := look_mem e
    unfold tab at e
    simp only [List.mem_cons, List.not_mem_nil, or_false, Prod.mk.injEq] at e
    rcases e with ⟨rfl, rfl⟩ | ⟨rfl, rfl⟩ | ⟨rfl, rfl⟩ | ⟨rfl, rfl⟩ | ⟨rfl, rfl⟩ | ⟨rfl, rfl⟩ | ⟨rfl, rfl⟩ | ⟨rfl, rfl⟩ | ⟨rfl, rfl⟩ | ⟨rfl, rfl⟩ | ⟨rfl, rfl⟩ | ⟨rfl, rfl⟩ | ⟨rfl, rfl⟩ | ⟨rfl, rfl⟩ | ⟨rfl, rfl⟩ | ⟨rfl, rfl⟩ | ⟨rfl, rfl⟩ | ⟨rfl, rfl⟩
    all_goals exact (hf _).symm.trans (by with_unfolding_all rfl)
  · intro x v e
    have e := look_mem e
    unfold btab at e
    simp only [List.mem_cons, List.not_mem_nil, or_false, Prod.mk.injEq] at e
    rcases e with ⟨rfl, rfl⟩ | ⟨rfl, rfl⟩ | ⟨rfl, rfl⟩ | ⟨rfl, rfl⟩ | ⟨rfl, rfl⟩ | ⟨rfl, rfl⟩ | ⟨rfl, rfl⟩
    all_goals exact ⟨(hf _).symm.trans (by with_unfolding_all rfl), (hb _ (by decide)).trans (by with_unfolding_all rfl)⟩
  · exact ⟨_, (hf _).symm.trans (by with_unfolding_all rfl)⟩
theorem fn96 {C : Cx} (g : G2 C) : Fn C 96 := ⟨_, _, g.k _ _ (by with_unfolding_all rfl), by with_unfolding_all rfl⟩
theorem fn89 {C : Cx} (g : G2 C) : Fn C 89 := ⟨_, _, g.k _ _ (by with_unfolding_all rfl), by with_unfolding_all rfl⟩
theorem raw_fold : ∀ (l : List (List Nat)) (a : Nat), (l.map T).foldl (fun (a : Nat) (p : Str) => a + p.length + (T []).length) a = a + l.flatten.length
  | [], a => by simp
  | x :: l, a => by
    rw [List.map_cons, List.foldl_cons, raw_fold l, T_len, T_len]
    simp; omega
theorem join_raw {C : Cx} (g2 : G2 C) {d : Nat} {ls : LS} {n : Nat} {xs : List Int} (hn : ls[n]? = some (xs.map fun x => .str (T (rawR x)))) (hl : xs.length ≤ 6) : CTo C d (.builtin "str.join") [.str (T []), .lst n] [] ls (.str (T (rawL xs))) ls := by
  have hs : (10000 : Nat) ≤ sizeLine := by decide
  have h7 := rawL_len xs
  have e : (xs.map fun x => PV.str (T (rawR x))) = ((xs.map rawR).map T).map .str := by rw [List.map_map, List.map_map]; rfl
  rw [e] at hn
  have z := c_join (C := C) (d := d) (sep := T []) hn (by
    rw [List.foldl_toArray, raw_fold, raw_flat]
    unfold Builtin.Str.tooLong
    exact decide_eq_false (by omega)) (by rw [glued_T, raw_flat, T_len]; omega)
  rw [glued_T, raw_flat] at z
  exact z
theorem quote_T {C : Cx} {d : Nat} {ls : LS} (g2 : G2 C) {l : List Nat} (hx : l.length ≤ 100) : CTo C (d + 1) (.ref 89) [.str (T l)] [] ls (.str (T (quoted l))) ls :=
  quote_spec g2 (x := T l) (by simpa [T] using hx)
theorem flat_map {α : Type} {f : α → PV} (l : List α) (h : ∀ a, Flat (f a)) : ∀ x ∈ l.map f, Flat x := fun x hx => by
  obtain ⟨a, _, rfl⟩ := List.mem_map.mp hx
  exact h a
theorem flat_row (x : Int) : Flat (rowP x) := .tup (Flat.cons (.int _) (Flat.cons (.int _) (Flat.cons (.str _) Flat.nil)))
theorem flatLS_cons {l : List PV} {ls : LS} (h : ∀ x ∈ l, Flat x) (k : FlatLS ls) : FlatLS (l :: ls) := fun m hm => by
  rcases List.mem_cons.mp hm with rfl | hm
  · exact h
  · exact k m hm
theorem flatLS_nil : FlatLS [] := fun _ h => nomatch h
def lawLS (ns : List Int) : LS := [[.int 2, .int 9, .int 21], (ns.take 3).map .int, ([2, 9, 21] ++ ns.take 3).map .int, ([2, 9, 21] ++ ns.take 3).map rowP, (ns.take 10).map .int, (ns.take 10).map fun x => .int (x.fmod 16), ([2, 9, 21] ++ ns.take 3).map fun x => .str (T (rawR x))]
theorem rem_sum : ∀ l : List Int, (∀ x ∈ l, 0 ≤ x ∧ x ≤ 15) → 0 ≤ l.sum ∧ l.sum ≤ 15 * l.length
  | [], _ => by simp
  | x :: l, h => by
    have h1 := h x (by simp)
    have h2 := rem_sum l (fun y hy => h y (by simp [hy]))
    rw [List.sum_cons, List.length_cons]; omega
theorem rem_b {ns : List Int} : ∀ x ∈ ns.map (fun x => x.fmod 16), 0 ≤ x ∧ x ≤ 15 := fun x hx => by
  obtain ⟨y, _, rfl⟩ := List.mem_map.mp hx
  have h1 := Int.fmod_nonneg_of_pos y (by decide : (0 : Int) < 16)
  have h2 := Int.fmod_lt_of_pos y (by decide : (0 : Int) < 16)
  omega
theorem sum_rem {C : Cx} (g2 : G2 C) {d : Nat} {ls : LS} {n : Nat} {ns : List Int} (hl : ns.length ≤ 10) (hn : ls[n]? = some (ns.map fun x => .int (x.fmod 16))) : CTo C d (.builtin "sum") [.lst n] [] ls (.int (ns.map fun x => x.fmod 16).sum) ls := by
  refine c_sum (ns := ns.map fun x => x.fmod 16) (by rw [hn, List.map_map]; rfl) fun j hj => ?_
  unfold InLong
  have h1 := rem_sum ((ns.map fun x => x.fmod 16).take (j + 1)) (fun x hx => rem_b x (List.mem_of_mem_take hx))
  have h2 : ((ns.map fun x => x.fmod 16).take (j + 1)).length ≤ 10 := by simp; omega
  have h3 : 0 ≤ (ns.map fun x => x.fmod 16).getD j 0 ∧ (ns.map fun x => x.fmod 16).getD j 0 ≤ 15 := by
    rw [List.getD_eq_getElem?_getD, List.getElem?_eq_getElem hj]
    exact rem_b _ (List.getElem_mem hj)
  omega
theorem law_at {P : Params} {h : Heap} {mg : Str → Option Value} (k : (hd.heap_39 P).In h) (g : h.Ns mainGlobals mg) : mg "law" = some (.ref 160) := by
  have h3 := k 3 _ (by with_unfolding_all rfl)
  obtain ⟨o, es, ep, ho, hdt, hk, hf⟩ := g
  rw [show h.get? mainGlobals = _ from h3] at ho
  cases ho
  cases hdt
  exact (hf _).symm.trans (by with_unfolding_all rfl)
theorem law_run {C : Cx} (g2 : G2 C) {a : Addr} {vs : List Value} {ns : List Int} (hL : C.hb.IsList a vs.toArray) (hI : IntsAre vs ns) (hlen : ns.length ≤ 63) {A : Around} {s : Shared} {Q : Value → Shared → Prop} {E : Value → Shared → Prop} (hr : Room A 8) (hh : s.heap = C.hb)
    (K : ∀ h' tk, (∀ b o, C.hb.get? b = some o → h'.get? b = some o) → Q (.bool true) { s with heap := h', toks := tk }) : wpAny (model C.prog C.w) A (call (.ref 160) [.ref a]) Q E s := by
  refine law_entry (d := 7) (x := "script") (ls' := lawLS ns) g2.ok (g2.k _ _ (by with_unfolding_all rfl)) (by with_unfolding_all rfl) ?hcd (by with_unfolding_all rfl) ?hbind (by decide) (by rfl) (by rfl) (by rfl) (by rfl) ?_ hr hh K
  case hcd => exact codeRec_of g2.k (by with_unfolding_all rfl)
  case hbind => intro v; rfl
  intro L
  generalize he : callEnv _ L 160 = env
  have hs : (10000 : Nat) ≤ sizeLine := by decide
  have hv : ∀ am h, RVs am h (ns.map PV.int) vs := fun am h => RVs.ofInts hI
  have hz : (ns.map PV.int).length ≤ sizeLine := by rw [List.length_map]; omega
  have hx6 : ([2, 9, 21] ++ ns.take 3).length ≤ 6 := by simp; omega
  have s0 : Str.ofString "" = T [] := by decide +kernel
  have s1 : Str.ofString "." = T [46] := by decide +kernel
  have s2 : Str.ofString "a" = T [97] := by decide +kernel
  have f96 := fn96 g2
  have f89 := fn89 g2
  have f155 := fn155 g2
  generalize hxs : [2, 9, 21] ++ ns.take 3 = xs at hx6
  unfold lawLS
  rw [hxs]
  refine r_cons (ls1 := [[.int 2, .int 9, .int 21], (ns.take 3).map .int, xs.map .int, xs.map rowP]) (x_acomp (p := .lst 2) (ls1 := [[.int 2, .int 9, .int 21], (ns.take 3).map .int, xs.map .int]) (cl := []) (ρc := []) (items := xs.map .int) ?_ (src_list rfl) (by subst_vars; rfl) .nil .nil ?_ (by walk_at "m-env") (by subst_vars; rfl) rfl (by decide) (fun _ => rfl)) ?_
  · refine e_bin (p := .lst 0) (q := .lst 1) (ls1 := [[.int 2, .int 9, .int 21]]) (ls2 := [[.int 2, .int 9, .int 21], (ns.take 3).map .int]) (e_list (ls1 := []) (ps := [.int 2, .int 9, .int 21]) (by walk_at "m") (by show 3 ≤ sizeLine; omega)) (e_slice_base (l := ns.map .int) (lo := none) (hi := some (3 : Int)) (by walk_at "m") .none (.some e_int) hL hv hz rfl ?_ rfl) ?_
    · rw [show (3 : Int) = ((3 : Nat) : Int) from rfl, pick_take, List.map_take]
    · have e : xs.map PV.int = [.int 2, .int 9, .int 21] ++ (ns.take 3).map .int := by rw [← hxs]; simp
      rw [e]
      exact o_add_lst (n := 0) (m := 1) rfl rfl (by simp; omega)
  · intro Lc
    refine cp_map1 (fun (x : Int) => PV.int x) rowP [[.int 2, .int 9, .int 21], (ns.take 3).map .int, xs.map .int] (fun ρ => True) rfl (fun l => rfl) xs _ trivial (by omega) ?_
    intro x hx ρ1 l _ hl
    generalize he1 : cenvOf _ env Lc _ = env1
    have hfl : FlatLS ([[.int 2, .int 9, .int 21], (ns.take 3).map .int, xs.map .int] ++ [l]) := flatLS_cons (Flat.cons (.int _) (Flat.cons (.int _) (Flat.cons (.int _) Flat.nil))) (flatLS_cons (flat_map _ fun a => .int a) (flatLS_cons (flat_map _ fun a => .int a) (flatLS_cons (fun y hy => by
      obtain ⟨a, rfl⟩ := hl y hy
      exact flat_row a) flatLS_nil)))
    have hc := row_spec (d := 6) (x := x) g2 hfl
    refine ⟨_, a_loc (by walk_at "m-env"), ?_, trivial⟩
    walk_at "m"
  show RTo _ env 7 _ (pset _ _ (.lst 3)) _ _ _
  have hsum := sum_rem g2 (d := 7) (ls := [[.int 2, .int 9, .int 21], (ns.take 3).map .int, xs.map .int, xs.map rowP, (ns.take 10).map .int, (ns.take 10).map fun x => .int (x.fmod 16)]) (n := 5) (ns := ns.take 10) (by simp; omega) rfl
  generalize ((ns.take 10).map fun x => x.fmod 16).sum = D at hsum
  with_reducible apply r_cons
  · walk_at "m-asg"
    refine e_callB (ls1 := [[.int 2, .int 9, .int 21], (ns.take 3).map .int, xs.map .int, xs.map rowP, (ns.take 10).map .int, (ns.take 10).map fun x => .int (x.fmod 16)]) (by walk_at "m-name") (l_cons ?_ l_nil rfl) hsum rfl rfl
    refine e_comp (p := .lst 4) (ls1 := [[.int 2, .int 9, .int 21], (ns.take 3).map .int, xs.map .int, xs.map rowP, (ns.take 10).map .int]) (cl := []) (ρc := []) (items := (ns.take 10).map .int) (e_slice_base (l := ns.map .int) (lo := none) (hi := some (10 : Int)) (by walk_at "m") .none (.some e_int) hL hv hz rfl ?_ rfl) (src_list rfl) (by subst_vars; rfl) .nil .nil ?_ rfl (by decide) (fun _ => rfl)
    · rw [show (10 : Int) = ((10 : Nat) : Int) from rfl, pick_take, List.map_take]
    · intro Lc
      refine cp_map0 (fun (x : Int) => PV.int x) (fun x => PV.int (x.fmod 16)) [[.int 2, .int 9, .int 21], (ns.take 3).map .int, xs.map .int, xs.map rowP, (ns.take 10).map .int] (fun ρ => True) rfl (fun l => rfl) (ns.take 10) _ trivial (by simp; omega) ?_
      intro x hx ρ1 l _
      generalize he1 : cenvOf _ env Lc _ = env1
      refine ⟨_, a_loc (by walk_at "m-env"), ?_, trivial⟩
      walk_at "m"
  have hj := join_raw g2 (d := 7) (ls := [[.int 2, .int 9, .int 21], (ns.take 3).map .int, xs.map .int, xs.map rowP, (ns.take 10).map .int, (ns.take 10).map fun x => .int (x.fmod 16), xs.map fun x => .str (T (rawR x))]) (n := 6) (xs := xs) rfl hx6
  have hq1 := quote_T g2 (d := 6) (ls := [[.int 2, .int 9, .int 21], (ns.take 3).map .int, xs.map .int, xs.map rowP, (ns.take 10).map .int, (ns.take 10).map fun x => .int (x.fmod 16), xs.map fun x => .str (T (rawR x))]) (l := rawL xs) (by have := rawL_len xs; omega)
  have hq2 := quote_T g2 (d := 6) (ls := [[.int 2, .int 9, .int 21], (ns.take 3).map .int, xs.map .int, xs.map rowP, (ns.take 10).map .int, (ns.take 10).map fun x => .int (x.fmod 16), xs.map fun x => .str (T (rawR x))]) (l := dueL 1 xs) (by have := dueL_len (t := 1) (by decide) (by decide) xs; omega)
  rw [quoted_raw] at hq1
  rw [quoted_due] at hq2
  have hfl : FlatLS [[.int 2, .int 9, .int 21], (ns.take 3).map .int, xs.map .int, xs.map rowP, (ns.take 10).map .int, (ns.take 10).map fun x => .int (x.fmod 16), xs.map fun x => .str (T (rawR x))] := flatLS_cons (Flat.cons (.int _) (Flat.cons (.int _) (Flat.cons (.int _) Flat.nil))) (flatLS_cons (flat_map _ fun a => .int a) (flatLS_cons (flat_map _ fun a => .int a) (flatLS_cons (flat_map _ flat_row) (flatLS_cons (flat_map _ fun a => .int a) (flatLS_cons (flat_map _ fun a => .int _) (flatLS_cons (flat_map _ fun a => .str _) flatLS_nil))))))
  have hr1 := right_spec (d := 1) (n := 3) (xs := xs) (t := 1) (D := D) g2 hfl rfl hx6 (by decide) (by decide)
  have hr2 := right_spec (d := 1) (n := 3) (xs := xs) (t := 2) (D := D) g2 hfl rfl hx6 (by decide) (by decide)
  have ht1 := counts (t := 1) (.inl rfl) D (ns.take 3) (by simp; omega)
  have ht2 := counts (t := 2) (.inr rfl) D (ns.take 3) (by simp; omega)
  rw [hxs] at ht1 ht2
  rw [ht1] at hr1
  rw [ht2] at hr2
  with_reducible apply r_cons
  · walk_at "m-asg"
    refine e_callF (ls1 := [[.int 2, .int 9, .int 21], (ns.take 3).map .int, xs.map .int, xs.map rowP, (ns.take 10).map .int, (ns.take 10).map fun x => .int (x.fmod 16), xs.map fun x => .str (T (rawR x))]) (by walk_at "m-name") f89 (l_cons ?_ l_nil rfl) hq1 rfl
    refine e_meth (p := .str (T [])) (ls1 := [[.int 2, .int 9, .int 21], (ns.take 3).map .int, xs.map .int, xs.map rowP, (ns.take 10).map .int, (ns.take 10).map fun x => .int (x.fmod 16)]) (ls2 := [[.int 2, .int 9, .int 21], (ns.take 3).map .int, xs.map .int, xs.map rowP, (ns.take 10).map .int, (ns.take 10).map fun x => .int (x.fmod 16), xs.map fun x => .str (T (rawR x))]) (T := "str") (id := "str.join") (e_lit s0) ty_str PySem.F.plainAttrs_str PySem.F.slot_str_join PySem.F.type_str_join (l_cons ?_ l_nil rfl) hj rfl rfl rfl rfl rfl
    refine e_comp (p := .lst 3) (ls1 := [[.int 2, .int 9, .int 21], (ns.take 3).map .int, xs.map .int, xs.map rowP, (ns.take 10).map .int, (ns.take 10).map fun x => .int (x.fmod 16)]) (cl := []) (ρc := []) (ok := fun ls => ls[3]? = some (xs.map rowP)) (items := xs.map rowP) (by walk_at "m-name") (src_list rfl) (by subst_vars; rfl) .nil .nil ?_ rfl (by decide) (fun _ => rfl)
    intro Lc
    refine cp_map0 (ok := fun ls => ls[3]? = some (xs.map rowP)) rowP (fun x => PV.str (T (rawR x))) [[.int 2, .int 9, .int 21], (ns.take 3).map .int, xs.map .int, xs.map rowP, (ns.take 10).map .int, (ns.take 10).map fun x => .int (x.fmod 16)] (fun ρ => True) rfl (fun l => rfl) xs _ trivial (by omega) ?_
    intro x hx ρ1 l _
    generalize he1 : cenvOf _ env Lc _ = env1
    rw [rowP_eq, endOf_T]
    have b2 := lt_b x
    have b5 := dt_b x
    have b6 : (endC x).length ≤ 2 := by unfold endC; split; decide; split <;> decide
    refine ⟨_, a_tup (.cons (a_loc (by walk_at "m-env")) (.cons (a_loc (by walk_at "m-env")) (.cons (a_loc (by walk_at "m-env")) .nil (fun _ => rfl)) (fun _ => rfl)) (fun _ => rfl)), ?_, trivial⟩
    show ETo _ _ _ _ _ _ (.str (T (List.replicate (dt x).toNat 46 ++ List.replicate (lt x).toNat 97 ++ endC x))) _
    walk_at "m"
  with_reducible apply r_cons
  · walk_at "m-asg"
    walk_at "m"
  with_reducible apply r_ifF
  · with_reducible apply b_not
    with_reducible apply b_call
    walk_at "m"
  · rfl
  · refine r_return ?_
    walk_at "m"
end Mine
open Mine
set_option maxRecDepth 100000 in
set_option maxHeartbeats 8000000 in
theorem PySem.Challenge.cw_pe0128_02_holds : PySem.Challenge.rw_pe0128_02.Holds := by
  refine hd ?_
  intro w s₀ s₁ mg mb G Y fa o pm cd doc dV kV ho hdd hcd hD hmg hg args vals as hpre hlay hrd hwl hlo
  have KX := kIn_of Y
  wrow_args hpre hlay hrd hwl hlo
  rename IntsAre _ _ => hI
  rename Heap.IsList _ _ _ => hL
  rename ¬ _ < _ => hlen
  have g2 := Mine.g2_of (prog := PySem.Challenge.rw_pe0128_02.row.prog) KX G.T.nolimit G.T.g G.T.b G.T.builtins
  have efa : fa = 160 := by
    have e := Mine.law_at KX G.T.g
    rw [e] at hmg
    injection hmg with hmg
    injection hmg with hmg
    exact hmg.symm
  subst efa
  refine Mine.law_run g2 hL hI (by omega) ⟨rfl, ?_, ?_⟩ rfl fun h' tk hk => GoodW.toG (Mine.good_true hk hg (raisesW_false ?_) ?_ rfl)
  · show 1 + claimMargin + 8 < recursionLimit
    decide
  · show 4 + 16 * 8 + 64 < cLine
    decide
  · wrow_none_raised
  · kc_post
end
