import PyProof.Rows.All
import Wide.All
import OpenK.AllK
import Wide.FinOn
import Lean
import PySem.Challenge.RW_st0005_01

open PySem PySem.W PyProof.Rows
set_option Elab.async false
set_option maxRecDepth 100000
set_option maxHeartbeats 8000000

open_top Mine.hd for PySem.Challenge.rw_st0005_01

-- part: Base
set_option maxHeartbeats 4000000
namespace Mine
open PySem PySem.W PyProof.Rows

theorem sub_dec {n i : Nat} (h : i < n) : n + 1 - (i + 1) < n + 1 - i := by omega
theorem le_line {n : Nat} (h : n ≤ 100000) : n ≤ sizeLine := by rw [sizeLine_eq]; exact Nat.le_trans h (by decide)
theorem lt1 {P : Nat → Prop} (h : P 0) : ∀ d, d < 1 → P d := fun d hd => by rw [Nat.lt_one_iff.mp hd]; exact h
theorem ltS {P : Nat → Prop} {n : Nat} (h0 : P 0) (h : ∀ d, d < n → P (d + 1)) : ∀ d, d < n + 1 → P d := fun d hd => by
  cases d with
  | zero => exact h0
  | succ d => exact h d (Nat.lt_of_succ_lt_succ hd)
theorem lt3 {P : Nat → Prop} (h0 : P 0) (h1 : P 1) (h2 : P 2) : ∀ d, d < 3 → P d := ltS h0 (ltS h1 (lt1 h2))
theorem lt4 {P : Nat → Prop} (h0 : P 0) (h1 : P 1) (h2 : P 2) (h3 : P 3) : ∀ d, d < 4 → P d := ltS h0 (lt3 h1 h2 h3)
theorem lenS {α : Type} {l : List α} {n : Nat} (h : l.length = n + 1) : ∃ a r, l = a :: r ∧ r.length = n := by
  cases l with
  | nil => cases h
  | cons a r => exact ⟨a, r, rfl, Nat.succ.inj h⟩
theorem lenE3 {α : Type} {l : List α} (h : l.length = 3) : ∃ a b c, l = [a, b, c] := by
  obtain ⟨a, r, rfl, h1⟩ := lenS h
  obtain ⟨b, r, rfl, h2⟩ := lenS h1
  obtain ⟨c, r, rfl, h3⟩ := lenS h2
  cases r with
  | nil => exact ⟨a, b, c, rfl⟩
  | cons d r => cases h3
theorem lenE4 {α : Type} {l : List α} (h : l.length = 4) : ∃ a b c d, l = [a, b, c, d] := by
  obtain ⟨a, r, rfl, h1⟩ := lenS h
  obtain ⟨b, c, d, rfl⟩ := lenE3 h1
  exact ⟨a, b, c, d, rfl⟩

/-- what follows a statement -/
noncomputable def Nx (M : Model) (A : Around) (rest : List Stmt) (env : Env) (E : Value → Shared → Prop) (Q : Flow → Shared → Prop) : Flow → Shared → Prop := fun f s' => match f with | .next => wpAny M A (execs rest env) Q E s' | f => Q f s'
theorem stm {M : Model} {A : Around} {st : Stmt} {rest : List Stmt} {env : Env} {Q : Flow → Shared → Prop} {E : Value → Shared → Prop} {s : Shared} (h : wpAny M A (exec st env) (Nx M A rest env E Q) E s) : wpAny M A (execs (st :: rest) env) Q E s := wpAny_execs_cons h

noncomputable def Le (h h' : Heap) : Prop := ∀ b o, h.get? b = some o → h'.get? b = some o
theorem Le.refl (h : Heap) : Le h h := fun _ _ e => e
theorem Le.trans {a b c : Heap} (x : Le a b) (y : Le b c) : Le a c := fun p o e => y p o (x p o e)
theorem Le.push (h : Heap) (o : Obj) : Le h (h.push o) := fun _ _ e => Heap.get?_push_of_some _ e

theorem keeps_refl (s : Shared) : Keeps s s := ⟨s.heap, s.toks, rfl, Le.refl _⟩
theorem keeps_tok (s : Shared) (t : Nat) : Keeps s { s with toks := t } := ⟨s.heap, t, rfl, Le.refl _⟩
theorem keeps_mk (s : Shared) {h : Heap} {t : Nat} (k : Le s.heap h) : Keeps s { s with heap := h, toks := t } := ⟨h, t, rfl, k⟩
theorem keeps_trans {a b c : Shared} (x : Keeps a b) (y : Keeps b c) : Keeps a c := by
  obtain ⟨h, t, rfl, k⟩ := x
  obtain ⟨h', t', rfl, k'⟩ := y
  exact ⟨h', t', rfl, Le.trans k k'⟩
theorem keeps_le {a b : Shared} (x : Keeps a b) : Le a.heap b.heap := by
  obtain ⟨h, t, rfl, k⟩ := x; exact k

noncomputable abbrev KK (w : World) : Frag := Mine.hd.heap_39 w.params

structure Bs (w : World) (h : Heap) : Prop where
  K : (KK w).In h
  g : ∃ mg, h.Ns mainGlobals mg
  b : ∃ mb, h.Ns builtinsNs mb ∧ ∀ x : Str, x ≠ "__name__" → mb x = bootBuiltins x
  lim : h.NoLimit
  seer : h.NoSeer

theorem Bs.le {w : World} {h h' : Heap} (B : Bs w h) (k : Le h h') : Bs w h' :=
  ⟨B.K.keeps k, let ⟨mg, x⟩ := B.g; ⟨mg, x.keeps k⟩, let ⟨mb, x, y⟩ := B.b; ⟨mb, x.keeps k, y⟩, B.lim.keeps k, B.seer.keeps k⟩
theorem Bs.notMods {w : World} {h : Heap} (B : Bs w h) {d : Addr} (hd : h.get? d = none) : (d == sysModules) = false := by
  obtain ⟨m, ⟨o, _, _, ho, _⟩, _⟩ := B.seer.mods
  have : d ≠ sysModules := by rintro rfl; rw [hd] at ho; cases ho
  simpa using this

structure Rd (env : Env) (vs : List (Str × Value)) (h : Heap) : Prop where
  ns : ∃ m, h.Ns env.locals m ∧ ∀ x v, vs.lookup x = some v → env.kindOf x = some .local → m x = some v
  cell : ∀ x v c, vs.lookup x = some v → (env.kindOf x = some .cell ∨ env.kindOf x = some .free) → env.cells.lookup x = some c → h.IsCell c (some v)

theorem Rd.le {env : Env} {vs : List (Str × Value)} {h h' : Heap} (R : Rd env vs h) (k : Le h h') : Rd env vs h' :=
  ⟨let ⟨m, a, b⟩ := R.ns; ⟨m, a.keeps k, b⟩, fun x v c e1 e2 e3 => (R.cell x v c e1 e2 e3).keeps k⟩

noncomputable def kOk (env : Env) (x : Str) : Bool := match env.kindOf x with
  | some .local => true
  | some .cell => (env.cells.lookup x).isSome
  | some .free => (env.cells.lookup x).isSome && !(x == ("__classdict__" : Str))
  | _ => false

section
variable {M : Model} {A : Around} {E : Value → Shared → Prop} {s : Shared} {env : Env} {vs : List (Str × Value)}

theorem Rd.ldn {x : Str} {v : Value} {Q : Value → Shared → Prop} (R : Rd env vs s.heap) (hv : vs.lookup x = some v) (hk : env.scope.kind = .function) (ho : kOk env x = true) (h : Q v s) :
    wpAny M A (loadName env x) Q E s := by
  unfold kOk at ho
  split at ho
  · rename_i hl
    obtain ⟨m, hn, hm⟩ := R.ns
    exact wpAny_loadName_local hk hl hn (hm x v hv hl) h
  · rename_i hl
    obtain ⟨c, hc⟩ := Option.isSome_iff_exists.mp ho
    exact wpAny_loadName_cell hk hl hc (R.cell x v c hv (.inl hl) hc) h
  · rename_i hl
    obtain ⟨h1, h2⟩ := Bool.and_eq_true_iff.mp ho
    obtain ⟨c, hc⟩ := Option.isSome_iff_exists.mp h1
    exact wpAny_loadName_free hk hl hc (R.cell x v c hv (.inr hl) hc) h (by simpa using h2)
  · cases ho

theorem Rd.ld {x : Str} {pos : Pos} {v : Value} {Q : Value → Shared → Prop} (R : Rd env vs s.heap) (hv : vs.lookup x = some v) (h : Q v s) (hk : env.scope.kind = .function := by rfl) (ho : kOk env x = true := by rfl)
    (hd : (x == ("__debug__" : Str)) = false := by decide) : wpAny M A (eval (.Name x pos) env) Q E s := wpAny_Name (R.ldn hv hk ho h) hd

theorem Bs.ld {w : World} {x : Str} {pos : Pos} {v : Value} {Q : Value → Shared → Prop} (B : Bs w s.heap) (e : nsIn (KK w) mainGlobals x = some (some v)) (h : Q v s)
    (hg : env.globals = mainGlobals := by rfl) (hk : env.scope.kind = .function := by rfl) (hx : env.kindOf x = some .globalImplicit := by rfl)
    (hd : (x == ("__debug__" : Str)) = false := by decide) : wpAny M A (eval (.Name x pos) env) Q E s := by
  obtain ⟨mg, G⟩ := B.g
  exact Calls.Name_function_global hk hx (Calls.loadGlobal_global (hg ▸ G) (mg_of B.K G e) h) hd

theorem Bs.ldB {w : World} {x : Str} {pos : Pos} {v : Value} {Q : Value → Shared → Prop} (B : Bs w s.heap) (e : nsIn (KK w) mainGlobals x = some none) (hv : bootBuiltins x = some v) (hn : x ≠ "__name__") (h : Q v s)
    (hg : env.globals = mainGlobals := by rfl) (hb : env.builtins = builtinsNs := by rfl) (hk : env.scope.kind = .function := by rfl) (hx : env.kindOf x = some .globalImplicit := by rfl)
    (hd : (x == ("__debug__" : Str)) = false := by decide) : wpAny M A (eval (.Name x pos) env) Q E s := by
  obtain ⟨mg, G⟩ := B.g
  obtain ⟨mb, Hb, hmb⟩ := B.b
  exact Calls.Name_function_global hk hx (Calls.loadGlobal_builtin (hg ▸ G) (mg_none_of B.K G e) (hb ▸ Hb) ((hmb x hn).trans hv) h) hd
end

structure Fv (env : Env) (s₀ : Shared) (g : Heap) (hid : List (Addr × Obj)) (vs : List (Str × Value)) (s : Shared) : Prop where
  same : ∃ h tk, s = { s₀ with heap := h, toks := tk }
  ns : ∃ m, s.heap.Ns env.locals m ∧ ∀ x v, vs.lookup x = some v → env.kindOf x = some .local → m x = some v
  cell : ∀ n c, env.cells.lookup n = some c → ∃ ov, s.heap.IsCell c ov ∧ ∀ v, vs.lookup n = some v → ov = some v
  apart : env.cells.Pairwise fun x y => x.2 ≠ y.2
  names : (env.cells.map (·.1)).Nodup
  kinds : ∀ n c, (n, c) ∈ env.cells → env.kindOf n ≠ some .local
  above : ∀ n c, (n, c) ∈ env.cells → env.locals < c
  base : Le s₀.heap g
  keep : Le g s.heap
  low : s₀.heap.objs.size ≤ env.locals
  offL : g.get? env.locals = none
  offC : ∀ n c, (n, c) ∈ env.cells → g.get? c = none
  hid : ∀ p ∈ hid, s.heap.get? p.1 = some p.2 ∧ g.get? p.1 = none ∧ p.1 ≠ env.locals ∧ ∀ n c, (n, c) ∈ env.cells → p.1 ≠ c

inductive GrowV (env : Env) (s₀ : Shared) (g : Heap) (hid : List (Addr × Obj)) (vs : List (Str × Value)) (s : Shared) : Prop
  | mk (g' : Heap) (F : Fv env s₀ g' hid vs s) (l : Le g g') (n : ∀ b o, s.heap.get? b = some o → b ≠ env.locals → (∀ n c, (n, c) ∈ env.cells → b ≠ c) → (∀ p ∈ hid, b ≠ p.1) → g'.get? b = some o)
inductive NewV (env : Env) (s₀ : Shared) (g : Heap) (hid : List (Addr × Obj)) (vs : List (Str × Value)) (s s' : Shared) : Prop
  | mk (g' : Heap) (F : Fv env s₀ g' hid vs s') (l : Le g g') (n : ∀ b o, s.heap.get? b = none → s'.heap.get? b = some o → g'.get? b = some o)

section
variable {M : Model} {A : Around} {E : Value → Shared → Prop} {s s' s₀ : Shared} {g : Heap} {env : Env} {vs vs' : List (Str × Value)} {hid hid' : List (Addr × Obj)}

theorem Fv.rd (F : Fv env s₀ g hid vs s) : Rd env vs s.heap :=
  ⟨F.ns, fun x v c e1 _ e3 => by
    obtain ⟨ov, h1, h2⟩ := F.cell x c e3
    rw [h2 v e1] at h1; exact h1⟩

theorem Fv.ld {x : Str} {pos : Pos} {v : Value} {Q : Value → Shared → Prop} (F : Fv env s₀ g hid vs s) (hv : vs.lookup x = some v) (h : Q v s) (hk : env.scope.kind = .function := by rfl) (ho : kOk env x = true := by rfl)
    (hd : (x == ("__debug__" : Str)) = false := by decide) : wpAny M A (eval (.Name x pos) env) Q E s := F.rd.ld hv h hk ho hd

theorem Fv.keeps (F : Fv env s₀ g hid vs s) (k : Keeps s s') : Fv env s₀ g hid vs s' := by
  obtain ⟨h, t, rfl, k⟩ := k
  refine ⟨?_, ?_, ?_, F.apart, F.names, F.kinds, F.above, F.base, F.keep.trans k, F.low, F.offL, F.offC, fun p hp => ⟨k _ _ (F.hid p hp).1, (F.hid p hp).2⟩⟩
  · obtain ⟨h₁, t₁, rfl⟩ := F.same; exact ⟨h, t, rfl⟩
  · obtain ⟨m, a, b⟩ := F.ns; exact ⟨m, a.keeps k, b⟩
  · intro n c e; obtain ⟨ov, a, b⟩ := F.cell n c e; exact ⟨ov, a.keeps k, b⟩
theorem Fv.tok (F : Fv env s₀ g hid vs s) {t : Nat} : Fv env s₀ g hid vs { s with toks := t } := F.keeps (keeps_tok s t)
theorem Fv.mk' (F : Fv env s₀ g hid vs s) {h : Heap} {t : Nat} (k : Le s.heap h) : Fv env s₀ g hid vs { s with heap := h, toks := t } := F.keeps (keeps_mk s k)

theorem Fv.outer (F : Fv env s₀ g hid vs s) : Keeps s₀ s := by
  obtain ⟨h, t, rfl⟩ := F.same
  exact ⟨h, t, rfl, F.base.trans F.keep⟩

theorem Fv.weak (F : Fv env s₀ g hid vs s) (hv : ∀ x v, vs'.lookup x = some v → vs.lookup x = some v) : Fv env s₀ g hid vs' s :=
  { F with ns := let ⟨m, a, b⟩ := F.ns; ⟨m, a, fun x v e => b x v (hv x v e)⟩, cell := fun n c e => let ⟨ov, a, b⟩ := F.cell n c e; ⟨ov, a, fun v e' => b v (hv n v e')⟩ }
theorem Fv.drop (F : Fv env s₀ g hid vs s) (hh : ∀ p ∈ hid', p ∈ hid) : Fv env s₀ g hid' vs s := { F with hid := fun p hp => F.hid p (hh p hp) }

/-- freeze all but the frame's own and what is hidden -/
theorem Fv.grow (F : Fv env s₀ g hid vs s) : GrowV env s₀ g hid vs s := by
  let out := env.locals :: (env.cells.map (·.2) ++ hid.map (·.1))
  have inn : ∀ b o, g.get? b = some o → b ∉ out := by
    intro b o e hm
    rcases List.mem_cons.mp hm with rfl | hm
    · rw [F.offL] at e; cases e
    · rcases List.mem_append.mp hm with hm | hm
      · obtain ⟨⟨n, c⟩, hp, rfl⟩ := List.mem_map.mp hm
        rw [F.offC n c hp] at e; cases e
      · obtain ⟨p, hp, rfl⟩ := List.mem_map.mp hm
        rw [(F.hid p hp).2.1] at e; cases e
  refine ⟨hideAll s.heap out, { F with base := ?_, keep := ?_, offL := ?_, offC := ?_, hid := ?_ }, ?_, ?_⟩
  · intro b o e; exact hideAll_get _ (F.keep _ _ (F.base _ _ e)) (inn _ _ (F.base _ _ e))
  · intro b o e; exact of_hideAll _ e
  · exact hideAll_none _ List.mem_cons_self
  · intro n c hm; exact hideAll_none _ (List.mem_cons_of_mem _ (List.mem_append_left _ (List.mem_map.mpr ⟨_, hm, rfl⟩)))
  · intro p hp
    exact ⟨(F.hid p hp).1, hideAll_none _ (List.mem_cons_of_mem _ (List.mem_append_right _ (List.mem_map.mpr ⟨_, hp, rfl⟩))), (F.hid p hp).2.2⟩
  · intro b o e; exact hideAll_get _ (F.keep _ _ e) (inn _ _ e)
  · intro b o e h1 h2 h3
    refine hideAll_get _ e fun hm => ?_
    rcases List.mem_cons.mp hm with rfl | hm
    · exact h1 rfl
    · rcases List.mem_append.mp hm with hm | hm
      · obtain ⟨⟨n, c⟩, hp, rfl⟩ := List.mem_map.mp hm; exact h2 n _ hp rfl
      · obtain ⟨p, hp, rfl⟩ := List.mem_map.mp hm; exact h3 p hp rfl


theorem lookup_of_nodup {β : Type} {l : List (Str × β)} {n : Str} {c : β} (hn : (l.map (·.1)).Nodup) (hm : (n, c) ∈ l) : l.lookup n = some c := by
  induction l with
  | nil => cases hm
  | cons p l ih =>
    rw [List.map_cons, List.nodup_cons] at hn
    rw [List.lookup_cons]
    rcases List.mem_cons.mp hm with e | hm
    · rw [← e, beq_self_eq_true]
    · rw [beq_eq_false_iff_ne.mpr fun e => hn.1 (List.mem_map.mpr ⟨_, hm, e⟩)]
      exact ih hn.2 hm

theorem cellsFrom_keys : ∀ (names : List (Str × NameKind)) (k : Nat) (acc : List (Str × Addr)),
    (cellsFrom k names acc).map (·.1) = ((names.filter (·.2 == .cell)).map (·.1)).reverse ++ acc.map (·.1)
  | [], _, _ => by simp [cellsFrom]
  | (name, kind) :: r, k, acc => by
    unfold cellsFrom
    by_cases h : (kind == NameKind.cell) = true
    · rw [if_pos h, cellsFrom_keys r]; simp [List.filter_cons, h]
    · rw [if_neg h, cellsFrom_keys r]; simp [List.filter_cons, h]

theorem Fv.has (F : Fv env s₀ g hid vs s) {n : Str} {c : Addr} (hm : (n, c) ∈ env.cells) : ∃ o, s.heap.get? c = some o := by
  obtain ⟨ov, ⟨o, ho, _⟩, _⟩ := F.cell n c (lookup_of_nodup F.names hm)
  exact ⟨o, ho⟩

theorem Fv.apartFrom (F : Fv env s₀ g hid vs s) {b : Addr} (hb : s.heap.get? b = none) : b ≠ env.locals ∧ (∀ n c, (n, c) ∈ env.cells → b ≠ c) ∧ ∀ p ∈ hid, b ≠ p.1 := by
  refine ⟨?_, ?_, ?_⟩
  · rintro rfl
    obtain ⟨m, ⟨o, _, _, ho, _⟩, _⟩ := F.ns
    rw [hb] at ho; cases ho
  · rintro n c hm rfl
    obtain ⟨o, ho⟩ := F.has hm
    rw [hb] at ho; cases ho
  · rintro p hp rfl
    rw [(F.hid p hp).1] at hb; cases hb

theorem Fv.offG (F : Fv env s₀ g hid vs s) {b : Addr} (hb : s.heap.get? b = none) : g.get? b = none := by
  cases e : g.get? b with
  | none => rfl
  | some o => rw [F.keep b o e] at hb; cases hb

/-- what the step made is frozen -/
theorem Fv.new (F : Fv env s₀ g hid vs s) (k : Keeps s s') : NewV env s₀ g hid vs s s' := by
  obtain ⟨g', F', l, n⟩ := (F.keeps k).grow
  refine ⟨g', F', l, fun b o h1 h2 => ?_⟩
  obtain ⟨a, b', c⟩ := F.apartFrom h1
  exact n b o h2 a b' c

/-- what the step made is hidden -/
theorem Fv.hide (F : Fv env s₀ g hid vs s) (k : Keeps s s') {b : Addr} {o : Obj} (h1 : s.heap.get? b = none) (h2 : s'.heap.get? b = some o) : Fv env s₀ g ((b, o) :: hid) vs s' := by
  have F' := F.keeps k
  refine { F' with hid := fun p hp => ?_ }
  rcases List.mem_cons.mp hp with rfl | hp
  · obtain ⟨a, b', _⟩ := F.apartFrom h1
    exact ⟨h2, F.offG h1, a, b'⟩
  · exact F'.hid p hp

/-- the head of what is hidden turns -/
theorem Fv.turn {b : Addr} {o o' : Obj} (F : Fv env s₀ g ((b, o) :: hid) vs s) {h' : Heap} {t : Nat} (hs : Heap.SameBut b s.heap h') (h2 : h'.get? b = some o') (hne : ∀ p ∈ hid, p.1 ≠ b) :
    Fv env s₀ g ((b, o') :: hid) vs { s with heap := h', toks := t } := by
  obtain ⟨h0, hg, hL, hC⟩ := F.hid (b, o) List.mem_cons_self
  refine ⟨?_, ?_, ?_, F.apart, F.names, F.kinds, F.above, F.base, ?_, F.low, F.offL, F.offC, ?_⟩
  · obtain ⟨h₁, t₁, rfl⟩ := F.same; exact ⟨h', t, rfl⟩
  · obtain ⟨m, a, c⟩ := F.ns; exact ⟨m, a.sameBut hs (Ne.symm hL), c⟩
  · intro n c e; obtain ⟨ov, a, d⟩ := F.cell n c e; exact ⟨ov, a.sameBut hs (Ne.symm (hC n c (mem_of_lookup e))), d⟩
  · intro p q e
    exact hs.extBut p q (by rintro rfl; rw [hg] at e; cases e) (F.keep p q e)
  · intro p hp
    rcases List.mem_cons.mp hp with rfl | hp
    · exact ⟨h2, hg, hL, hC⟩
    · have := F.hid p (List.mem_cons_of_mem _ hp)
      exact ⟨hs.extBut p.1 p.2 (hne p hp) this.1, this.2⟩

theorem Fv.st {x : Str} {v : Value} {Q : Unit → Shared → Prop} (F : Fv env s₀ g hid vs s)
    (h : ∀ s', Fv env s₀ g hid ((x, v) :: vs) s' → Q () s') (hk : env.scope.kind = .function := by rfl) (ho : kOk env x = true := by rfl) (hnf : (env.kindOf x == some .free) = false := by rfl) :
    wpAny M A (storeName env x v) Q E s := by
  have put : ∀ {y : Str} {u : Value}, ((x, v) :: vs).lookup y = some u → (y = x ∧ u = v) ∨ (y ≠ x ∧ vs.lookup y = some u) := by
    intro y u e
    rw [List.lookup_cons] at e
    cases hb : y == x with
    | true => rw [hb] at e; cases e; exact .inl ⟨by simpa using hb, rfl⟩
    | false => rw [hb] at e; exact .inr ⟨by simpa using hb, e⟩
  unfold kOk at ho
  split at ho
  · rename_i hl
    obtain ⟨m, hn, hm⟩ := F.ns
    refine wpAny_storeName_local hl hn (fun h' hn' hs' => h _ ⟨?_, ⟨_, hn', ?_⟩, ?_, F.apart, F.names, F.kinds, F.above, F.base, ?_, F.low, F.offL, F.offC, ?_⟩) (by rw [hk]; rfl)
    · obtain ⟨h₁, t₁, rfl⟩ := F.same; exact ⟨h', _, rfl⟩
    · intro y u e hy
      rcases put e with ⟨rfl, rfl⟩ | ⟨hne, e⟩
      · simp
      · simp [hne, hm y u e hy]
    · intro n c e
      obtain ⟨ov, a, d⟩ := F.cell n c e
      refine ⟨ov, a.sameBut hs' (Nat.ne_of_gt (F.above n c (mem_of_lookup e))), fun u eu => ?_⟩
      rcases put eu with ⟨rfl, rfl⟩ | ⟨_, eu⟩
      · exfalso
        exact F.kinds n c (mem_of_lookup e) hl
      · exact d u eu
    · intro p q e; exact hs'.extBut p q (by rintro rfl; rw [F.offL] at e; cases e) (F.keep p q e)
    · intro p hp
      have := F.hid p hp
      exact ⟨hs'.extBut _ _ this.2.2.1 this.1, this.2⟩
  · rename_i hl
    obtain ⟨c, hc⟩ := Option.isSome_iff_exists.mp ho
    obtain ⟨ov, hcell, _⟩ := F.cell x c hc
    have hLc := F.above x c (mem_of_lookup hc)
    refine wpAny_storeName_cell hk hl hc hcell fun h' hc' hs' => h _ ⟨?_, ?_, ?_, F.apart, F.names, F.kinds, F.above, F.base, ?_, F.low, F.offL, F.offC, ?_⟩
    · obtain ⟨h₁, t₁, rfl⟩ := F.same; exact ⟨h', _, rfl⟩
    · obtain ⟨m, a, d⟩ := F.ns
      refine ⟨m, a.sameBut hs' (Nat.ne_of_lt hLc), fun y u e hy => ?_⟩
      rcases put e with ⟨rfl, rfl⟩ | ⟨_, e⟩
      · rw [hl] at hy; cases hy
      · exact d y u e hy
    · intro n c' e
      obtain ⟨ov', a, d⟩ := F.cell n c' e
      by_cases hnx : n = x
      · subst hnx
        rw [hc] at e; cases e
        refine ⟨some v, hc', fun u eu => ?_⟩
        rcases put eu with ⟨_, rfl⟩ | ⟨hne, _⟩
        · rfl
        · exact absurd rfl hne
      · refine ⟨ov', a.sameBut hs' (fun q => hnx (name_of_addr F.apart (mem_of_lookup e) (q ▸ mem_of_lookup hc))), fun u eu => ?_⟩
        rcases put eu with ⟨e', _⟩ | ⟨_, eu⟩
        · exact absurd e' hnx
        · exact d u eu
    · intro p q e; exact hs'.extBut p q (by rintro rfl; rw [F.offC x _ (mem_of_lookup hc)] at e; cases e) (F.keep p q e)
    · intro p hp
      have := F.hid p hp
      exact ⟨hs'.extBut _ _ (this.2.2.2 x c (mem_of_lookup hc)) this.1, this.2⟩
  · rename_i hl; rw [hl] at hnf; cases hnf
  · cases ho
end
end Mine

-- part: Enter
set_option maxHeartbeats 4000000
namespace Mine
open PySem PySem.W PyProof.Rows

theorem bindL_other (k : Str → Option NameKind) : ∀ (b : List (Str × Value)) (m : Str → Option Value) (x : Str), x ∉ b.map (·.1) → bindL k b m x = m x
  | [], _, _, _ => rfl
  | (n, v) :: r, m, x, h => by
    rw [List.map_cons, List.mem_cons, not_or] at h
    unfold bindL
    rw [bindL_other k r _ x h.2]
    split
    · simp [h.1]
    · rfl
theorem bindC_other (k : Str → Option NameKind) : ∀ (b : List (Str × Value)) (m : Str → Option Value) (x : Str), x ∉ b.map (·.1) → bindC k b m x = m x
  | [], _, _, _ => rfl
  | (n, v) :: r, m, x, h => by
    rw [List.map_cons, List.mem_cons, not_or] at h
    unfold bindC
    rw [bindC_other k r _ x h.2]
    split
    · rfl
    · simp [h.1]
theorem mem_keys_of_lookup {β : Type} {l : List (Str × β)} {n : Str} {c : β} (h : l.lookup n = some c) : n ∈ l.map (·.1) := by
  induction l with
  | nil => cases h
  | cons p l ih =>
    rw [List.lookup_cons] at h
    cases hb : n == p.1 with
    | true => rw [eq_of_beq hb]; exact List.mem_cons_self
    | false => rw [hb] at h; exact List.mem_cons_of_mem _ (ih h)
theorem bindL_at (k : Str → Option NameKind) (b : List (Str × Value)) (x : Str) (v : Value) : ∀ (m : Str → Option Value), (b.map (·.1)).Nodup → b.lookup x = some v → k x = some .local → bindL k b m x = some v := by
  induction b with
  | nil => intro m _ hl; cases hl
  | cons p b ih =>
    intro m hn hl hk
    rw [List.map_cons, List.nodup_cons] at hn
    rw [List.lookup_cons] at hl
    unfold bindL
    cases hb : x == p.1 with
    | true =>
      rw [hb] at hl; cases hl
      have e := eq_of_beq hb
      subst e
      rw [bindL_other k b _ _ hn.1, if_pos hk, if_pos rfl]
    | false => rw [hb] at hl; exact ih _ hn.2 hl hk
theorem bindC_at (k : Str → Option NameKind) (b : List (Str × Value)) (x : Str) (v : Value) : ∀ (m : Str → Option Value), (b.map (·.1)).Nodup → b.lookup x = some v → k x ≠ some .local → bindC k b m x = some v := by
  induction b with
  | nil => intro m _ hl; cases hl
  | cons p b ih =>
    intro m hn hl hk
    rw [List.map_cons, List.nodup_cons] at hn
    rw [List.lookup_cons] at hl
    unfold bindC
    cases hb : x == p.1 with
    | true =>
      rw [hb] at hl; cases hl
      have e := eq_of_beq hb
      subst e
      rw [bindC_other k b _ _ hn.1, if_neg hk, if_pos rfl]
    | false => rw [hb] at hl; exact ih _ hn.2 hl hk

theorem get_size (h : Heap) : h.get? h.objs.size = none := by
  cases e : h.get? h.objs.size with
  | none => rfl
  | some o => exact absurd (Heap.lt_size e) (Nat.lt_irrefl _)
theorem get_ge (h : Heap) {b : Addr} (hb : h.objs.size ≤ b) : h.get? b = none := by
  cases e : h.get? b with
  | none => rfl
  | some o => exact absurd (Heap.lt_size e) (Nat.not_lt.mpr hb)

noncomputable def ndB : List Str → Bool
  | [] => true
  | x :: r => !r.contains x && ndB r
theorem ndB_nodup : ∀ {l : List Str}, ndB l = true → l.Nodup
  | [], _ => .nil
  | x :: r, h => by
    unfold ndB at h
    obtain ⟨h1, h2⟩ := Bool.and_eq_true_iff.mp h
    refine List.nodup_cons.mpr ⟨fun hm => ?_, ndB_nodup h2⟩
    rw [List.contains_iff_mem.mpr hm] at h1; cases h1

structure Rm (A : Around) (k : Nat) : Prop where
  hh : A.handled = none
  depth : A.depth + k < recursionLimit
  units : A.units + 8 * k + 200 < cLine
theorem Rm.deeper {A : Around} {k : Nat} {env : Env} (r : Rm A (k + 1)) : Rm (A.deeper env) k := ⟨r.hh, by have := r.depth; simp only [Around.deeper]; omega, by have := r.units; simp only [Around.deeper]; omega⟩
theorem Rm.room {A : Around} {k : Nat} (r : Rm A k) : A.depth < recursionLimit := by have := r.depth; omega
theorem Rm.less {A : Around} {k j : Nat} (r : Rm A k) (h : j ≤ k) : Rm A j := ⟨r.hh, by have := r.depth; omega, by have := r.units; omega⟩

theorem ite_t {P R : Prop} (h : P) : if true = true then P else R := by rw [if_pos rfl]; exact h
theorem ite_f {P R : Prop} (h : R) : if false = true then P else R := by rw [if_neg Bool.false_ne_true]; exact h
theorem ite_b {b : Bool} {P R : Prop} (h1 : b = true → P) (h2 : b = false → R) : if b = true then P else R := by
  cases b with
  | true => exact ite_t (h1 rfl)
  | false => exact ite_f (h2 rfl)
theorem ite_d {p : Prop} [Decidable p] {P R : Prop} (h1 : p → P) (h2 : ¬ p → R) : if decide p = true then P else R := ite_b (fun h => h1 (of_decide_eq_true h)) fun h => h2 (of_decide_eq_false h)
theorem enterC {prog : Program} {w : World} {A : Around} {s : Shared} {f : Addr} {oc : Value} {od : Option Addr} {osl : Array (Option Value)} {fd : FuncData} {body : List Stmt} {vals : List Value} {binds : List (Str × Value)}
    {R : Result → Shared → Prop} (B : Bs w s.heap) (hroom : A.depth < recursionLimit) (hK : (KK w).lookup f = some ⟨oc, od, .func fd, osl⟩) (hcd : codeIn (KK w) fd.code fd.qualname = true)
    (hbody : fd.body = .stmts body) (hbind : bindArgs fd ⟨vals, []⟩ = pure binds)
    (h : ∀ s₁, Fv (callEnvC fd s.heap.objs.size f) s s.heap [] binds s₁ → wpAny (model prog w) (A.deeper (callEnvC fd s.heap.objs.size f)) (execs body (callEnvC fd s.heap.objs.size f))
      (fun fl s' => R (.ok (.ret (match fl with | .ret v => v | _ => .none))) s') (fun _ _ => False) s₁)
    (hclo : fd.closure = [] := by rfl)
    (hkind' : (binds.all fun x => fd.scope.names.lookup x.1 == some .local || (fd.scope.names.lookup x.1 == some .cell && ((cellsFrom (s.heap.objs.size + 1) fd.scope.names []).lookup x.1).isSome)) = true := by rfl)
    (hnb' : ndB (binds.map (·.1)) = true := by rfl)
    (hnd' : ndB ((fd.scope.names.filter (·.2 == .cell)).map (·.1)) = true := by rfl)
    (hkl' : (fd.scope.names.all fun x => x.2 != .cell || fd.scope.names.lookup x.1 == some .cell) = true := by rfl)
    (hco : fd.scope.isCoroutine = false := by rfl) (hgen : fd.scope.isGenerator = false := by rfl) (hk : fd.scope.kind = .function := by rfl) :
    codeAny (model prog w) A (.call (.ref f) ⟨vals, []⟩) R s := by
  have hkind : ∀ x ∈ binds, fd.scope.names.lookup x.1 = some .local ∨ (fd.scope.names.lookup x.1 = some .cell ∧ ((cellsFrom (s.heap.objs.size + 1) fd.scope.names []).lookup x.1).isSome = true) := fun x hx => by
    have := List.all_eq_true.mp hkind' x hx
    simpa using this
  have hnb := ndB_nodup hnb'
  have hnd := ndB_nodup hnd'
  have hkl : ∀ x ∈ fd.scope.names, x.2 = .cell → fd.scope.names.lookup x.1 = some .cell := fun x hx e => by
    have := List.all_eq_true.mp hkl' x hx
    simpa [e] using this
  refine codeAny_call_cells hroom (B.K _ _ hK) rfl B.lim (codeRec_of B.K hcd) hbody hbind hclo hkind (fun s₁ X => ?_) hco hgen hk
  have hcells : (callEnvC fd s.heap.objs.size f).cells = cellsFrom (s.heap.objs.size + 1) fd.scope.names [] := rfl
  have hks := cellsFrom_keys fd.scope.names (s.heap.objs.size + 1) []
  have F : Fv (callEnvC fd s.heap.objs.size f) s s.heap [] binds s₁ := by
    refine ⟨X.toInCall.same, ⟨_, X.toInCall.ns, fun x v e1 e2 => bindL_at _ _ _ _ _ hnb e1 e2⟩, fun n c e => ⟨_, X.cell n c e, fun v ev => bindC_at _ _ _ _ _ hnb ev ?_⟩, X.apart, ?_, ?_, X.above, Le.refl _, X.toInCall.keep,
      X.toInCall.fresh, get_size _, fun n c hm => get_ge _ (Nat.le_of_lt (X.above n c hm)), fun p hp => nomatch hp⟩
    · have hm := mem_keys_of_lookup e
      rw [hcells, hks] at hm
      simp only [List.map_nil, List.append_nil, List.mem_reverse, List.mem_map, List.mem_filter] at hm
      obtain ⟨p, ⟨hp, hpk⟩, rfl⟩ := hm
      have := hkl p hp (by simpa using hpk)
      show fd.scope.names.lookup p.1 ≠ _
      rw [this]; decide
    · rw [hcells, hks]
      rw [List.map_nil, List.append_nil]; exact List.pairwise_reverse.mpr (hnd.imp Ne.symm)
    · intro n c hm
      have hm : n ∈ (callEnvC fd s.heap.objs.size f).cells.map (·.1) := List.mem_map.mpr ⟨_, hm, rfl⟩
      rw [hcells, hks] at hm
      simp only [List.map_nil, List.append_nil, List.mem_reverse, List.mem_map, List.mem_filter] at hm
      obtain ⟨p, ⟨hp, hpk⟩, rfl⟩ := hm
      have := hkl p hp (by simpa using hpk)
      show fd.scope.names.lookup p.1 ≠ _
      rw [this]; decide
  exact wpAny_mono (h s₁ F) (fun fl s' q => q) fun _ _ x => x.elim

theorem enter {prog : Program} {w : World} {A : Around} {E : Value → Shared → Prop} {s : Shared} {f : Addr} {oc : Value} {od : Option Addr} {osl : Array (Option Value)} {fd : FuncData} {body : List Stmt} {vals : List Value} {binds : List (Str × Value)}
    {Q : Value → Shared → Prop} {k : Nat} (B : Bs w s.heap) (hA : Rm A (k + 1)) (hK : (KK w).lookup f = some ⟨oc, od, .func fd, osl⟩) (hcd : codeIn (KK w) fd.code fd.qualname = true)
    (hbody : fd.body = .stmts body) (hbind : bindArgs fd ⟨vals, []⟩ = pure binds)
    (h : ∀ (A' : Around) (n : Nat) (Q' : Flow → Shared → Prop) (s₁ : Shared), Rm A' k → (∀ v s', Q v s' → Q' (.ret v) s') → Fv (callEnvC fd n f) s s.heap [] binds s₁ →
      wpAny (model prog w) A' (execs body (callEnvC fd n f)) Q' (fun _ _ => False) s₁)
    (hclo : fd.closure = [] := by rfl)
    (hkind' : (binds.all fun x => fd.scope.names.lookup x.1 == some .local || (fd.scope.names.lookup x.1 == some .cell && ((cellsFrom (s.heap.objs.size + 1) fd.scope.names []).lookup x.1).isSome)) = true := by rfl)
    (hnb' : ndB (binds.map (·.1)) = true := by rfl)
    (hnd' : ndB ((fd.scope.names.filter (·.2 == .cell)).map (·.1)) = true := by rfl)
    (hkl' : (fd.scope.names.all fun x => x.2 != .cell || fd.scope.names.lookup x.1 == some .cell) = true := by rfl)
    (hco : fd.scope.isCoroutine = false := by rfl) (hgen : fd.scope.isGenerator = false := by rfl) (hk : fd.scope.kind = .function := by rfl) :
    wpAny (model prog w) A (call (.ref f) vals) Q E s :=
  wpAny_call (enterC B hA.room hK hcd hbody hbind (fun s₁ F => h _ _ _ s₁ hA.deeper (fun _ _ h => h) F) hclo hkind' hnb' hnd' hkl' hco hgen hk)

/-- a dict of ints under texts -/
noncomputable def Tied : List (Str × Value) → List (Str × Int) → Prop := Paired fun kv p => kv.1 = p.1 ∧ ∃ t, kv.2 = .int p.2 t
noncomputable def ID (prog : Program) (w : World) (h : Heap) (a : Addr) (c : List (Str × Int)) : Prop := (a == sysModules) = false ∧ ∃ kvs, h.DictOf (strKind prog w) a kvs ∧ Tied kvs c

noncomputable def getC (c : List (Str × Int)) (k : Str) : Option Int := (c.find? fun p => p.1 = k).map (·.2)
noncomputable def putC (c : List (Str × Int)) (k : Str) (v : Int) : List (Str × Int) :=
  if c.any (fun p => p.1 = k) then c.map (fun p => if p.1 = k then (p.1, v) else p) else c ++ [(k, v)]

theorem Tied.keys {kvs c} (h : Tied kvs c) : kvs.map (·.1) = c.map (·.1) := by
  induction h with
  | nil => rfl
  | cons h _ ih => rw [List.map_cons, List.map_cons, ih, h.1]
theorem Tied.any {kvs c} (h : Tied kvs c) (k : Str) : (kvs.any fun kv => kv.1 = k) = c.any fun p => p.1 = k := by
  induction h with
  | nil => rfl
  | cons h _ ih => rw [List.any_cons, List.any_cons, ih, h.1]
theorem Tied.at {kvs c} (h : Tied kvs c) (k : Str) : (∃ i t, getC c k = some i ∧ valueAt kvs k = some (.int i t)) ∨ (getC c k = none ∧ valueAt kvs k = none) := by
  induction h with
  | nil => exact .inr ⟨rfl, rfl⟩
  | @cons kv p l1 l2 h _ ih =>
    obtain ⟨h1, t, h2⟩ := h
    unfold getC valueAt at *
    simp only [List.find?_cons]
    by_cases e : p.1 = k
    · rw [h1]; simp only [e, decide_true]; exact .inl ⟨p.2, t, rfl, by simp [h2]⟩
    · rw [h1]; simp only [e, decide_false]; exact ih
theorem tied_map {kvs c} (h : Tied kvs c) (k : Str) (i : Int) (t : Tok) : Tied (kvs.map fun kv => if kv.1 = k then (kv.1, .int i t) else kv) (c.map fun p => if p.1 = k then (p.1, i) else p) := by
  induction h with
  | nil => exact .nil
  | @cons kv p l1 l2 h _ ih =>
    refine .cons ?_ ih
    dsimp only
    rw [h.1]
    by_cases e : p.1 = k
    · simp [e]
    · simp only [e, if_false]; exact h
theorem Tied.put {kvs c} (h : Tied kvs c) (k : Str) (i : Int) (t : Tok) : Tied (stored kvs k (.int i t)) (putC c k i) := by
  unfold stored putC
  rw [h.any k]
  split
  · exact tied_map h k i t
  · exact h.snoc ⟨rfl, t, rfl⟩
theorem ID.le {prog w h h' a c} (x : ID prog w h a c) (k : Le h h') : ID prog w h' a c := let ⟨z, kvs, d, t⟩ := x; ⟨z, kvs, d.keep k, t⟩
theorem ID.at {prog w h h' a c} (x : ID prog w h a c) (k : ∀ o, h.get? a = some o → h'.get? a = some o) : ID prog w h' a c := let ⟨z, kvs, d, t⟩ := x; ⟨z, kvs, d.at k, t⟩
theorem ID.nodup {prog w h a c} (x : ID prog w h a c) : (c.map (·.1)).Nodup := by
  obtain ⟨_, kvs, ⟨_, _, _, _, _, _, _, _, hn⟩, t⟩ := x
  rw [← t.keys]; exact hn
theorem plain_mv {h h' : Heap} {D : Addr} {acc : Array Value} (x : PlainL h D acc) (k : ∀ o, h.get? D = some o → h'.get? D = some o) : PlainL h' D acc := by obtain ⟨o, a, e, r⟩ := x; exact ⟨o, a, k _ e, r⟩
theorem tuple_mv {h h' : Heap} {D : Addr} {acc : Array Value} (x : h.IsTuple D acc) (k : ∀ o, h.get? D = some o → h'.get? D = some o) : h'.IsTuple D acc := by obtain ⟨o, e, r⟩ := x; exact ⟨o, k _ e, r⟩
theorem Rm.u0 {A : Around} {k : Nat} (r : Rm A k) : A.units < cLine := Nat.lt_of_le_of_lt (Nat.le_trans (Nat.le_add_right _ _) (Nat.le_add_right _ _)) r.units
theorem Rm.u64 {A : Around} {k : Nat} (r : Rm A k) : A.units + 64 < cLine := by have := r.units; omega
theorem short63 {n : Nat} (h : n ≤ 100000) : ¬ (n : Int) ≥ 2 ^ 63 := fun h' => absurd (Int.le_trans h' (Int.ofNat_le.mpr h)) (by decide)
theorem beq_cast (a b : Nat) : ((a : Int) == (b : Int)) = (a == b) := by rw [Bool.eq_iff_iff, beq_iff_eq, beq_iff_eq]; exact Int.ofNat_inj
theorem ID.some {prog w h a c} (x : ID prog w h a c) : ∃ o, h.get? a = some o := by obtain ⟨_, _, ⟨o, _, _, ho, _⟩, _⟩ := x; exact ⟨o, ho⟩
end Mine

-- part: Loops
set_option maxHeartbeats 4000000
namespace Mine
open PySem PySem.W PyProof.Rows

section
variable {s s' s₀ : Shared} {g : Heap} {env : Env} {vs vs' : List (Str × Value)} {hid hid' : List (Addr × Obj)}

theorem Fv.turnAt {b : Addr} (F : Fv env s₀ g hid vs s) (hb : ∃ o, (b, o) ∈ hid) {h' : Heap} {t : Nat} (hk : ∀ p q, p ≠ b → s.heap.get? p = some q → h'.get? p = some q) {o' : Obj} (h2 : h'.get? b = some o')
    (hm : ∀ p ∈ hid', p = (b, o') ∨ (p ∈ hid ∧ p.1 ≠ b)) : Fv env s₀ g hid' vs { s with heap := h', toks := t } := by
  obtain ⟨o, ho⟩ := hb
  obtain ⟨h0, hg, hL, hC⟩ := F.hid (b, o) ho
  refine ⟨?_, ?_, ?_, F.apart, F.names, F.kinds, F.above, F.base, ?_, F.low, F.offL, F.offC, ?_⟩
  · obtain ⟨h₁, t₁, rfl⟩ := F.same; exact ⟨h', t, rfl⟩
  · obtain ⟨m, a, c⟩ := F.ns; exact ⟨m, a.at fun o e => hk _ o (Ne.symm hL) e, c⟩
  · intro n c e
    obtain ⟨ov, ⟨q, hq, hd⟩, d⟩ := F.cell n c e
    exact ⟨ov, ⟨q, hk _ _ (Ne.symm (hC n c (mem_of_lookup e))) hq, hd⟩, d⟩
  · intro p q e
    exact hk p q (by rintro rfl; rw [hg] at e; cases e) (F.keep p q e)
  · intro p hp
    rcases hm p hp with rfl | ⟨hp, hne⟩
    · exact ⟨h2, hg, hL, hC⟩
    · have := F.hid p hp
      exact ⟨hk p.1 p.2 hne this.1, this.2⟩

theorem Fv.hidAt (F : Fv env s₀ g hid vs s) {b : Addr} {o : Obj} (hm : (b, o) ∈ hid) : s.heap.get? b = some o := (F.hid _ hm).1
theorem Fv.gNe (F : Fv env s₀ g hid vs s) {b d : Addr} {o o' : Obj} (hm : (b, o) ∈ hid) (hd : g.get? d = some o') : d ≠ b := by
  rintro rfl
  have := (F.hid _ hm).2.1
  rw [hd] at this; cases this
end

section
variable {prog : Program} {w : World} {A : Around} {s s₀ : Shared} {g : Heap} {env : Env} {vs : List (Str × Value)} {hid : List (Addr × Obj)}

theorem noE {α : Type} {M : Model} {E : Value → Shared → Prop} {t : Sem α} {Q : α → Shared → Prop} (h : wpAny M A t Q (fun _ _ => False) s) : wpAny M A t Q E s :=
  wpAny_mono h (fun _ _ x => x) fun _ _ x => x.elim

theorem Fv.lose {b : Addr} {o : Obj} (F : Fv env s₀ g (hid ++ [(b, o)]) vs s) (hne : ∀ p ∈ hid, p.1 ≠ b) {h' : Heap} {tk : Nat} (hk : ∀ p q, p ≠ b → s.heap.get? p = some q → h'.get? p = some q) :
    Fv env s₀ g hid vs { s with heap := h', toks := tk } := by
  have hb := (F.hid _ (List.mem_append_right _ List.mem_cons_self)).2
  refine ⟨?_, ?_, ?_, F.apart, F.names, F.kinds, F.above, F.base, ?_, F.low, F.offL, F.offC, ?_⟩
  · obtain ⟨h₂, t₂, rfl⟩ := F.same; exact ⟨h', tk, rfl⟩
  · obtain ⟨m, a, c⟩ := F.ns; exact ⟨m, a.at fun o e => hk _ o (Ne.symm hb.2.1) e, c⟩
  · intro n c e
    obtain ⟨ov, ⟨q, hq, hd⟩, dd⟩ := F.cell n c e
    exact ⟨ov, ⟨q, hk _ _ (Ne.symm (hb.2.2 n c (mem_of_lookup e))) hq, hd⟩, dd⟩
  · intro p q e
    exact hk p q (by rintro rfl; rw [hb.1] at e; cases e) (F.keep p q e)
  · intro p hp
    have := F.hid p (List.mem_append_left _ hp)
    exact ⟨hk _ _ (hne p hp) this.1, this.2⟩

noncomputable def itemO (d : Addr) (i len ep : Nat) (ok ov : Value) : Obj := { cls := .type "dict_itemiterator", dict := none, data := .fields #[.none, .bool false, .ref d, .int (i : Nat) 0, .int len 0, .int ep 0, ok, ov], slots := #[] }
inductive IInv (env : Env) (s₀ : Shared) (g : Heap) (d it : Addr) (len ep : Nat) (J : Nat → List (Addr × Obj) → List (Str × Value) → Prop) (n : Nat) (s' : Shared) : Prop
  | mk (i : Nat) (ok ov : Value) (hid₁ : List (Addr × Obj)) (vs₁ : List (Str × Value)) (F : Fv env s₀ g (hid₁ ++ [(it, itemO d i len ep ok ov)]) vs₁ s') (ne : ∀ p ∈ hid₁, p.1 ≠ it) (j : J i hid₁ vs₁) (hi : i ≤ len) (hn : n = len + 1 - i)
inductive WInv (env : Env) (s₀ : Shared) (g : Heap) (I : Addr) (n : Nat) (St : Nat → Heap → Prop) (J : Nat → Heap → List (Addr × Obj) → List (Str × Value) → Prop) (k : Nat) (s' : Shared) : Prop
  | mk (i : Nat) (g₁ : Heap) (hid₁ : List (Addr × Obj)) (vs₁ : List (Str × Value)) (oi : Obj) (l : Le g g₁) (j : J i g₁ hid₁ vs₁) (ne : ∀ p ∈ hid₁, p.1 ≠ I) (F : Fv env s₀ g₁ (hid₁ ++ [(I, oi)]) vs₁ s') (st : St i s'.heap) (hi : i ≤ n) (hk : k = n + 1 - i)

theorem for_items {K : Type} [DecidableEq K] {knd : KeyKind prog w K} {E : Value → Shared → Prop} {xk xv : Str} {pk pv pt pos apos cpos : Pos} {x1} {o : Expr} {body : List Stmt} {d : Addr} {kvs : List (K × Value)} {Q : Flow → Shared → Prop}
    (hh : A.handled = none) (F : Fv env s₀ g hid vs s) (hd : g.DictOf knd d kvs) (hdS : (d == sysModules) = false)
    (ho : ∀ Q' E', Q' (.ref d) s → wpAny (model prog w) A (eval o env) Q' E' s)
    (hbase : attributeBase o "items" env (eval o env) = eval o env) (hline : (apos.endLine == cpos.line) = true)
    (J : Nat → List (Addr × Obj) → List (Str × Value) → Prop) (h0 : J 0 hid vs)
    (step : ∀ i k v key it oi hid₁ vs₁ s₁ (P : Flow → Shared → Prop), (∀ hid₂ vs₂ s₂, J (i + 1) hid₂ vs₂ → (∀ p ∈ hid₂, p.1 ≠ it) → Fv env s₀ g (hid₂ ++ [(it, oi)]) vs₂ s₂ → P .next s₂) →
      kvs[i]? = some (k, v) → knd.is k key = true → J i hid₁ vs₁ → (∀ p ∈ hid₁, p.1 ≠ it) →
      Fv env s₀ g (hid₁ ++ [(it, oi)]) ((xv, v) :: (xk, key) :: vs₁) s₁ → wpAny (model prog w) A (execs body env) P (fun _ _ => False) s₁)
    (done : ∀ hid₁ vs₁ s₁, J kvs.length hid₁ vs₁ → Fv env s₀ g hid₁ vs₁ s₁ → Q .next s₁)
    (hk : env.scope.kind = .function := by rfl) (hok : kOk env xk = true := by rfl) (hov : kOk env xv = true := by rfl) (hfk : (env.kindOf xk == some .free) = false := by rfl) (hfv : (env.kindOf xv == some .free) = false := by rfl)
    (hs : ∀ x, foldedSetIterable (.Call (.Attribute o "items" apos) [] [] cpos) env x = pure x := by intro _; rfl) :
    wpAny (model prog w) A (exec (.For (.Tuple [.Name xk pk, .Name xv pv] x1 pt) (.Call (.Attribute o "items" apos) [] [] cpos) body [] pos) env) Q E s := by
  obtain ⟨ep, hda⟩ := hd.dictAt
  have hds : s.heap.DictAt knd d kvs ep := hda.keep F.keep
  obtain ⟨od, _, hod, _⟩ := id hda
  refine wpAny_For (wpAny_Call_items hdS hds.dictOf hbase hline (fun Q' q => ho Q' _ q) ?_) hs
  refine wpAny_pyIter_items (knd := knd) (d := d) (kvs := kvs) (ep := ep) ⟨_, Heap.get?_push_size _ rfl, rfl, rfl⟩ (hds.push _) ?_
  generalize hH : (s.heap.push { cls := .type "dict_items", data := .fields #[.ref d] }) = H
  have hHl : Le s.heap H := hH ▸ Le.push _ _
  have F1 : Fv env s₀ g hid vs { s with heap := H } := F.mk' hHl
  generalize hoi : ({ cls := .type "dict_itemiterator", data := .fields #[.none, .bool false, .ref d, .int 0 0, .int kvs.length 0, .int ep 0, .none, .none] } : Obj) = oi0
  generalize hit : H.objs.size = it
  have hitn : H.get? it = none := hit ▸ get_size H
  have F2 : Fv env s₀ g ((it, oi0) :: hid) vs { s with heap := H.push oi0 } :=
    F1.hide (keeps_mk _ (Le.push H oi0)) hitn (by rw [← hit]; exact Heap.get?_push_size _ (by rw [← hoi]; rfl))
  have hne0 : ∀ p ∈ hid, p.1 ≠ it := fun p hp e => by
    have := (F1.hid p hp).1
    rw [e] at this
    change H.get? it = _ at this
    rw [hitn] at this; cases this
  refine codeAny_forLoop_any
    (IInv env s₀ g d it kvs.length ep J) ?_ (kvs.length + 1)
    ⟨0, .none, .none, hid, vs, by
      have e0 : itemO d 0 kvs.length ep .none .none = oi0 := hoi
      rw [e0]
      exact F2.drop (fun p hp => by
        rcases List.mem_append.mp hp with h | h
        · exact List.mem_cons_of_mem _ h
        · exact (List.mem_singleton.mp h) ▸ List.mem_cons_self), hne0, h0, Nat.zero_le _, rfl⟩
  rintro n s' ⟨i, ok, ov, hid₁, vs₁, F3, hne, hJ, hi, rfl⟩
  have hmem : ∃ o, (it, o) ∈ hid₁ ++ [(it, itemO d i kvs.length ep ok ov)] := ⟨_, List.mem_append_right _ List.mem_cons_self⟩
  have hit' := F3.hidAt (List.mem_append_right _ List.mem_cons_self)
  have hm' : s'.heap.DictAt knd d kvs ep := hda.keep F3.keep
  cases hv : kvs[i]? with
  | none =>
    have hsz : i = kvs.length := Nat.le_antisymm hi (by simpa using hv)
    refine wpAny_pyNext_items_end hh hit' hm' hv fun h₁ he₁ => wpAny_execs_nil ?_
    exact done hid₁ vs₁ _ (hsz ▸ hJ) (F3.lose hne he₁)
  | some kv =>
    obtain ⟨k, v⟩ := kv
    have hlt : i < kvs.length := (List.getElem?_eq_some_iff.mp hv).1
    refine wpAny_pyNext_items_item hit' hm' hv fun key h₁ hkey heo ht₁ hz₁ hk₁ => ?_
    have F4 : Fv env s₀ g (hid₁ ++ [(it, _)]) vs₁ { s' with heap := h₁ } := F3.turnAt hmem (fun p q a b => hk₁ p q a b) heo (fun p hp => by
      rcases List.mem_append.mp hp with h | h
      · exact .inr ⟨List.mem_append_left _ h, hne p h⟩
      · exact .inl (List.mem_singleton.mp h))
    refine wpAny_letOwnedTupleGo_items heo fun h₂ he₂ hs₂ => ?_
    have F5 : Fv env s₀ g (hid₁ ++ [(it, _)]) vs₁ { s' with heap := h₂ } := F4.turnAt ⟨_, List.mem_append_right _ List.mem_cons_self⟩ (fun p q a b => hs₂.extBut p q a b) he₂ (fun p hp => by
      rcases List.mem_append.mp hp with h | h
      · exact .inr ⟨List.mem_append_left _ h, hne p h⟩
      · exact .inl (List.mem_singleton.mp h))
    have hiH : it < s'.heap.objs.size := Heap.lt_size hit'
    have ht₂ : h₂.IsTuple s'.heap.objs.size #[key, v] := ⟨_, (hs₂.2 _ (Nat.ne_of_gt hiH)).trans ht₁, rfl, _, rfl⟩
    refine wpAny_assign_Tuple hh ht₂ rfl rfl fun h₃ hx₃ => ?_
    have hx₃' : Le h₂ h₃ := fun b o e => hx₃ b o (Nat.ne_of_lt (Heap.lt_size e)) e
    have F6 := F5.mk' (t := s'.toks) hx₃'
    show wpAny _ _ (do holding [v] (assign (.Name xk pk) env key); do holding [] (assign (.Name xv pv) env v); pure ()) _ _ _
    refine wpAny_bind (wpAny_holding (wpAny_assign_Name (F6.st (fun s₄ F7 => ?_) hk hok hfk)))
    refine wpAny_bind (wpAny_holding (wpAny_assign_Name (F7.st (fun s₅ F8 => wpAny_pure ?_) hk hov hfv)))
    refine wpAny_mono (step i k v key it _ hid₁ vs₁ s₅ (fun f s => f = .next ∧ IInv env s₀ g d it kvs.length ep J (kvs.length + 1 - (i + 1)) s) (fun hid₂ vs₂ s₂ hJ₂ hne₂ F9 => ⟨rfl, i + 1, key, v, hid₂, vs₂, F9, hne₂, hJ₂, hlt, rfl⟩) hv hkey hJ hne F8) (fun f s₆ h₆ => ?_) fun _ _ x => x.elim
    obtain ⟨rfl, h₆⟩ := h₆
    exact ⟨kvs.length + 1 - (i + 1), sub_dec hlt, h₆⟩

theorem for_walks {x : Str} {px : Pos} {body : List Stmt} {I : Addr} {fp : List Addr} {n : Nat} {P : Nat → Value → Prop} {St : Nat → Heap → Prop} {oI : Obj} {R : Result → Shared → Prop}
    (W : Walks prog w A I fp [I] n P St) (hfp : ∀ b ∈ fp, b = I ∨ ∃ o, g.get? b = some o) (hSt : ∀ i h, St i h → ∃ o, h.get? I = some o)
    (F : Fv env s₀ g (hid ++ [(I, oI)]) vs s) (hne : ∀ p ∈ hid, p.1 ≠ I) (hst : St 0 s.heap)
    (J : Nat → Heap → List (Addr × Obj) → List (Str × Value) → Prop) (h0 : J 0 g hid vs)
    (step : ∀ i v g₁ hid₁ vs₁ oi s₁ (Pq : Flow → Shared → Prop), (∀ g₂ hid₂ vs₂ s₂, Le g₁ g₂ → J (i + 1) g₂ hid₂ vs₂ → (∀ p ∈ hid₂, p.1 ≠ I) → Fv env s₀ g₂ (hid₂ ++ [(I, oi)]) vs₂ s₂ → Pq .next s₂) → (∀ v s₂, R (.ok (.ret v)) s₂ → Pq (.ret v) s₂) → i < n → P i v → Le g g₁ → J i g₁ hid₁ vs₁ → (∀ p ∈ hid₁, p.1 ≠ I) → Fv env s₀ g₁ (hid₁ ++ [(I, oi)]) ((x, v) :: vs₁) s₁ →
      wpAny (model prog w) A (execs body env) Pq (fun _ _ => False) s₁)
    (done : ∀ g₁ hid₁ vs₁ s₁, Le g g₁ → J n g₁ hid₁ vs₁ → Fv env s₀ g₁ hid₁ vs₁ s₁ → R (.ok .next) s₁)
    (hk : env.scope.kind = .function := by rfl) (hok : kOk env x = true := by rfl) (hfx : (env.kindOf x == some .free) = false := by rfl) :
    codeAny (model prog w) A (.forLoop (.Name x px) (.ref I) body [] env) R s := by
  refine codeAny_forLoop_any
    (WInv env s₀ g I n St J) ?_ (n + 1)
    ⟨0, g, hid, vs, oI, Le.refl _, h0, hne, F, hst, Nat.zero_le _, rfl⟩
  rintro k s' ⟨i, g₁, hid₁, vs₁, oi, hl, hJ, hne₁, F₁, hst₁, hi, rfl⟩
  by_cases hlt : i < n
  · refine W.item i _ _ _ hlt hst₁ fun v h' tk hP hst' hk' => ?_
    show wpAny _ _ (pure ()) _ _ _
    refine wpAny_pure ?_
    obtain ⟨o', ho'⟩ := hSt _ _ hst'
    have F₂ : Fv env s₀ g₁ (hid₁ ++ [(I, o')]) vs₁ { s' with heap := h', toks := tk } := F₁.turnAt ⟨_, List.mem_append_right _ List.mem_cons_self⟩ (fun p q a b => hk' p q (by simpa using a) b) ho' (fun p hp => by
      rcases List.mem_append.mp hp with h | h
      · exact .inr ⟨List.mem_append_left _ h, hne₁ p h⟩
      · exact .inl (List.mem_singleton.mp h))
    refine wpAny_assign_Name (F₂.st (fun s₃ F₃ => ?_) hk hok hfx)
    refine wpAny_mono (step i v g₁ hid₁ vs₁ o' s₃ (fun f s => match f with | .next => ∃ m, m < n + 1 - i ∧ WInv env s₀ g I n St J m s | .ret v => R (.ok (.ret v)) s | _ => False) ?_ (fun _ _ h => h) hlt hP hl hJ hne₁ F₃) (fun f s₄ h₄ => ?_) fun _ _ x => x.elim
    · intro g₂ hid₂ vs₂ s₄ hl₂ hJ₂ hne₂ F₄
      refine ⟨n + 1 - (i + 1), sub_dec hlt, i + 1, g₂, hid₂, vs₂, o', hl.trans hl₂, hJ₂, hne₂, F₄, W.frame _ h' _ hst' (fun b hb o e => ?_), hlt, rfl⟩
      rcases hfp b hb with rfl | ⟨o'', ho''⟩
      · have := F₄.hidAt (List.mem_append_right _ List.mem_cons_self)
        change h'.get? _ = _ at ho'
        rw [ho'] at e; cases e; exact this
      · have h1 : h'.get? b = some o'' := F₂.keep _ _ (hl _ _ ho'')
        rw [h1] at e; cases e
        exact F₄.keep _ _ (hl₂ _ _ (hl _ _ ho''))
    cases f with
    | next => exact h₄
    | cont => exact h₄.elim
    | brk => exact h₄.elim
    | ret v => exact h₄
  · have hin : i = n := Nat.le_antisymm hi (Nat.not_lt.mp hlt)
    subst hin
    refine W.done _ _ _ hst₁ fun h' tk hk' => wpAny_execs_nil (done g₁ hid₁ vs₁ _ hl hJ (F₁.lose hne₁ fun p q a b => hk' p q (by simpa using a) b))

/-- over a list that stands frozen -/
theorem for_list {x : Str} {px pos : Pos} {iter : Expr} {body : List Stmt} {l : Addr} {items : Array Value} {Q : Flow → Shared → Prop} {E : Value → Shared → Prop}
    (hh : A.handled = none) (F : Fv env s₀ g hid vs s)
    (ho : ∀ Q' : Value → Shared → Prop, (∀ s', Keeps s s' → Q' (.ref l) s') → wpAny (model prog w) A (eval iter env) Q' E s) (hl : g.IsList l items)
    (J : Nat → Heap → List (Addr × Obj) → List (Str × Value) → Prop) (h0 : J 0 g hid vs)
    (step : ∀ I i v g₁ hid₁ vs₁ oi s₁ (P : Flow → Shared → Prop), (∀ g₂ hid₂ vs₂ s₂, Le g₁ g₂ → J (i + 1) g₂ hid₂ vs₂ → (∀ p ∈ hid₂, p.1 ≠ I) → Fv env s₀ g₂ (hid₂ ++ [(I, oi)]) vs₂ s₂ → P .next s₂) → (∀ v s₂, Q (.ret v) s₂ → P (.ret v) s₂) → i < items.size → items[i]? = some v → Le g g₁ → J i g₁ hid₁ vs₁ → (∀ p ∈ hid₁, p.1 ≠ I) → Fv env s₀ g₁ (hid₁ ++ [(I, oi)]) ((x, v) :: vs₁) s₁ →
      wpAny (model prog w) A (execs body env) P (fun _ _ => False) s₁)
    (done : ∀ g₁ hid₁ vs₁ s₁, Le g g₁ → J items.size g₁ hid₁ vs₁ → Fv env s₀ g₁ hid₁ vs₁ s₁ → Q .next s₁)
    (hk : env.scope.kind = .function := by rfl) (hok : kOk env x = true := by rfl) (hfx : (env.kindOf x == some .free) = false := by rfl)
    (hs : ∀ x, foldedSetIterable iter env x = pure x := by intro _; rfl) :
    wpAny (model prog w) A (exec (.For (.Name x px) iter body [] pos) env) Q E s := by
  refine wpAny_For (ho _ fun s₁ k₁ => ?_) hs
  have F₁ := F.keeps k₁
  have hl₁ : s₁.heap.IsList l items := hl.at fun o e => F₁.keep _ o e
  refine wpAny_pyIter_list hl₁ ?_
  generalize hI : s₁.heap.objs.size = I
  have hIn : s₁.heap.get? I = none := hI ▸ get_size _
  have hne : ∀ p ∈ hid, p.1 ≠ I := fun p hp e => by
    have := (F₁.hid p hp).1
    rw [e, hIn] at this; cases this
  have hlI : l ≠ I := by
    obtain ⟨o, ho, _⟩ := hl₁
    rintro rfl; rw [hIn] at ho; cases ho
  have hgI : (s₁.heap.push { cls := .type "list_iterator", data := .fields #[.ref l, .int 0 0] }).get? I = some { cls := .type "list_iterator", data := .fields #[.ref l, .int 0 0] } := by rw [← hI]; exact Heap.get?_push_size _ rfl
  have F₂ := F₁.hide (keeps_mk s₁ (t := s₁.toks) (Le.push s₁.heap _)) hIn hgI
  refine for_walks (Walks.list hh I l hlI items) (fun b hb => ?_) (fun i h st => ?_) (oI := { cls := .type "list_iterator", data := .fields #[.ref l, .int 0 0] }) (F₂.drop fun p hp => ?_) hne ⟨⟨_, hgI, rfl, rfl⟩, hl₁.at fun o e => Heap.get?_push_of_some _ e⟩ J h0 (step I) done hk hok hfx
  · simp only [List.mem_cons, List.not_mem_nil, or_false] at hb
    rcases hb with rfl | rfl
    · exact .inl rfl
    · obtain ⟨o, ho, _⟩ := hl; exact .inr ⟨o, ho⟩
  · obtain ⟨⟨o, ho, _⟩, _⟩ := st; exact ⟨o, ho⟩
  · rcases List.mem_append.mp hp with h | h
    · exact List.mem_cons_of_mem _ h
    · rw [List.mem_singleton.mp h]; exact List.mem_cons_self
end
end Mine

-- part: FAdd
set_option maxHeartbeats 4000000
namespace Mine
open PySem PySem.W PyProof.Rows

noncomputable def putP (a : List (Str × Int)) (p : Str × Int) : List (Str × Int) := putC a p.1 p.2
noncomputable def addVal (acc : List (Str × Int)) (k : Str) (n : Int) : Int := match getC acc k with | some i => i + n | none => n
noncomputable def addStep (acc : List (Str × Int)) (p : Str × Int) : List (Str × Int) := putC acc p.1 (addVal acc p.1 p.2)
noncomputable def addC (t u : List (Str × Int)) : List (Str × Int) := u.foldl addStep (t.foldl putP [])

theorem bool_ne {a b : Nat} (h : a ≠ b) : (a == b) = false := by simpa using h

variable {prog : Program} {w : World} {A : Around} {E : Value → Shared → Prop}

theorem Tied.get {kvs c} (h : Tied kvs c) {i : Nat} {k : Str} {v : Value} (e : kvs[i]? = some (k, v)) : ∃ n t, c[i]? = some (k, n) ∧ v = .int n t := by
  induction h generalizing i with
  | nil => simp at e
  | @cons kv p l1 l2 h _ ih =>
    cases i with
    | zero =>
      simp only [List.getElem?_cons_zero, Option.some.injEq] at e
      subst e
      obtain ⟨h1, t, h2⟩ := h
      exact ⟨p.2, t, by simp at h1; simp [h1], h2⟩
    | succ i => simp only [List.getElem?_cons_succ] at e ⊢; exact ih e
theorem Tied.length {kvs c} (h : Tied kvs c) : kvs.length = c.length := Paired.length h
theorem putC_length (c : List (Str × Int)) (k : Str) (v : Int) : (putC c k v).length ≤ c.length + 1 := by
  unfold putC; split <;> simp
theorem foldl_take_succ {α β : Type} (f : β → α → β) (b : β) (l : List α) {i : Nat} {a : α} (h : l[i]? = some a) : (l.take (i + 1)).foldl f b = f ((l.take i).foldl f b) a := by
  rw [List.take_add_one, h]; simp
theorem addT_length (l : List (Str × Int)) : ∀ a : List (Str × Int), (l.foldl putP a).length ≤ a.length + l.length := by
  induction l with
  | nil => simp
  | cons p l ih => intro a; rw [List.foldl_cons, List.length_cons]; have := ih (putP a p); have := putC_length a p.1 p.2; unfold putP at *; omega
theorem addU_length (l : List (Str × Int)) : ∀ a : List (Str × Int), (l.foldl addStep a).length ≤ a.length + l.length := by
  induction l with
  | nil => simp
  | cons p l ih => intro a; rw [List.foldl_cons, List.length_cons]; have := ih (addStep a p); have := putC_length a p.1 (addVal a p.1 p.2); unfold addStep at *; omega

noncomputable def Made (prog : Program) (w : World) (o : Obj) (c : List (Str × Int)) : Prop := ∃ kvs, o.IsDictOf (strKind prog w) kvs ∧ Tied kvs c

theorem add_fin {env : Env} {s₀ s₃ : Shared} {g : Heap} {d it : Addr} {o oi : Obj} {vs' : List (Str × Value)} {kvs : List (Str × Value)} {base : List (Str × Int)} {cu : List (Str × Int)} {i : Nat} {k : Str} {n i' : Int} {t' : Tok} {h' : Heap} {tk : Nat}
    (F3 : Fv env s₀ g [(d, o), (it, oi)] vs' s₃) (hT : Tied kvs ((cu.take i).foldl addStep base)) (hci : cu[i]? = some (k, n)) (hdi : it ≠ d) (hvs : vs'.lookup (Str.ofString "new_callers") = some (.ref d))
    (hD' : h'.DictOf (strKind prog w) d (stored kvs k (.int i' t'))) (hs' : Heap.SameBut d s₃.heap h')
    (hi' : i' = addVal ((cu.take i).foldl addStep base) k n) {P : Flow → Shared → Prop}
    (hP : ∀ hid₂ vs₂ s₂, ((∃ o, hid₂ = [(d, o)] ∧ Made prog w o ((cu.take (i + 1)).foldl addStep base)) ∧ vs₂.lookup (Str.ofString "new_callers") = some (.ref d)) → (∀ p ∈ hid₂, p.1 ≠ it) → Fv env s₀ g (hid₂ ++ [(it, oi)]) vs₂ s₂ → P .next s₂) :
    P .next { s₃ with heap := h', toks := tk } := by
  obtain ⟨o', ho', hO'⟩ := Heap.dictOf_iff.mp hD'
  refine hP [(d, o')] vs' _ ⟨⟨o', rfl, _, hO', ?_⟩, hvs⟩ (fun p hp => by rw [List.mem_singleton.mp hp]; exact Ne.symm hdi)
    (F3.turn hs' ho' (fun p hp => by rw [List.mem_singleton.mp hp]; exact hdi))
  rw [foldl_take_succ _ _ _ hci]
  show Tied _ (addStep _ (k, n))
  show Tied _ (putC _ k (addVal _ k n))
  rw [← hi']
  exact hT.put k i' t'

theorem add_callers_ok {s : Shared} {t u : Addr} {ct cu : List (Str × Int)} {Q : Value → Shared → Prop} (B : Bs w s.heap) (hA : Rm A 1)
    (ht : ID prog w s.heap t ct) (hu : ID prog w s.heap u cu) (hsz : ct.length + cu.length ≤ 100000)
    (hQ : ∀ d s', Keeps s s' → s.heap.get? d = none → ID prog w s'.heap d (addC ct cu) → Q (.ref d) s') : wpAny (model prog w) A (call (.ref 98) [.ref t, .ref u]) Q E s := by
  refine enter (binds := [(Str.ofString "target", .ref t), (Str.ofString "source", .ref u)]) B hA (by rfl) (by rfl) (by rfl) (by rfl) (fun A' n Q' s₁ hD hq F => ?_)
  refine stm (wpAny_Assign_Name (wpAny_Dict_empty ?_))
  generalize hd : s₁.heap.objs.size = d
  have hdn : s₁.heap.get? d = none := hd ▸ get_size _
  have hdS : (d == sysModules) = false := (B.le F.keep).notMods hdn
  obtain ⟨o0, ho0, hD0⟩ := Heap.dictOf_iff.mp (Heap.DictOf.new (knd := strKind prog w) s₁.heap)
  rw [hd] at ho0
  have F1 := F.hide (keeps_mk s₁ (t := s₁.toks) (Le.push s₁.heap _)) hdn ho0
  refine F1.st fun s₂ F2 => ?_
  obtain ⟨htS, kt, hkt, htt⟩ := ht
  obtain ⟨huS, ku, hku, hut⟩ := hu
  refine stm (for_items (knd := strKind prog w) (kvs := kt) hD.hh F2 hkt htS (fun Q' E' q => F2.ld (by rfl) q) (by rfl) (by rfl)
    (fun i hid vs => (∃ o, hid = [(d, o)] ∧ Made prog w o ((ct.take i).foldl putP [])) ∧ vs.lookup (Str.ofString "new_callers") = some (.ref d) ∧ vs.lookup (Str.ofString "source") = some (.ref u))
    ⟨⟨o0, rfl, [], hD0, .nil⟩, rfl, rfl⟩ ?_ ?_)
  · rintro i k v key it oi hid₁ vs₁ s₃ P hP hi hkey ⟨⟨o, rfl, kvs, hO, hT⟩, hn, hs⟩ hne F3
    obtain ⟨n, tn, hci, rfl⟩ := htt.get hi
    refine stm (wpAny_Assign_Subscript (F3.ld (by rfl) (F3.ld (by exact hn) (F3.ld (by rfl) ?_))))
    have hlen : kvs.length ≤ sizeLine := by
      have h1 := hT.length
      have h2 := addT_length (ct.take i) []
      have h3 : (ct.take i).length ≤ ct.length := by rw [List.length_take]; omega
      rw [sizeLine_eq]; simp only [List.length_nil] at h2; omega
    refine wpAny_setItem_pairs hkey (Heap.dictOf_iff.mpr ⟨o, F3.hidAt List.mem_cons_self, hO⟩) (fun h' hD' hs' => ?_) hlen
    obtain ⟨o', ho', hO'⟩ := Heap.dictOf_iff.mp hD'
    have hdi : it ≠ d := fun e => hne _ List.mem_cons_self e.symm
    refine wpAny_execs_nil (hP [(d, o')] (_ :: _ :: vs₁) _ ⟨⟨o', rfl, _, hO', ?_⟩, by exact hn, by exact hs⟩ (fun p hp => by rw [List.mem_singleton.mp hp]; exact Ne.symm hdi)
      (F3.turn hs' ho' (fun p hp => by rw [List.mem_singleton.mp hp]; exact hdi)))
    rw [foldl_take_succ _ _ _ hci]
    exact hT.put k n tn
  · rintro hid₁ vs₁ s₃ ⟨⟨o, rfl, kvs, hO, hT⟩, hn, hs⟩ F3
    rw [htt.length, List.take_length] at hT
    refine stm (for_items (knd := strKind prog w) (kvs := ku) hD.hh F3 hku huS (fun Q' E' q => F3.ld (by exact hs) q) (by rfl) (by rfl)
      (fun i hid vs => (∃ o, hid = [(d, o)] ∧ Made prog w o ((cu.take i).foldl addStep (ct.foldl putP []))) ∧ vs.lookup (Str.ofString "new_callers") = some (.ref d))
      ⟨⟨o, rfl, kvs, hO, hT⟩, hn⟩ ?_ ?_)
    · rintro i k v key it oi hid₁ vs₁ s₃ P hP hi hkey ⟨⟨o, rfl, kvs, hO, hT⟩, hn⟩ hne F3
      obtain ⟨n, tn, hci, rfl⟩ := hut.get hi
      have hdi : it ≠ d := fun e => hne _ List.mem_cons_self e.symm
      have hlen : kvs.length ≤ sizeLine := by
        have h1 := hT.length
        have h2 := addU_length (cu.take i) (ct.foldl putP [])
        have h4 := addT_length ct []
        have h3 : (cu.take i).length ≤ cu.length := by rw [List.length_take]; omega
        rw [sizeLine_eq]; simp only [List.length_nil] at h4; omega
      have hDo : s₃.heap.DictOf (strKind prog w) d kvs := Heap.dictOf_iff.mpr ⟨o, F3.hidAt List.mem_cons_self, hO⟩
      refine stm (wpAny_If (wpAny_isTrue_Compare1 (F3.ld (by rfl) (F3.ld (by exact hn) (wpAny_in_of hkey hdS hDo.mapOf (wpAny_truthy_bool ?_))))))
      rcases hT.at k with ⟨j, tj, hg, hv⟩ | ⟨hg, hv⟩
      · rw [hv]
        refine ite_t ?_
        have F4 := F3.tok (t := s₃.toks + 1)
        refine stm (wpAny_If (wpAny_isTrue_value (wpAny_Call_NameR ((B.le (keeps_le F4.outer)).ldB (v := .builtin "isinstance") (by rfl) (by rfl) (by decide) ?_))))
        refine PyProof.Rows.callWith_builtin1 (args_cons (F4.ld (by rfl) (args_cons ((B.le (keeps_le F4.outer)).ldB (v := .type "tuple") (by rfl) (by rfl) (by decide) (args_nil ?_)))))
        refine IsiPair.int_tuple (wpAny_truthy_bool (ite_f ?_))
        have F5 := F4.tok (t := s₃.toks + 2)
        refine stm (wpAny_AugAssign_SubscriptAny (F5.ld (by exact hn) (F5.ld (by rfl) (wpAny_getItem_of hkey hDo.mapOf hv (F5.tok.ld (by rfl) (wpAny_iadd_int ?_))))))
        refine wpAny_setItem_pairs hkey hDo (fun h' hD' hs' => ?_) hlen
        exact wpAny_execs_nil (wpAny_execs_nil (wpAny_execs_nil (add_fin F5.tok hT hci hdi (by exact hn) hD' hs' (by unfold addVal; rw [hg]) hP)))
      · rw [hv]
        refine ite_f ?_
        have F4 := F3.tok (t := s₃.toks + 1)
        refine stm (wpAny_Assign_Subscript (F4.ld (by rfl) (F4.ld (by exact hn) (F4.ld (by rfl) ?_))))
        refine wpAny_setItem_pairs hkey hDo (fun h' hD' hs' => ?_) hlen
        exact wpAny_execs_nil (wpAny_execs_nil (add_fin F4 hT hci hdi (by exact hn) hD' hs' (by unfold addVal; rw [hg]) hP))
    · rintro hid₁ vs₁ s₄ ⟨⟨o, rfl, kvs, hO, hT⟩, hn⟩ F4
      rw [hut.length, List.take_length] at hT
      refine stm (wpAny_Return_some (F4.ld (by exact hn) ?_))
      exact hq _ _ (hQ d s₄ F4.outer (by cases e : s.heap.get? d with | none => rfl | some o => rw [F.keep _ _ e] at hdn; cases hdn) ⟨hdS, kvs, Heap.dictOf_iff.mpr ⟨o, F4.hidAt List.mem_cons_self, hO⟩, hT⟩)
end Mine

-- part: FApp
set_option maxHeartbeats 4000000
namespace Mine
open PySem PySem.W PyProof.Rows

theorem Fv.fr {env : Env} {s₀ s : Shared} {g : Heap} {hid : List (Addr × Obj)} {vs : List (Str × Value)} (F : Fv env s₀ g hid vs s) : ∃ m, Fr s₀.heap env.locals s.heap m := by
  obtain ⟨m, a, _⟩ := F.ns
  exact ⟨m, a, F.base.trans F.keep, F.low⟩
noncomputable def Wd (h : Heap) (a : Addr) (ss : List Str) : Prop := ∃ vs, h.IsList a (List.toArray vs) ∧ StrsAre vs ss
theorem Wd.le {h h' : Heap} {a : Addr} {ss : List Str} (W : Wd h a ss) (k : Le h h') : Wd h' a ss := let ⟨vs, x, y⟩ := W; ⟨vs, x.at fun o e => k _ o e, y⟩

noncomputable def strT (x : String) : Str := Str.ofString x

structure BookAt (h : Heap) (b l : Addr) : Prop where
  at_ : ∃ ox es n, PySem.W.InstAt h b ox 59 (some (dictOf es n)) ∧ getL (strT "useragents") es = some (some (.ref l)) ∧ getL (strT "applies_to") es = some none
theorem InstAt.le {h h' : Heap} {x : Addr} {ox : Obj} {C : Addr} {od : Option Obj} (I : PySem.W.InstAt h x ox C od) (k : Le h h') : PySem.W.InstAt h' x ox C od := by
  refine ⟨k _ _ I.at_, I.cls, I.no, ?_⟩
  have := I.dict
  cases hd : ox.dict <;> cases od <;> simp only [hd] at this ⊢
  exact k _ _ this
theorem BookAt.le {h h' : Heap} {b l : Addr} (x : BookAt h b l) (k : Le h h') : BookAt h' b l :=
  let ⟨ox, es, n, I, r⟩ := x.at_; ⟨ox, es, n, InstAt.le I k, r⟩

noncomputable def hasIn (u a : Str) : Bool := !(Builtin.Str.occurrences u a 0 u.length 1).isEmpty
noncomputable def apB (ags : List Str) (p : Str) : Bool := ags.any fun a => a != strT "*" && hasIn (Txt.lower p) (Txt.lower a)

theorem pg_ua (w : World) : plainGet (KK w) 59 (strT "useragents") = true := by rfl
theorem hd_E (w : World) : hasDictIn (KK w) 59 = true := by rfl
theorem fi_ua (w : World) : findIn (KK w) (.ref 59) (strT "useragents") = some none := by rfl
theorem fi_at (w : World) : findIn (KK w) (.ref 59) (strT "applies_to") = some (some (.ref 49)) := by rfl

variable {prog : Program} {w : World} {A : Around} {E : Value → Shared → Prop}

theorem strs_get {vs : List Value} {ys : List Str} (h : StrsAre vs ys) {i : Nat} {v : Value} (e : vs[i]? = some v) : ∃ y t, ys[i]? = some y ∧ v = .str y t := by
  induction h generalizing i with
  | nil => simp at e
  | cons y t _ ih =>
    cases i with
    | zero => simp at e; exact ⟨y, t, by simp, e.symm⟩
    | succ i => simp only [List.getElem?_cons_succ] at e ⊢; exact ih e
theorem strs_len {vs : List Value} {ys : List Str} (h : StrsAre vs ys) : vs.length = ys.length := by
  induction h with
  | nil => rfl
  | cons _ _ _ ih => simp [ih]

theorem in_hasIn {s : Shared} {x y : Str} {t u : Tok} {Q : Value → Shared → Prop} (h : Q (.bool (hasIn x y)) s) : wpAny (model prog w) A (compareOp .In (.str y u) (.str x t)) Q E s := PyProof.Rows.in_str h
theorem ne_strB {s : Shared} {x y : Str} {t u : Tok} {Q : Value → Shared → Prop} (h : Q (.bool (x != y)) s) : wpAny (model prog w) A (compareOp .NotEq (.str x t) (.str y u)) Q E s := PyProof.Rows.ne_str h

theorem applies_ok {s : Shared} {b l : Addr} {ags : List Str} {x p : Str} {r : List Str} {t : Tok} {Q : Value → Shared → Prop} (B : Bs w s.heap) (hA : Rm A 1)
    (hb : BookAt s.heap b l) (hw : Wd s.heap l ags) (hx : x.length ≤ 1000) (hsp : Txt.split x (strT "/") = p :: r)
    (hsz2 : (Builtin.Str.partsBetween x (Builtin.Str.occurrences x (strT "/") 0 x.length (x.length + 1)) (strT "/").length).length ≤ sizeLine) (hp : p.length ≤ 1000) (hag : ∀ a ∈ ags, a.length ≤ 1000)
    (hQ : ∀ s', Keeps s s' → Q (.bool (apB ags p)) s') : wpAny (model prog w) A (call (.ref 49) [.ref b, .str x t]) Q E s := by
  refine enter (binds := [(Str.ofString "self", .ref b), (Str.ofString "useragent", .str x t)]) B hA (by rfl) (by rfl) (by rfl) (by rfl) (fun A' n Q' s₁ hA' hq F => ?_)
  refine stm (wpAny_If (wpAny_isTrue_Compare1 (F.ld (by rfl) (wpAny_Constant_none (is_str_none (wpAny_truthy_bool (ite_f (wpAny_execs_nil ?_))))))))
  refine stm (wpAny_Assign_Name (MethodCall_ ?_))
  refine Subscript_ (MethodCall_ (F.ld (by rfl) (GM.split (callWith_method1 (args_cons (wpAny_Constant_str (args_nil ?_)))))))
  refine SCH.split1 (P := Le s₁.heap) (fun h ob k => k.trans (Le.push _ _)) (Le.refl _) (by rfl) (fun D vs h' k hvs hk hD => ?_) (by rw [sizeLine_eq]; omega) hsz2
  rw [show Txt.split x (Str.ofString "/") = p :: r from hsp] at hvs
  refine wpAny_Constant_int ?_
  obtain ⟨⟨q, tq⟩, vs', rfl⟩ : ∃ y ys, vs = y :: ys := by cases vs with | nil => simp at hvs | cons y ys => exact ⟨y, ys, rfl⟩
  simp only [List.map_cons, List.cons.injEq] at hvs
  obtain ⟨rfl, _⟩ := hvs
  refine tail_any hD.typeIs slot_list_getitem.lookup (wpAny_getItem_list hD (by decide) (by decide) (x := .str q tq) (by simp [strValues]) ?_) (by with_unfolding_all rfl)
  refine GM.lower (callWith_method0 (SCL.lower (by omega) fun hlow => ?_))
  have F1 : Fv _ s s.heap [] _ { s₁ with heap := h', toks := 0 } := F.mk' hk
  refine F1.tok.st fun s₂ F2 => ?_
  obtain ⟨m2, fr2⟩ := F2.fr
  obtain ⟨vsA, hlA, hsA⟩ := hw
  have hbk := hb.le (keeps_le F2.outer)
  obtain ⟨ox, es, n, I, hl1, hl2⟩ := hbk.at_
  refine stm (for_list (l := l) (items := vsA.toArray) hA'.hh F2 (fun Q' q => Attribute_Name_ (F2.ld (by rfl) ?_)) hlA
    (fun i g' hid vs' => hid = [] ∧ (∃ tu, vs'.lookup (Str.ofString "useragent") = some (.str (Txt.lower q) tu)) ∧ apB (ags.take i) q = false) ⟨rfl, ⟨_, rfl⟩, rfl⟩ ?_ ?_)
  · exact get_own fr2 B.K I (pg_ua w) (hd_E w) (fi_ua w) (by rfl) hl1 (by rfl) (q _ (keeps_tok _ _))
  · rintro It i v g₁ hid₁ vs₁ oi s₃ P hP hPr hi hv hg1 ⟨rfl, ⟨tu, hu⟩, hap⟩ hne F3
    obtain ⟨a, ta, hya, rfl⟩ := strs_get hsA (by simpa using hv)
    have hmem : a ∈ ags := List.mem_of_getElem? hya
    have hstep : apB (ags.take (i + 1)) q = (apB (ags.take i) q || (a != strT "*" && hasIn (Txt.lower q) (Txt.lower a))) := by
      unfold apB; rw [List.take_add_one, hya]; simp
    refine stm (wpAny_If (wpAny_isTrue_Compare1 (F3.ld (by rfl) (wpAny_Constant_str (ne_strB (wpAny_truthy_bool ?_))))))
    refine ite_b (fun hst => ?_) (fun hst => ?_)
    rotate_left
    · refine wpAny_execs_nil (wpAny_execs_nil ?_)
      refine hP g₁ [] (_ :: vs₁) _ (Le.refl _) ⟨rfl, ⟨tu, by exact hu⟩, ?_⟩ (fun p hp => by cases hp) F3.tok
      have e2 : (a != strT "*") = false := hst
      rw [hstep, hap, e2]
      simp
    · refine stm (wpAny_Assign_Name (MethodCall_ (F3.tok.ld (by rfl) (GM.lower (callWith_method0 (SCL.lower (Nat.le_trans (hag a hmem) (by decide)) fun _ => ?_))))))
      refine F3.tok.st fun s₄ F4 => ?_
      refine stm (wpAny_If (wpAny_isTrue_Compare1 (F4.ld (by rfl) (F4.ld (by exact hu) (in_hasIn (wpAny_truthy_bool ?_))))))
      refine ite_b (fun hin => ?_) (fun hin => ?_)
      rotate_left
      · refine wpAny_execs_nil (wpAny_execs_nil (wpAny_execs_nil ?_))
        refine hP g₁ [] (_ :: _ :: vs₁) _ (Le.refl _) ⟨rfl, ⟨tu, by exact hu⟩, ?_⟩ (fun p hp => by cases hp) F4
        rw [hstep, hap, hin]; simp
      · refine stm (wpAny_Return_some (wpAny_Constant_bool ?_))
        have hall : apB ags q = true := by
          have h1 : apB (ags.take (i + 1)) q = true := by
            rw [hstep, show (a != strT "*") = true from hst, hin]; simp
          unfold apB at h1 ⊢
          obtain ⟨z, hz, hz'⟩ := List.any_eq_true.mp h1
          exact List.any_eq_true.mpr ⟨z, List.mem_of_mem_take hz, hz'⟩
        exact hPr _ _ (hq _ _ (hall ▸ hQ _ F4.outer))
  · rintro g₁ hid₁ vs₁ s₃ hg1 ⟨rfl, _, hap⟩ F3
    refine stm (wpAny_Return_some (wpAny_Constant_bool ?_))
    have : (ags.take vsA.toArray.size) = ags := by rw [List.take_of_length_le]; simp [strs_len hsA]
    rw [this] at hap
    exact hq _ _ (hap ▸ hQ _ F3.outer)
end Mine

-- part: Comp
set_option maxHeartbeats 4000000
namespace Mine
open PySem PySem.W PyProof.Rows

theorem paired_filter {α : Type} {rel : α → Value → Prop} {pr : α → Bool} {pv : Value → Bool} {xs : List α} {vs : List Value} (h : Paired rel xs vs) (hp : ∀ a ∈ xs, ∀ v, rel a v → pv v = pr a) : Paired rel (xs.filter pr) (vs.filter pv) := by
  induction h with
  | nil => exact .nil
  | @cons a v xs vs h t ih =>
    have e := hp a List.mem_cons_self v h
    have ih := ih fun b hb => hp b (List.mem_cons_of_mem _ hb)
    rw [List.filter_cons, List.filter_cons, e]
    cases pr a with
    | true => exact .cons h ih
    | false => exact ih
theorem paired_of_get {α : Type} {rel : α → Value → Prop} {xs : List α} : ∀ {vs : List Value}, vs.length = xs.length → (∀ (i : Nat) (v : Value), vs[i]? = some v → ∃ a, xs[i]? = some a ∧ rel a v) → Paired rel xs vs := by
  induction xs with
  | nil => intro vs h _; cases vs with | nil => exact .nil | cons v vs => cases h
  | cons a xs ih =>
    intro vs h hg
    cases vs with
    | nil => cases h
    | cons v vs =>
      obtain ⟨b, hb, hr⟩ := hg 0 v rfl
      cases hb
      exact .cons hr (ih (Nat.succ.inj h) fun i v hv => by simpa using hg (i + 1) v (by simpa using hv))
theorem paired_through {α : Type} {rel : α → Value → Prop} {Fe : α → Value → Prop} {xs : List α} {vs : List Value} (h : Paired rel xs vs) : ∀ {ys : List Value}, Paired (fun v y => ∀ a, rel a v → Fe a y) vs ys → Paired Fe xs ys := by
  induction h with
  | nil => intro ys h; cases h; exact .nil
  | cons h _ ih => intro ys h'; cases h' with | cons h' t' => exact .cons (h' _ h) (ih t')

/-- a source of values: what the iterator at hand will give -/
inductive Src {α : Type} (prog : Program) (w : World) (A : Around) (xs : List α) (rel : α → Value → Prop) (s s₂ : Shared) (it : Value) : Prop
  | mk (I : Addr) (fp : List Addr) (n : Nat) (P : Nat → Value → Prop) (St : Nat → Heap → Prop) (_ : it = .ref I) (_ : Walks prog w A I fp [I] n P St) (_ : n ≤ sizeLine) (_ : St 0 s₂.heap) (_ : ∀ b ∈ fp, b < s₂.heap.objs.size)
    (_ : n = xs.length) (_ : ∀ (i : Nat) (v : Value), P i v → ∃ a, xs[i]? = some a ∧ rel a v) (_ : Keeps s s₂) (_ : s.heap.get? I = none) (_ : ∀ i h, St i h → ∃ o, h.get? I = some o)

variable {prog : Program} {w : World} {A : Around} {E : Value → Shared → Prop}

theorem le_of_but {h h₂ h₃ : Heap} {I : Addr} (k : Le h h₂) (hI : h.get? I = none) (hk : ∀ b o, b ∉ [I] → h₂.get? b = some o → h₃.get? b = some o) : Le h h₃ := fun b o e =>
  hk b o (by simp only [List.mem_singleton]; rintro rfl; rw [hI] at e; cases e) (k b o e)
theorem keeps_of_but {s s₂ : Shared} {I : Addr} {h' : Heap} {tk : Nat} (k : Keeps s s₂) (hI : s.heap.get? I = none) (hk : ∀ b o, b ∉ [I] → s₂.heap.get? b = some o → h'.get? b = some o) : Keeps s { s₂ with heap := h', toks := tk } := by
  obtain ⟨h₂, t₂, rfl, k⟩ := k
  exact ⟨h', tk, rfl, le_of_but k hI hk⟩
theorem none_of_keeps {s s₂ : Shared} {D : Addr} (k : Keeps s s₂) (h : s₂.heap.get? D = none) : s.heap.get? D = none := by
  cases e : s.heap.get? D with
  | none => rfl
  | some o => rw [keeps_le k _ _ e] at h; cases h

abbrev Tests (prog : Program) (w : World) (A : Around) (ifs : List Expr) (env : Env) (Q : Bool → Shared → Prop) (E : Value → Shared → Prop) (s : Shared) : Prop :=
  wpAny (model prog w) A (forIn ifs true fun c r => if r = true then do let ok ← isTrue c env (eval c env); pure (ForInStep.yield ok) else pure (ForInStep.yield r)) Q E s

theorem pairedAppendInv {α β : Type} {F : α → β → Prop} {l : List β} {v : β} : ∀ {xs : List α}, Paired F xs (l ++ [v]) → ∃ xs' a, xs = xs' ++ [a] ∧ Paired F xs' l ∧ F a v := by
  induction l with
  | nil => intro xs h; cases h with | @cons a _ _ _ h t => cases t; exact ⟨[], a, rfl, .nil, h⟩
  | cons b l ih =>
    intro xs h
    cases h with
    | @cons a _ _ _ h t =>
      obtain ⟨xs', a', rfl, p, f⟩ := ih t
      exact ⟨a :: xs', a', rfl, .cons h p, f⟩

theorem stored_tied {α : Type} {rel : α → Value → Prop} {FK : Value → Str → Prop} {FVl : Value → Value → Prop} {fk : α → Str} {fv : α → Int}
    (hk : ∀ a v k, rel a v → FK v k → k = fk a) (hv : ∀ a v y, rel a v → FVl v y → ∃ t, y = .int (fv a) t) {l : List Value} {kvs : List (Str × Value)} (h : StoredAll FK FVl l kvs) :
    ∀ {xs : List α}, Paired rel xs l → Tied kvs (xs.foldl (fun acc a => putC acc (fk a) (fv a)) []) := by
  induction h with
  | nil => intro xs hp; cases hp; exact .nil
  | @snoc l kvs v k y _ hk' hv' ih =>
    intro xs hp
    obtain ⟨xs', a, rfl, p, r⟩ := pairedAppendInv hp
    rw [List.foldl_append]
    obtain ⟨t, rfl⟩ := hv a v y r hv'
    rw [hk a v k r hk']
    exact (ih p).put (fk a) (fv a) t

noncomputable def foldC {α : Type} (fk : α → Str) (fv : α → Int) (xs : List α) : List (Str × Int) := xs.foldl (fun acc a => putC acc (fk a) (fv a)) []

open Classical in
theorem dc_gen {α : Type} {s : Shared} {env : Env} {kx vx iter : Expr} {x : Str} {px : Pos} {ifs : List Expr} {scope : Scope} {cl : List (Str × Addr)} {pos : Pos} {Q : Value → Shared → Prop} (B : Bs w s.heap)
    (xs : List α) (rel : α → Value → Prop) (pr : α → Bool) (fk : α → Str) (fv : α → Int) (hrel : ∀ a ∈ xs, ∀ b ∈ xs, ∀ v, rel a v → rel b v → a = b)
    (hclos : closureFor scope env = pure cl)
    (h : wpAny (model prog w) A (eval iter env) (fun xv s₁ => wpAny (model prog w) A (pyIter xv) (fun it s₂ => Src prog w A xs rel s s₂ it) E s₁) E s)
    (tests : ∀ a ∈ xs, ∀ C v s₃ m₃ E', rel a v → Le s.heap s₃.heap → s₃.heap.Ns C m₃ → m₃ x = some v → Tests prog w A ifs (compEnvC scope cl C env) (fun ok s₄ => ok = pr a ∧ Keeps s₃ s₄) E' s₃)
    (keys : ∀ a ∈ xs, pr a = true → ∀ C v s₃ m₃ E', rel a v → Le s.heap s₃.heap → s₃.heap.Ns C m₃ → m₃ x = some v → wpAny (model prog w) A (eval kx (compEnvC scope cl C env)) (fun y s₄ => (∃ t, y = .str (fk a) t) ∧ Keeps s₃ s₄) E' s₃)
    (vals : ∀ a ∈ xs, pr a = true → ∀ C v s₃ m₃ E', rel a v → Le s.heap s₃.heap → s₃.heap.Ns C m₃ → m₃ x = some v → wpAny (model prog w) A (eval vx (compEnvC scope cl C env)) (fun y s₄ => (∃ t, y = .int (fv a) t) ∧ Keeps s₃ s₄) E' s₃)
    (hQ : ∀ D s', Keeps s s' → s.heap.get? D = none → ID prog w s'.heap D (foldC fk fv (xs.filter pr)) → Q (.ref D) s')
    (hcell : (scope.names.all fun y => y.2 != .cell) = true := by rfl) (hkind : scope.kind = .function := by rfl)
    (hnames : (scope.names.all fun y => y.2 != .local || scope.names.lookup y.1 == some .local) = true := by rfl) (hx : scope.names.lookup x = some .local := by rfl)
    (hs : ∀ x, foldedSetIterable iter env x = pure x := by intro _; rfl) :
    wpAny (model prog w) A (eval (.DictComp kx vx [⟨.Name x px, iter, ifs, 0⟩] scope pos) env) Q E s := by
  refine wpAny_DictComp_free (cl := cl) (strKind prog w) (fun v => decide (∃ a ∈ xs, rel a v ∧ pr a = true)) (fun v k => ∀ a ∈ xs, rel a v → k = fk a) (fun v y => ∀ a ∈ xs, rel a v → ∃ t, y = .int (fv a) t) hclos
    (fun y hy => by have := List.all_eq_true.mp hcell y hy; simpa using this) hkind (fun y hy e => by have := List.all_eq_true.mp hnames y hy; simpa [e] using this) hx
    (wpAny_mono h (fun xv s₁ h₁ => wpAny_mono h₁ (fun it s₂ S => ?_) fun _ _ e => e) fun _ _ e => e) hs
  obtain ⟨I, fp, n, P, St, rfl, W, hn, hst, hfp, hnl, hP, k, hI, _⟩ := S
  have pe : ∀ a ∈ xs, ∀ v, rel a v → decide (∃ a ∈ xs, rel a v ∧ pr a = true) = pr a := fun a ha v hr => by
    cases hp : pr a with
    | true => exact decide_eq_true ⟨a, ha, hr, hp⟩
    | false =>
      refine decide_eq_false ?_
      rintro ⟨b, hb, hr', hp'⟩
      rw [hrel a ha b hb v hr hr'] at hp; rw [hp] at hp'; cases hp'
  refine ⟨I, fp, [I], n, P, St, rfl, W, hn, hst, hfp, ⟨?_, ?_, ?_⟩, ?_⟩
  · intro C i v s₃ m₃ E' hPv hns hm hk
    obtain ⟨a, ha, hr⟩ := hP i v hPv
    have ham := List.mem_of_getElem? ha
    rw [pe a ham v hr]
    exact tests a ham C v s₃ m₃ E' hr (le_of_but (keeps_le k) hI hk) hns hm
  · intro C i v s₃ m₃ E' hPv hpv hns hm hk
    obtain ⟨a, ha, hr⟩ := hP i v hPv
    have ham := List.mem_of_getElem? ha
    rw [pe a ham v hr] at hpv
    refine wpAny_mono (keys a ham hpv C v s₃ m₃ E' hr (le_of_but (keeps_le k) hI hk) hns hm) (fun y s₄ hy => ?_) fun _ _ e => e
    obtain ⟨⟨t, rfl⟩, k4⟩ := hy
    exact ⟨⟨fk a, strKind_is _ _ _ _, fun b hb hr' => by rw [hrel b hb a ham v hr' hr]⟩, k4⟩
  · intro C i v s₃ m₃ E' hPv hpv hns hm hk
    obtain ⟨a, ha, hr⟩ := hP i v hPv
    have ham := List.mem_of_getElem? ha
    rw [pe a ham v hr] at hpv
    refine wpAny_mono (vals a ham hpv C v s₃ m₃ E' hr (le_of_but (keeps_le k) hI hk) hns hm) (fun y s₄ hy => ⟨fun b hb hr' => ?_, hy.2⟩) fun _ _ e => e
    rw [hrel b hb a ham v hr' hr]; exact hy.1
  · intro D h' tk kvs vs hD hl hlen hPv hst' hk
    refine hQ D _ (keeps_of_but k hI hk) (none_of_keeps k hD) ⟨B.notMods (none_of_keeps k hD), kvs, hl, ?_⟩
    have hp1 : Paired (fun a v => a ∈ xs ∧ rel a v) xs vs := paired_of_get (by rw [hlen, hnl]) fun i v hv => by
      obtain ⟨a, ha, hr⟩ := hP i v (hPv i v hv)
      exact ⟨a, ha, List.mem_of_getElem? ha, hr⟩
    have hp2 := paired_filter (pr := pr) (pv := fun v => decide (∃ a ∈ xs, rel a v ∧ pr a = true)) hp1 fun a ha v hr => pe a ha v hr.2
    exact stored_tied (rel := fun a v => a ∈ xs ∧ rel a v) (fun a v k r hk => hk a r.1 r.2) (fun a v y r hy => hy a r.1 r.2) hst' hp2

theorem paired_get {α : Type} {rel : α → Value → Prop} {xs : List α} {vs : List Value} (h : Paired rel xs vs) : ∀ {i : Nat} {v : Value}, vs[i]? = some v → ∃ a, xs[i]? = some a ∧ rel a v := by
  induction h with
  | nil => intro i v h; cases h
  | @cons a b xs vs h t ih =>
    intro i v e
    cases i with
    | zero => cases e; exact ⟨a, rfl, h⟩
    | succ i => rw [List.getElem?_cons_succ] at e ⊢; exact ih e
/-- the sources -/
theorem src_dict {s s₁ : Shared} {d : Addr} {kvs : List (Str × Value)} {E : Value → Shared → Prop} (hh : A.handled = none) (k : Keeps s s₁) (hd : s₁.heap.DictOf (strKind prog w) d kvs) (hds : (d == sysModules) = false) (hn : kvs.length ≤ sizeLine) :
    wpAny (model prog w) A (pyIter (.ref d)) (fun it s₂ => Src prog w A (kvs.map (·.1)) (fun k v => ∃ t, v = .str k t) s s₂ it) E s₁ := by
  obtain ⟨ep, hda⟩ := hd.dictAt
  refine wpAny_pyIter_dict hds hda ?_
  generalize hI : s₁.heap.objs.size = I
  have hIn : s₁.heap.get? I = none := hI ▸ get_size _
  have hdI : d ≠ I := Nat.ne_of_lt (hI ▸ hda.lt_size)
  refine ⟨I, [I, d], kvs.length, _, _, rfl, Walks.dictKeys hh I d hdI kvs ep, hn, ⟨⟨_, by rw [← hI]; exact Heap.get?_push_size _ rfl, rfl, rfl⟩, hda.push _⟩, fun b hb => ?_, by simp, ?_, keeps_trans k (keeps_mk _ (Le.push _ _)), none_of_keeps k hIn, fun _ _ ⟨⟨o, ho, _⟩, _⟩ => ⟨o, ho⟩⟩
  · simp only [List.mem_cons, List.not_mem_nil, or_false] at hb
    show b < (s₁.heap.push _).objs.size
    rw [Heap.size_push]
    rcases hb with rfl | rfl
    · rw [← hI]; exact Nat.lt_succ_self _
    · exact Nat.lt_succ_of_lt hda.lt_size
  · rintro i v ⟨q, x, hx, hq⟩
    obtain ⟨t, rfl⟩ := Value.isStrOf_shape hq
    exact ⟨q, by simp [hx], t, rfl⟩
theorem src_id {s s₁ : Shared} {d : Addr} {c : List (Str × Int)} {E : Value → Shared → Prop} (hh : A.handled = none) (k : Keeps s s₁) (hd : ID prog w s₁.heap d c) (hn : c.length ≤ sizeLine) :
    wpAny (model prog w) A (pyIter (.ref d)) (fun it s₂ => Src prog w A (c.map (·.1)) (fun k v => ∃ t, v = .str k t) s s₂ it) E s₁ := by
  obtain ⟨hs, kvs, hd, ht⟩ := hd
  rw [← ht.keys]
  exact src_dict hh k hd hs (by rw [ht.length]; exact hn)
theorem src_list {α : Type} {s s₁ : Shared} {l : Addr} {items : Array Value} {xs : List α} {rel : α → Value → Prop} {E : Value → Shared → Prop} (hh : A.handled = none) (k : Keeps s s₁) (hl : s₁.heap.IsList l items) (hp : Paired rel xs items.toList) (hn : items.size ≤ sizeLine) :
    wpAny (model prog w) A (pyIter (.ref l)) (fun it s₂ => Src prog w A xs rel s s₂ it) E s₁ := by
  refine wpAny_pyIter_list hl ?_
  generalize hI : s₁.heap.objs.size = I
  have hIn : s₁.heap.get? I = none := hI ▸ get_size _
  obtain ⟨ol, hol, _⟩ := id hl
  have hdI : l ≠ I := Nat.ne_of_lt (hI ▸ Heap.lt_size hol)
  refine ⟨I, [I, l], items.size, _, _, rfl, Walks.list hh I l hdI items, hn, ⟨⟨_, by rw [← hI]; exact Heap.get?_push_size _ rfl, rfl, rfl⟩, hl.at fun o e => Heap.get?_push_of_some _ e⟩, fun b hb => ?_, by rw [hp.length]; simp, ?_, keeps_trans k (keeps_mk _ (Le.push _ _)), none_of_keeps k hIn, fun _ _ ⟨⟨o, ho, _⟩, _⟩ => ⟨o, ho⟩⟩
  · simp only [List.mem_cons, List.not_mem_nil, or_false] at hb
    show b < (s₁.heap.push _).objs.size
    rw [Heap.size_push]
    rcases hb with rfl | rfl
    · rw [← hI]; exact Nat.lt_succ_self _
    · exact Nat.lt_succ_of_lt (Heap.lt_size hol)
  · intro i v hv
    exact paired_get hp (by simpa using hv)
end Mine

-- part: Comp2
set_option maxHeartbeats 4000000
namespace Mine
open PySem PySem.W PyProof.Rows
variable {prog : Program} {w : World} {A : Around} {E : Value → Shared → Prop}

theorem src_range {s s₁ : Shared} {r : Addr} {n : Nat} {t u v : Tok} {E : Value → Shared → Prop} (hh : A.handled = none) (k : Keeps s s₁) (hr : IsRange s₁.heap r 0 (n : Int) 1 t u v) (hn : n ≤ 1000) :
    wpAny (model prog w) A (pyIter (.ref r)) (fun it s₂ => Src prog w A (List.range n) (fun (i : Nat) v => ∃ t, v = .int (i : Int) t) s s₂ it) E s₁ := by
  have hsz : Builtin.Range.rangeSize 0 (n : Int) 1 = (n : Int) := by unfold Builtin.Range.rangeSize; simp; omega
  have hsm : Builtin.Range.small 0 (n : Int) 1 = true := small_one (by decide) (by decide) (by omega) (by omega)
  refine wpAny_pyIter_range hr hsm ?_
  generalize hI : s₁.heap.objs.size = I
  have hIn : s₁.heap.get? I = none := hI ▸ get_size _
  refine ⟨I, [I], n, _, _, rfl, (Walks.range hh I 0 1 n).bound, by rw [sizeLine_eq]; omega, ?_, fun b hb => ?_, by simp, ?_, keeps_trans k (keeps_mk _ (Le.push _ _)), none_of_keeps k hIn, fun _ _ ho => ⟨_, ho⟩⟩
  · show IsRangeIter _ _ _ _ _
    rw [hsz]; simpa [← hI] using Heap.get?_push_size _ rfl
  · rw [List.mem_singleton.mp hb]
    show I < (s₁.heap.push _).objs.size
    rw [Heap.size_push, ← hI]; exact Nat.lt_succ_self _
  · rintro i v ⟨hi, t, rfl⟩
    exact ⟨i, by simp [hi], t, by simp⟩

theorem it_range {s : Shared} {env : Env} {e : Expr} {rp rpos : Pos} {n : Nat} (B : Bs w s.heap) (hh : A.handled = none) (hn : n ≤ 1000)
    (he : ∀ Q' : Value → Shared → Prop, (∀ s₁ t, Keeps s s₁ → Q' (.int (n : Int) t) s₁) → wpAny (model prog w) A (eval e env) Q' E s)
    (hg : env.globals = mainGlobals := by rfl) (hb : env.builtins = builtinsNs := by rfl) (hk : env.scope.kind = .function := by rfl) (hx : env.kindOf (Str.ofString "range") = some .globalImplicit := by rfl)
    (hse : starEach [e] env = (false, eval e env) :: starEach [] env := by rfl) :
    wpAny (model prog w) A (eval (.Call (.Name (Str.ofString "range") rp) [e] [] rpos) env) (fun xv s₁ => wpAny (model prog w) A (pyIter xv) (fun it s₂ => Src prog w A (List.range n) (fun (i : Nat) v => ∃ t, v = .int (i : Int) t) s s₂ it) E s₁) E s := by
  refine wpAny_Call_NameR (B.ldB (v := .type "range") (by rfl) (by rfl) (by decide) ?_ hg hb hk hx)
  refine PyProof.Rows.callWith_type1 (args_cons (he _ fun s₁ t k => args_nil ?_) hse) hse
  exact call_range_1 (src_range hh (keeps_trans k (keeps_mk _ (Le.push _ _))) (IsRange.new ..) hn)

theorem ns_eq {h : Heap} {a : Addr} {m m' : Str → Option Value} (x : h.Ns a m) (y : h.Ns a m') : m = m' := by
  obtain ⟨o, es, ep, ho, hd, _, hm⟩ := x
  obtain ⟨o', es', ep', ho', hd', _, hm'⟩ := y
  rw [ho] at ho'; cases ho'
  rw [hd] at hd'; cases hd'
  funext k; rw [← hm, ← hm']

/-- what a comprehension's frame reads -/
inductive Cap (env : Env) (vs : List (Str × Value)) (cl : List (Str × Addr)) (scope : Scope) : List (Str × Value) → Prop
  | nil : Cap env vs cl scope []
  | cons {y : Str} {v : Value} {r : List (Str × Value)} : vs.lookup y = some v → cl.lookup y = env.cells.lookup y → (env.kindOf y == some .cell || env.kindOf y == some .free) = true → ((relabel scope env).names.lookup y == some .local) = false →
      Cap env vs cl scope r → Cap env vs cl scope ((y, v) :: r)

theorem cap_look {env : Env} {vs cap : List (Str × Value)} {cl : List (Str × Addr)} {scope : Scope} (c : Cap env vs cl scope cap) {y : Str} {v : Value} (h : cap.lookup y = some v) :
    vs.lookup y = some v ∧ cl.lookup y = env.cells.lookup y ∧ (env.kindOf y = some .cell ∨ env.kindOf y = some .free) ∧ (relabel scope env).names.lookup y ≠ some .local := by
  induction c with
  | nil => cases h
  | @cons z u r h1 h2 h3 h4 _ ih =>
    rw [List.lookup_cons] at h
    cases hb : y == z with
    | true =>
      have : y = z := by simpa using hb
      subst this
      rw [hb] at h; cases h
      exact ⟨h1, h2, by simpa using h3, by simpa using h4⟩
    | false => rw [hb] at h; exact ih h

theorem rd_comp {env : Env} {vs cap : List (Str × Value)} {cl : List (Str × Addr)} {scope : Scope} {h h₃ : Heap} {C : Addr} {m₃ : Str → Option Value} {x : Str} {v : Value}
    (R : Rd env vs h) (c : Cap env vs cl scope cap) (k : Le h h₃) (hn : h₃.Ns C m₃) (hm : m₃ x = some v) (hx : scope.names.lookup x = some .local := by rfl) : Rd (compEnvC scope cl C env) ((x, v) :: cap) h₃ := by
  refine ⟨⟨m₃, hn, fun y u e hl => ?_⟩, fun y u cc e hl hc => ?_⟩
  · rw [List.lookup_cons] at e
    cases hb : y == x with
    | true => rw [hb] at e; cases e; have : y = x := by simpa using hb
              rw [this]; exact hm
    | false => rw [hb] at e; exact absurd hl (cap_look c e).2.2.2
  · rw [List.lookup_cons] at e
    cases hb : y == x with
    | true =>
      have : y = x := by simpa using hb
      subst this
      have hl' : (compEnvC scope cl C env).kindOf y = some .local := lookup_relabel_local hx
      rw [hl'] at hl
      rcases hl with hl | hl <;> cases hl
    | false =>
      rw [hb] at e
      obtain ⟨h1, h2, h3, _⟩ := cap_look c e
      exact (R.cell y u cc h1 h3 (by rw [← h2]; exact hc)).keeps k
end Mine

-- part: FLcG
set_option maxHeartbeats 1000000
namespace Mine
open PySem PySem.W PyProof.Rows
variable {prog : Program} {w : World} {A : Around} {E : Value → Shared → Prop}

/-- what is new between two heaps is in g -/
noncomputable def Fresh (h h' g : Heap) : Prop := ∀ b o, h.get? b = none → h'.get? b = some o → g.get? b = some o

/-- a comprehension's frame, its one variable x -/
structure FrameC (prog : Program) (w : World) (cenv : Env) (x : Str) (out : List Addr) (Has : Option Value → Heap → Prop) : Prop where
  store : ∀ {A : Around} {E : Value → Shared → Prop} {s : Shared} {v : Value} {Q : Unit → Shared → Prop} (ov : Option Value), Has ov s.heap →
    (∀ h' t, Has (some v) h' → (∀ b o, b ∉ out → s.heap.get? b = some o → h'.get? b = some o) → Q () { s with heap := h', toks := t }) → wpAny (model prog w) A (storeName cenv x v) Q E s
  frame : ∀ ov h h', Has ov h → (∀ b ∈ out, ∀ o, h.get? b = some o → h'.get? b = some o) → Has ov h'
  ns : ∀ ov h, Has ov h → ∃ m, h.Ns cenv.locals m
  loc : cenv.locals ∈ out
  alive : ∀ ov h, Has ov h → ∀ b ∈ out, ∃ o, h.get? b = some o

theorem paired_mem {α β : Type} {F : α → β → Prop} {xs : List α} {ys : List β} {a : α} {y : β} (h : Paired F xs ys) (h' : F a y) : Paired F (xs ++ [a]) (ys ++ [y]) := by
  induction h with
  | nil => exact .cons h' .nil
  | cons h _ ih => exact .cons h ih

inductive LInv {α : Type} (s : Shared) (s0 : Heap) (out : List Addr) (I D : Addr) (n : Nat) (St : Nat → Heap → Prop) (Has : Option Value → Heap → Prop) (xs : List α) (pr : α → Bool) (Fe : Heap → α → Value → Prop) (k : Nat) (s' : Shared) : Prop
  | mk (i : Nat) (acc : Array Value) (ov : Option Value) (h' : Heap) (t' : Nat) (e : s' = { s with heap := h', toks := t' }) (st : St i h') (l : PlainL h' D acc) (hh : Has ov h') (le : Le s0 h')
    (fe : ∀ g : Heap, (∀ b o, s0.get? b = none → b ≠ D → b ≠ I → b ∉ out → h'.get? b = some o → g.get? b = some o) → Paired (Fe g) ((xs.take i).filter pr) acc.toList) (sz : acc.size ≤ i) (hi : i ≤ n) (hk : k = n + 1 - i)

theorem loopR {α : Type} {elt iter : Expr} {x : Str} {px : Pos} {ifs : List Expr} {scope : Scope} {pos : Pos} {R : Result → Shared → Prop} {cenv : Env} {out : List Addr} {Has : Option Value → Heap → Prop} {I D : Addr} {fp : List Addr} {n : Nat} {P : Nat → Value → Prop} {St : Nat → Heap → Prop} {s : Shared} {s0 : Heap}
    (xs : List α) (rel : α → Value → Prop) (pr : α → Bool) (Fe : Heap → α → Value → Prop)
    (X : FrameC prog w cenv x out Has) (W : Walks prog w A I fp [I] n P St) (hlive : ∀ i h, St i h → ∃ o, h.get? I = some o) (hn : n ≤ sizeLine) (hnx : n = xs.length) (hP : ∀ i v, P i v → ∃ a, xs[i]? = some a ∧ rel a v)
    (hDo : D ∉ out) (hDf : D ∉ fp) (hof : ∀ b ∈ out, b ∉ fp)
    (hst : St 0 s.heap) (hD : PlainL s.heap D #[]) (hh : Has none s.heap) (h0 : Le s0 s.heap) (hs0 : ∀ b o, s0.get? b = some o → b ∉ out ∧ b ≠ D ∧ b ≠ I)
    (tests : ∀ a ∈ xs, ∀ v s₃ E', rel a v → Le s0 s₃.heap → Has (some v) s₃.heap → Tests prog w A ifs cenv (fun ok s₄ => ok = pr a ∧ Keeps s₃ s₄) E' s₃)
    (elts : ∀ a ∈ xs, pr a = true → ∀ v s₃ E', rel a v → Le s0 s₃.heap → Has (some v) s₃.heap → wpAny (model prog w) A (eval elt cenv) (fun y s₄ => Keeps s₃ s₄ ∧ ∀ g, Fresh s₃.heap s₄.heap g → Fe g a y) E' s₃)
    (hfin : ∀ h' t' ys ov, Le s0 h' → PlainL h' D ys → Has ov h' → (∀ g, (∀ b o, s0.get? b = none → b ∉ out → h'.get? b = some o → g.get? b = some o) → Paired (Fe g) (xs.filter pr) ys.toList) → R (.ok .next) { s with heap := h', toks := t' }) :
    codeAny (model prog w) A (.compLoop (.ListComp elt [⟨.Name x px, iter, ifs, 0⟩] scope pos) 0 (.ref I) (.ref D) cenv) R s := by
  let New : Heap → Heap → Prop := fun h g => ∀ b o, s0.get? b = none → b ≠ D → b ≠ I → b ∉ out → h.get? b = some o → g.get? b = some o
  have newLe : ∀ {h h' g : Heap}, (∀ b o, b ≠ D → b ≠ I → b ∉ out → h.get? b = some o → h'.get? b = some o) → New h' g → New h g := fun k N b o a b' c d e => N b o a b' c d (k b o b' c d e)
  have hIf : I ∈ fp := W.sub _ (List.mem_singleton_self _)
  have hDI : D ≠ I := fun e => hDf (e ▸ hIf)
  have hIo : I ∉ out := fun e => hof _ e hIf
  refine codeAny_compLoop_tests (LInv s s0 out I D n St Has xs pr Fe) ?_ (n + 1)
    ⟨0, #[], none, s.heap, s.toks, rfl, hst, hD, hh, h0, fun g _ => by rw [List.take_zero]; exact .nil, Nat.le_refl _, Nat.zero_le _, rfl⟩
  rintro k s' ⟨i, acc, ov, h', t', rfl, hSt, hD', hH, hLe, hFe, hsz, hi, rfl⟩
  by_cases hlt : i < n
  · refine W.item i _ _ _ hlt hSt fun v h₁ t₁ hPv hSt₁ hk₁ => ?_
    obtain ⟨a, ha, hr⟩ := hP i v hPv
    have ham := List.mem_of_getElem? ha
    have hk₁' : ∀ b o, b ≠ I → h'.get? b = some o → h₁.get? b = some o := fun b o hb e => hk₁ b o (by simpa using hb) e
    have hH₁ : Has ov h₁ := X.frame _ _ _ hH fun b hb o e => hk₁' b o (fun q => hIo (q ▸ hb)) e
    have hD₁ : PlainL h₁ D acc := plain_mv hD' fun o e => hk₁' _ _ hDI e
    refine wpAny_assign_Name (X.store (s := { s with heap := h₁, toks := t₁ }) ov hH₁ fun h₂ t₂ hH₂ hk₂ => ?_)
    have hD₂ : PlainL h₂ D acc := plain_mv hD₁ fun o e => hk₂ _ _ hDo e
    have hSt₂ : St (i + 1) h₂ := W.frame _ _ _ hSt₁ fun b hb o e => hk₂ b o (fun q => hof b q hb) e
    have hLe₂ : Le s0 h₂ := fun b o e => hk₂ b o (hs0 b o e).1 (hk₁' b o (hs0 b o e).2.2 (hLe b o e))
    have up₂ : ∀ b o, b ≠ D → b ≠ I → b ∉ out → h'.get? b = some o → h₂.get? b = some o := fun b o _ hb ho e => hk₂ b o ho (hk₁' b o hb e)
    refine wpAny_mono (tests a ham v _ _ hr hLe₂ hH₂) (fun ok s₃ h₃ => ?_) fun _ _ e => e
    obtain ⟨rfl, h₃, t₃, rfl, k₃⟩ := h₃
    have hH₃ : Has (some v) h₃ := X.frame _ _ _ hH₂ fun b _ o e => k₃ b o e
    have hD₃ : PlainL h₃ D acc := plain_mv hD₂ fun o e => k₃ _ _ e
    have hSt₃ : St (i + 1) h₃ := W.frame _ _ _ hSt₂ fun b _ o e => k₃ b o e
    have hLe₃ : Le s0 h₃ := hLe₂.trans k₃
    have up₃ : ∀ b o, b ≠ D → b ≠ I → b ∉ out → h'.get? b = some o → h₃.get? b = some o := fun b o x y z e => k₃ b o (up₂ b o x y z e)
    have htk : xs.take (i + 1) = xs.take i ++ [a] := by rw [List.take_add_one, ha]; rfl
    cases hpa : pr a with
    | false =>
      simp only [Bool.false_eq_true, if_false]
      refine ⟨n + 1 - (i + 1), sub_dec hlt, i + 1, acc, some v, h₃, t₃, rfl, hSt₃, hD₃, hH₃, hLe₃, fun g N => ?_, Nat.le_succ_of_le hsz, hlt, rfl⟩
      rw [htk, List.filter_append]
      simpa [hpa] using hFe g (newLe up₃ N)
    | true =>
      simp only [if_true]
      refine wpAny_mono (elts a ham hpa v _ _ hr hLe₃ hH₃) (fun y s₄ h₄ => ?_) fun _ _ e => e
      obtain ⟨⟨h₄, t₄, rfl, k₄⟩, hy⟩ := h₄
      have hD₄ : PlainL h₄ D acc := plain_mv hD₃ fun o e => k₄ _ _ e
      refine list_append_plainL hD₄ (fun h₅ hD₅ hs₅ => ?_) (Nat.le_trans hsz (Nat.le_of_lt (Nat.lt_of_lt_of_le hlt hn)))
      have k₅ : ∀ b o, b ≠ D → h₄.get? b = some o → h₅.get? b = some o := fun b o hb e => hs₅.extBut b o hb e
      refine ⟨n + 1 - (i + 1), sub_dec hlt, i + 1, acc.push y, some v, h₅, _, rfl, ?_, hD₅, ?_, ?_, fun g N => ?_, by rw [Array.size_push]; exact Nat.succ_le_succ hsz, hlt, rfl⟩
      · exact W.frame _ _ _ hSt₃ fun b hb o e => k₅ b o (fun q => hDf (q ▸ hb)) (k₄ b o e)
      · exact X.frame _ _ _ hH₃ fun b hb o e => k₅ b o (fun q => hDo (q ▸ hb)) (k₄ b o e)
      · exact fun b o e => k₅ b o (hs0 b o e).2.1 (k₄ b o (hLe₃ b o e))
      · rw [htk, List.filter_append, Array.toList_push]
        have e1 : [a].filter pr = [a] := by simp [hpa]
        rw [e1]
        refine paired_mem (hFe g (newLe (fun b o x y z e => k₅ b o x (k₄ b o (up₃ b o x y z e))) N)) (hy g fun b o hn e => ?_)
        have nD : b ≠ D := by rintro rfl; obtain ⟨_, _, e', _⟩ := hD₃; rw [hn] at e'; cases e'
        have nI : b ≠ I := by rintro rfl; obtain ⟨_, e'⟩ := hlive _ _ hSt₃; rw [hn] at e'; cases e'
        have nO : b ∉ out := fun hb => by obtain ⟨_, e'⟩ := X.alive _ _ hH₃ b hb; rw [hn] at e'; cases e'
        have n0 : s0.get? b = none := by
          cases q : s0.get? b with
          | none => rfl
          | some o' => rw [hLe₃ b o' q] at hn; cases hn
        exact N b o n0 nD nI nO (k₅ b o nD e)
  · have hin : i = n := Nat.le_antisymm hi (Nat.not_lt.mp hlt)
    subst hin
    refine W.done _ _ _ hSt fun h₂ t₂ hk₂ => ?_
    have hk₂' : ∀ b o, b ≠ I → h'.get? b = some o → h₂.get? b = some o := fun b o hb e => hk₂ b o (by simpa using hb) e
    have hH₂ : Has ov h₂ := X.frame _ _ _ hH fun b hb o e => hk₂' b o (fun q => hIo (q ▸ hb)) e
    have hD₃ : PlainL h₂ D acc := plain_mv hD' fun o e => hk₂' _ _ hDI e
    refine hfin h₂ t₂ acc ov (fun b o e => hk₂' b o (hs0 b o e).2.2 (hLe b o e)) hD₃ hH₂ fun g N => ?_
    have := hFe g fun b o x1 x2 x3 x4 e => N b o x1 x4 (hk₂' b o x3 e)
    rwa [hnx, List.take_length] at this


theorem frame_local {cenv : Env} {x : Str} (hx : cenv.kindOf x = some .local) (hk : cenv.scope.kind = .function) :
    FrameC prog w cenv x [cenv.locals] (fun ov h => ∃ m, h.Ns cenv.locals m ∧ ∀ v, ov = some v → m x = some v) where
  store := fun ov hH h => by
    obtain ⟨m, hm, _⟩ := hH
    refine wpAny_storeName_local hx hm (fun h' hn' hs' => h h' _ ⟨_, hn', fun u e => by cases e; simp⟩ fun b o hb e => hs'.extBut b o (by simpa using hb) e) (by rw [hk]; rfl)
  frame := by rintro ov h h' ⟨m, hm, e⟩ k; exact ⟨m, hm.at fun o x => k _ (List.mem_singleton_self _) o x, e⟩
  ns := by rintro ov h ⟨m, hm, _⟩; exact ⟨m, hm⟩
  loc := List.mem_singleton_self _
  alive := by rintro ov h ⟨m, ⟨o, _, _, ho, _⟩, _⟩ b hb; rw [List.mem_singleton.mp hb]; exact ⟨o, ho⟩

theorem frame_cell {cenv : Env} {x : Str} {c : Addr} (hx : cenv.kindOf x = some .cell) (hk : cenv.scope.kind = .function) (hc : cenv.cells.lookup x = some c) (hne : c ≠ cenv.locals) :
    FrameC prog w cenv x [cenv.locals, c] (fun ov h => (∃ m, h.Ns cenv.locals m) ∧ h.IsCell c ov) where
  store := fun ov hH h => by
    obtain ⟨⟨m, hm⟩, hcell⟩ := hH
    refine wpAny_storeName_cell hk hx hc hcell fun h' hc' hs' => h h' _ ⟨⟨m, hm.sameBut hs' (Ne.symm hne)⟩, hc'⟩ fun b o hb e => hs'.extBut b o (by simp at hb; exact hb.2) e
  frame := by rintro ov h h' ⟨⟨m, hm⟩, ⟨o, ho, hd⟩⟩ k; exact ⟨⟨m, hm.at fun o x => k _ List.mem_cons_self o x⟩, ⟨o, k _ (List.mem_cons_of_mem _ List.mem_cons_self) _ ho, hd⟩⟩
  ns := fun ov h x => x.1
  loc := List.mem_cons_self
  alive := by
    rintro ov h ⟨⟨m, ⟨o, _, _, ho, _⟩⟩, ⟨o', ho', _⟩⟩ b hb
    simp only [List.mem_cons, List.not_mem_nil, or_false] at hb
    rcases hb with rfl | rfl
    · exact ⟨o, ho⟩
    · exact ⟨o', ho'⟩

theorem rd_compC {env : Env} {vs cap : List (Str × Value)} {cl : List (Str × Addr)} {scope : Scope} {h h₃ : Heap} {C c : Addr} {x : Str} {v : Value}
    (R : Rd env vs h) (hcap : Cap env vs cl scope cap) (k : Le h h₃) (hn : ∃ m, h₃.Ns C m) (hm : h₃.IsCell c (some v)) (hx : (compEnvC scope ((x, c) :: cl) C env).kindOf x = some .cell) : Rd (compEnvC scope ((x, c) :: cl) C env) ((x, v) :: cap) h₃ := by
  obtain ⟨m, hn⟩ := hn
  refine ⟨⟨m, hn, fun y u e hl => ?_⟩, fun y u cc e hl hc => ?_⟩
  · rw [List.lookup_cons] at e
    cases hb : y == x with
    | true =>
      have : y = x := by simpa using hb
      subst this
      rw [hx] at hl; cases hl
    | false => rw [hb] at e; exact absurd hl (cap_look hcap e).2.2.2
  · rw [List.lookup_cons] at e
    have hc : ((x, c) :: cl).lookup y = some cc := hc
    rw [List.lookup_cons] at hc
    cases hb : y == x with
    | true => rw [hb] at e hc; cases e; cases hc; exact hm
    | false =>
      rw [hb] at e hc
      obtain ⟨h1, h2, h3, _⟩ := cap_look hcap e
      exact (R.cell y u cc h1 h3 (by rw [← h2]; exact hc)).keeps k

/-- how a comprehension's frame is opened -/
noncomputable def Opens (prog : Program) (w : World) (env : Env) (scope : Scope) (cl : List (Str × Addr)) (x : Str) (G : Addr → List (Str × Addr) → (Option Value → Heap → Prop) → Prop) : Prop :=
  ∀ {A : Around} {E : Value → Shared → Prop} {s : Shared} {Q : Env → Shared → Prop}, (∀ C cl' out Has h₁ tk, G C cl' Has → FrameC prog w (compEnvC scope cl' C env) x out Has → Le s.heap h₁ → (∀ b ∈ out, s.heap.objs.size ≤ b) → Has none h₁ →
    Q (newEnv scope C env.globals cl' env.qual none Value.none (some env) builtinsNs) { s with heap := h₁, toks := tk }) → wpAny (model prog w) A (newFunctionEnv scope env.globals cl [] env.qual none .none (some env)) Q E s

noncomputable def GL1 (cl : List (Str × Addr)) (x : Str) (C : Addr) (cl' : List (Str × Addr)) (Has : Option Value → Heap → Prop) : Prop := cl' = cl ∧ ∀ v h, Has (some v) h → ∃ m, h.Ns C m ∧ m x = some v
noncomputable def GC1 (cl : List (Str × Addr)) (x : Str) (C : Addr) (cl' : List (Str × Addr)) (Has : Option Value → Heap → Prop) : Prop := ∃ c, cl' = (x, c) :: cl ∧ ∀ v h, Has (some v) h → (∃ m, h.Ns C m) ∧ h.IsCell c (some v)

theorem open_local {env : Env} {scope : Scope} {cl : List (Str × Addr)} {x : Str} (hcell : (scope.names.all fun y => y.2 != .cell) = true) (hkind : scope.kind = .function) (hx : scope.names.lookup x = some .local) :
    Opens prog w env scope cl x (GL1 cl x) := by
  intro A E s Q h
  refine wpAny_newFunctionEnv (fun y hy => by have := List.all_eq_true.mp hcell y hy; simpa using this) (by intro y hy; simp at hy) (fun h₁ hns₁ hsb₁ => ?_) hkind
  refine h s.heap.objs.size cl _ _ h₁ _ ?_ (frame_local (lookup_relabel_local hx) hkind) (fun b o e => hsb₁.extBut b o (Nat.ne_of_lt (Heap.lt_size e)) (Heap.get?_push_of_some _ e)) (fun b hb => by rw [List.mem_singleton.mp hb]; exact Nat.le_refl _) ⟨_, hns₁, fun v e => nomatch e⟩
  exact ⟨rfl, fun v h ⟨m, hm, e⟩ => ⟨m, hm, e v rfl⟩⟩

theorem open_cell {env : Env} {scope : Scope} {cl : List (Str × Addr)} {x : Str} (hcf : ∀ k acc, cellsFrom k scope.names acc = (x, k) :: acc) (hpc : ∀ h, pushCells h scope.names = h.push { cls := .type "cell", data := .cell none }) (hkind : scope.kind = .function)
    (hx : ∀ cl C, (compEnvC scope cl C env).kindOf x = some .cell) : Opens prog w env scope cl x (GC1 cl x) := by
  intro A E s Q h
  simp only [newFunctionEnv, Option.isSome_some, if_true]
  refine wpAny_bind (wpAny_alloc (wpAny_bind (wpAny_layCells _ (fun name kind cells => by cases hkc : kind == NameKind.cell <;> simp [hkc]) _ _ _ _ ?_)))
  rw [hcf, hpc]
  refine wpAny_bind (wpAny_pure (wpAny_pure ?_))
  have hc : (s.heap.push { cls := .type "dict", data := .dict #[] }).objs.size = s.heap.objs.size + 1 := by rw [Heap.size_push]
  have hnsC : (s.heap.push { cls := .type "dict", data := .dict #[] }).Ns s.heap.objs.size (fun _ => none) := Heap.Ns.new ..
  have hgc := Heap.get?_push_size (s.heap.push { cls := .type "dict", data := .dict #[] }) (o := { cls := .type "cell", data := .cell none }) rfl
  refine h s.heap.objs.size ((x, (s.heap.push { cls := .type "dict", data := .dict #[] }).objs.size) :: cl) _ _ _ s.toks ?_ (frame_cell (c := (s.heap.push { cls := .type "dict", data := .dict #[] }).objs.size) (hx _ _) hkind (by show ((x, _) :: cl).lookup x = _; simp) (by rw [hc]; exact Nat.succ_ne_self _))
    ((Le.push _ _).trans (Le.push _ _)) (fun b hb => ?_) ⟨⟨_, hnsC.at fun o e => Heap.get?_push_of_some _ e⟩, ⟨_, hgc, rfl⟩⟩
  · exact ⟨_, rfl, fun v h x => x⟩
  · rcases List.mem_cons.mp hb with e | hb
    · rw [e]; exact Nat.le_refl _
    · rw [List.mem_singleton.mp hb, hc]; exact Nat.le_succ _

/-- the loop of a comprehension, from its source on -/
theorem lcG {α : Type} {s s₂ : Shared} {env : Env} {elt iter : Expr} {x : Str} {px : Pos} {ifs : List Expr} {scope : Scope} {cl : List (Str × Addr)} {pos : Pos} {G : Addr → List (Str × Addr) → (Option Value → Heap → Prop) → Prop} {it : Value} {RR : Value → Addr → Result → Shared → Prop}
    (xs : List α) (rel : α → Value → Prop) (pr : α → Bool) (Fe : Heap → α → Value → Prop) (O : Opens prog w env scope cl x G) (S : Src prog w A xs rel s s₂ it)
    (tests : ∀ a ∈ xs, ∀ C cl' Has v s₃ E', G C cl' Has → rel a v → Le s.heap s₃.heap → Has (some v) s₃.heap → Tests prog w A ifs (compEnvC scope cl' C env) (fun ok s₄ => ok = pr a ∧ Keeps s₃ s₄) E' s₃)
    (elts : ∀ a ∈ xs, pr a = true → ∀ C cl' Has v s₃ E', G C cl' Has → rel a v → Le s.heap s₃.heap → Has (some v) s₃.heap → wpAny (model prog w) A (eval elt (compEnvC scope cl' C env)) (fun y s₄ => Keeps s₃ s₄ ∧ ∀ g, Fresh s₃.heap s₄.heap g → Fe g a y) E' s₃)
    (hfin : ∀ C D h' t' ys, Keeps s { s with heap := h', toks := t' } → s.heap.get? D = none → s.heap.get? C = none → D ≠ C → (∃ m, h'.Ns C m) → h'.IsList D ys → (∀ g, (∀ b o, s.heap.get? b = none → b ≠ C → h'.get? b = some o → g.get? b = some o) → Paired (Fe g) (xs.filter pr) ys.toList) → RR (.ref D) C (.ok .next) { s with heap := h', toks := t' }) :
    wpAny (model prog w) A (newList []) (fun acc s₃ => wpAny (model prog w) A (newFunctionEnv scope env.globals cl [] env.qual none .none (some env)) (fun cenv s₄ =>
      codeAny (model prog w) A (.compStart (.ListComp elt [⟨.Name x px, iter, ifs, 0⟩] scope pos) 0 it acc { cenv with scope := relabel scope env }) (RR acc cenv.locals) s₄) E s₃) E s₂ := by
  obtain ⟨I, fp, n, P, St, rfl, W, hn, hst, hfp, hnl, hP, k₂, hI, hlive⟩ := S
  refine wpAny_newObj_type (O fun C cl' out Has h₁ tk hG X old0 hout hH => ?_)
  have hgD := Heap.get?_push_size s₂.heap (o := { cls := .type "list", dict := none, data := .seq ([] : List Value).toArray }) rfl
  have old2 : Le s₂.heap (s₂.heap.push { cls := .type "list", dict := none, data := .seq ([] : List Value).toArray }) := Le.push _ _
  have hsz : (s₂.heap.push { cls := .type "list", dict := none, data := .seq ([] : List Value).toArray }).objs.size = s₂.heap.objs.size + 1 := Heap.size_push ..
  dsimp only at old0 hout
  rw [hsz] at hout
  generalize s₂.heap.push { cls := .type "list", dict := none, data := .seq ([] : List Value).toArray } = H2 at hgD old2 old0 hsz
  generalize hDe : s₂.heap.objs.size = D at hgD hout
  have hDn : s₂.heap.get? D = none := hDe ▸ get_size _
  have hon : ∀ b ∈ out, s₂.heap.get? b = none ∧ b ≠ D := fun b hb => ⟨get_ge _ (by rw [hDe]; exact Nat.le_of_succ_le (hout b hb)), Nat.ne_of_gt (hout b hb)⟩
  have old : Le s₂.heap h₁ := old2.trans old0
  have hD₁ : PlainL h₁ D #[] := ⟨_, _, old0 _ _ hgD, rfl, rfl, rfl⟩
  have hst₁ : St 0 h₁ := W.frame _ _ _ hst fun b _ o e => old b o e
  have hDf : D ∉ fp := fun hm => Nat.lt_irrefl _ (hDe ▸ hfp D hm)
  have hCn := hon _ X.loc
  have loop : ∀ s₃ : Shared, s₃ = { s₂ with heap := h₁, toks := tk } →
      codeAny (model prog w) A (.compLoop (.ListComp elt [⟨.Name x px, iter, ifs, 0⟩] scope pos) 0 (.ref I) (.ref D) (compEnvC scope cl' C env)) (RR (.ref D) C) s₃ := by
    rintro s₃ rfl
    refine loopR (cenv := compEnvC scope cl' C env) (s0 := s.heap) xs rel pr Fe X W hlive hn hnl hP (fun hm => (hon D hm).2 rfl) hDf (fun b hb hm => absurd (hDe ▸ hfp b hm) (Nat.not_lt.mpr (Nat.le_of_succ_le (hout b hb)))) hst₁ hD₁ hH
      ((keeps_le k₂).trans old) (fun b o e => ⟨fun hm => ?_, ?_, ?_⟩) (fun a ha v s₃ E' hr hle hH => tests a ha C cl' Has v s₃ E' hG hr hle hH) (fun a ha hp v s₃ E' hr hle hH => elts a ha hp C cl' Has v s₃ E' hG hr hle hH) (fun h' t' ys ov hle hl hH hF => ?_)
    · have := (hon b hm).1; rw [keeps_le k₂ _ _ e] at this; cases this
    · rintro rfl; rw [keeps_le k₂ _ _ e] at hDn; cases hDn
    · rintro rfl; rw [hI] at e; cases e
    · have := hfin C D h' t' ys ⟨h', t', rfl, hle⟩ (none_of_keeps k₂ hDn) (none_of_keeps k₂ hCn.1) (Ne.symm hCn.2) (X.ns _ _ hH) hl.isList fun g N => hF g fun b o x1 x2 e => N b o x1 (fun q => x2 (q ▸ X.loc)) e
      obtain ⟨h0, t0, e0, _⟩ := k₂
      rw [e0]; exact this
  exact codeAny_compStart_list (loop _ rfl) (W.self 0 _ _ _ hst₁ (loop _ rfl))

theorem Fv.hideAt {env : Env} {s₀ s : Shared} {g : Heap} {hid : List (Addr × Obj)} {vs : List (Str × Value)} {b : Addr} {o : Obj} (F : Fv env s₀ g hid vs s) (hg : g.get? b = none) (hL : b ≠ env.locals) (hC : ∀ n c, (n, c) ∈ env.cells → b ≠ c) (h2 : s.heap.get? b = some o) :
    Fv env s₀ g ((b, o) :: hid) vs s := by
  refine { F with hid := fun p hp => ?_ }
  rcases List.mem_cons.mp hp with rfl | hp
  · exact ⟨h2, hg, hL, hC⟩
  · exact F.hid p hp

/-- a list comprehension -/
theorem lcE {α : Type} {s : Shared} {env : Env} {elt iter : Expr} {x : Str} {px : Pos} {ifs : List Expr} {scope : Scope} {cl : List (Str × Addr)} {pos : Pos} {Q : Value → Shared → Prop} {G : Addr → List (Str × Addr) → (Option Value → Heap → Prop) → Prop}
    (xs : List α) (rel : α → Value → Prop) (pr : α → Bool) (Fe : Heap → α → Value → Prop) (O : Opens prog w env scope cl x G) (hclos : closureFor scope env = pure cl)
    (h : wpAny (model prog w) A (eval iter env) (fun xv s₁ => wpAny (model prog w) A (pyIter xv) (fun it s₂ => Src prog w A xs rel s s₂ it) E s₁) E s)
    (tests : ∀ a ∈ xs, ∀ C cl' Has v s₃ E', G C cl' Has → rel a v → Le s.heap s₃.heap → Has (some v) s₃.heap → Tests prog w A ifs (compEnvC scope cl' C env) (fun ok s₄ => ok = pr a ∧ Keeps s₃ s₄) E' s₃)
    (elts : ∀ a ∈ xs, pr a = true → ∀ C cl' Has v s₃ E', G C cl' Has → rel a v → Le s.heap s₃.heap → Has (some v) s₃.heap → wpAny (model prog w) A (eval elt (compEnvC scope cl' C env)) (fun y s₄ => Keeps s₃ s₄ ∧ ∀ g, Fresh s₃.heap s₄.heap g → Fe g a y) E' s₃)
    (hQ : ∀ D s' ys, Keeps s s' → s.heap.get? D = none → s'.heap.IsList D ys → (∀ g, Fresh s.heap s'.heap g → Paired (Fe g) (xs.filter pr) ys.toList) → Q (.ref D) s')
    (hkind : scope.kind = .function) (hnames : (scope.names.all fun y => y.2 != .local || scope.names.lookup y.1 == some .local) = true) (hs : ∀ x, foldedSetIterable iter env x = pure x) :
    wpAny (model prog w) A (eval (.ListComp elt [⟨.Name x px, iter, ifs, 0⟩] scope pos) env) Q E s := by
  rw [eval_ListComp]
  refine wpAny_comprehension_free (use := none) rfl hs hclos hkind (fun y hy e => by have := List.all_eq_true.mp hnames y hy; simpa [e] using this) (wpAny_mono h (fun xv s₁ h₁ => wpAny_mono h₁ (fun it s₂ S => ?_) fun _ _ e => e) fun _ _ e => e)
  refine lcG (RR := fun acc C => compPost (model prog w) A E none Q acc C) xs rel pr Fe O S tests elts fun C D h' t' ys kk hD hC hDC hm hl hF => ?_
  obtain ⟨m, hm⟩ := hm
  refine ⟨m, hm, fun h'' hs'' => hQ D _ ys ⟨h'', t', rfl, fun b o e => hs''.extBut b o (by rintro rfl; rw [hC] at e; cases e) (keeps_le kk b o e)⟩ hD (hl.extBut hs''.extBut hDC) fun g N => hF g fun b o hn hb e => N b o hn (hs''.extBut b o hb e)⟩

/-- the same as a statement that lays the list under a name -/
theorem lcF {α : Type} {s₀ s : Shared} {g : Heap} {hid : List (Addr × Obj)} {env : Env} {vs : List (Str × Value)} {elt iter : Expr} {x y : Str} {px py : Pos} {ifs : List Expr} {scope : Scope} {cl : List (Str × Addr)} {pos spos : Pos} {Q : Flow → Shared → Prop} {G : Addr → List (Str × Addr) → (Option Value → Heap → Prop) → Prop}
    (F : Fv env s₀ g hid vs s) (xs : List α) (rel : α → Value → Prop) (pr : α → Bool) (Fe : α → Value → Prop) (O : Opens prog w env scope cl x G) (hclos : closureFor scope env = pure cl)
    (h : wpAny (model prog w) A (eval iter env) (fun xv s₁ => wpAny (model prog w) A (pyIter xv) (fun it s₂ => Src prog w A xs rel s s₂ it) E s₁) E s)
    (tests : ∀ a ∈ xs, ∀ C cl' Has v s₃ E', G C cl' Has → rel a v → Le s.heap s₃.heap → Has (some v) s₃.heap → Tests prog w A ifs (compEnvC scope cl' C env) (fun ok s₄ => ok = pr a ∧ Keeps s₃ s₄) E' s₃)
    (elts : ∀ a ∈ xs, pr a = true → ∀ C cl' Has v s₃ E', G C cl' Has → rel a v → Le s.heap s₃.heap → Has (some v) s₃.heap → wpAny (model prog w) A (eval elt (compEnvC scope cl' C env)) (fun y s₄ => Fe a y ∧ Keeps s₃ s₄) E' s₃)
    (hQ : ∀ D s' ys g', Fv env s₀ g' hid ((y, .ref D) :: vs) s' → Le g g' → g'.IsList D ys → Paired Fe (xs.filter pr) ys.toList → Q .next s')
    (hyk : env.scope.kind = .function) (hyo : kOk env y = true) (hyf : (env.kindOf y == some .free) = false)
    (hsw : swapsWith (.ListComp elt [⟨.Name x px, iter, ifs, 0⟩] scope pos) (some (.Name y py)) spos.line env = pure true)
    (hkind : scope.kind = .function) (hnames : (scope.names.all fun y => y.2 != .local || scope.names.lookup y.1 == some .local) = true) (hs : ∀ x, foldedSetIterable iter env x = pure x) :
    wpAny (model prog w) A (exec (.Assign [.Name y py] (.ListComp elt [⟨.Name x px, iter, ifs, 0⟩] scope pos) spos) env) Q E s := by
  rw [exec_Assign_Name_used _ _ _ _ hsw]
  refine wpAny_bind (wpAny_standAt (wpAny_bind ?_))
  show wpAny _ A (do let _ ← comprehension (.ListComp elt [⟨.Name x px, iter, ifs, 0⟩] scope pos) scope env _ (newList []) false (eval iter env) (some (assign (.Name y py) env))) _ _ s
  refine wpAny_bind (wpAny_mono (wpAny_comprehension_free (use := some (assign (.Name y py) env)) (Q := fun _ s' => Q .next s') rfl hs hclos hkind (fun y hy e => by have := List.all_eq_true.mp hnames y hy; simpa [e] using this)
    (wpAny_mono h (fun xv s₁ h₁ => wpAny_mono h₁ (fun it s₂ S => ?_) fun _ _ e => e) fun _ _ e => e)) (fun _ s' hq => wpAny_pure (wpAny_pure hq)) fun _ _ e => e)
  refine lcG (RR := fun acc C => compPost (model prog w) A E (some (assign (.Name y py) env)) (fun _ s' => Q .next s') acc C) xs rel pr (fun _ a v => Fe a v) O S tests
    (fun a ha hp C cl' Has v s₃ E' hG hr hle hH => wpAny_mono (elts a ha hp C cl' Has v s₃ E' hG hr hle hH) (fun y s₄ h₄ => ⟨h₄.2, fun _ _ => h₄.1⟩) fun _ _ e => e) fun C D h' t' ys kk hD hC hDC hm hl hF => ?_
  obtain ⟨m, hm⟩ := hm
  obtain ⟨oC, eC, dC, hoC, r1, r2, r3⟩ := id hm
  obtain ⟨aC1, aC2, aC3⟩ := F.apartFrom hC
  obtain ⟨aD1, aD2, aD3⟩ := F.apartFrom hD
  obtain ⟨oD, hoD, rD⟩ := hl
  have F1 := ((F.keeps kk).hideAt (F.offG hC) aC1 aC2 hoC).hideAt (F.offG hD) aD1 aD2 hoD
  show wpAny _ A (assign (.Name y py) env (.ref D)) _ _ _
  refine wpAny_assign_Name (F1.st (fun s₅ F5 => ⟨m, ⟨oC, eC, dC, F5.hidAt (List.mem_cons_of_mem _ List.mem_cons_self), r1, r2, r3⟩, fun h₆ hs₆ => ?_⟩) hyk hyo hyf)
  have F6 := Fv.lose (hid := (D, oD) :: hid) (tk := s₅.toks) (F5.drop fun p hp => by
    rcases List.mem_append.mp hp with hp | hp
    · rcases List.mem_cons.mp hp with e | hp
      · rw [e]; exact List.mem_cons_self
      · exact List.mem_cons_of_mem _ (List.mem_cons_of_mem _ hp)
    · rw [List.mem_singleton.mp hp]; exact List.mem_cons_of_mem _ List.mem_cons_self) (fun p hp => by
    rcases List.mem_cons.mp hp with e | hp
    · rw [e]; exact hDC
    · exact Ne.symm (aC3 p hp)) (fun p q hne e => hs₆.extBut p q hne e)
  have hD6 := F6.hidAt List.mem_cons_self
  obtain ⟨g', F7, l7, nw⟩ := (F6.drop (hid' := hid) fun p hp => List.mem_cons_of_mem _ hp).grow
  exact hQ D _ ys g' F7 l7 ⟨oD, nw D oD hD6 aD1 aD2 aD3, rD⟩ (hF h' fun b o _ _ e => e)
end Mine

-- part: Rules
set_option maxHeartbeats 4000000
namespace Mine
open PySem PySem.W PyProof.Rows
variable {prog : Program} {w : World} {A : Around} {E : Value → Shared → Prop}

theorem max_ints {s : Shared} {l : Addr} {vs : List Value} {ns : List Int} {Q : Value → Shared → Prop} (hh : A.handled = none)
    (hl : s.heap.IsList l vs.toArray) (hi : IntsAre vs ns) (hne : 0 < ns.length)
    (h : ∀ h' M (t : Tok) tk, Le s.heap h' → M ∈ ns → (∀ a, a ∈ ns → a ≤ M) → Q (.int M t) { s with heap := h', toks := tk }) :
    wpAny (model prog w) A (call (.builtin "max") [.ref l]) Q E s := by
  obtain ⟨xs, e⟩ := hi.allInts.items
  have hns : ns = xs.toList.map (·.1) := by
    rw [← hi.numsOf, ← nums_intItems, ← e]
  have hsz : 0 < xs.size := by
    have h3 := hne; rw [hns, List.length_map, Array.length_toList] at h3; exact h3
  rw [e] at hl
  refine max_intList hh hl hsz fun v h' tk hv hk => ?_
  obtain ⟨t, rfl⟩ := intItems_at hv
  obtain ⟨h1, h2⟩ := argBest_gt (numAt xs) (xs.size - 1)
  refine h _ _ t tk hk ?_ fun a ha => ?_
  · rw [hns, numAt_eq]; exact getD_mem (by rw [List.length_map, Array.length_toList]; omega)
  · rw [hns] at ha
    obtain ⟨j, hj, rfl⟩ := mem_getD ha
    rw [List.length_map, Array.length_toList] at hj
    rw [← numAt_eq]; exact h2 j (by omega)

theorem slice_post {s : Shared} {x : Str} {t : Tok} {l u : Option (Int × Tok)} {Q : Value → Shared → Prop} (hsz : x.length ≤ sizeLine)
    (h : ∀ t' k, Q (.str (Txt.slice x (l.map (·.1)) (u.map (·.1))) t') { s with toks := k }) : (sliceMade x t l u none).post Q s := by
  cases l <;> cases u <;> exact post_val_or_str ⟨Nat.le_trans (Txt.slice_le x _ _) hsz, h⟩

theorem slice_ok {s : Shared} {env : Env} {value : Expr} {lower upper : Option Expr} {p pos : Pos} {x : Str} {tx : Tok} {l u : Option (Int × Tok)} {Q : Value → Shared → Prop} (hsz : x.length ≤ sizeLine)
    (hv : ∀ Q', (∀ s', Keeps s s' → Q' (.str x tx) s') → wpAny (model prog w) A (eval value env) Q' E s)
    (hl : ∀ Q' s₁, Keeps s s₁ → (∀ s', Keeps s s' → Q' (partValue l) s') → wpAny (model prog w) A (evalPart lower env) Q' E s₁)
    (hu : ∀ Q' s₁, Keeps s s₁ → (∀ s', Keeps s s' → Q' (partValue u) s') → wpAny (model prog w) A (evalPart upper env) Q' E s₁)
    (h : ∀ t' s', Keeps s s' → Q (.str (Txt.slice x (l.map (·.1)) (u.map (·.1))) t') s')
    (ht : ∀ o r, letTemporaryGo value o r = pure () := by intro _ _; rfl) :
    wpAny (model prog w) A (eval (.Subscript value (.Slice lower upper none p) pos) env) Q E s := by
  refine wpAny_Subscript_str_slice (hv _ fun s₁ k₁ => hl _ s₁ k₁ fun s₂ k₂ => hu _ s₂ k₂ fun s₃ k₃ => ⟨x, tx, l, u, rfl, rfl, rfl, slice_post hsz fun t' k => ?_⟩) ht
  exact h t' _ (keeps_trans k₃ (keeps_mk _ (Le.push _ _)))

theorem sub_dict {K : Type} [DecidableEq K] {knd : KeyKind prog w K} {s : Shared} {value slice : Expr} {d : Addr} {kvs : List (K × Value)} {k : K} {key v : Value} {Q : Value → Shared → Prop} (hkey : knd.is k key = true) (hd : s.heap.DictOf knd d kvs) (hv : valueAt kvs k = some v)
    (h : ∀ s', Keeps s s' → Q v s') (hs : subscripted slice false (.ref d) key = operate [.ref d, key] (getItem (.ref d) key) := by with_unfolding_all rfl) :
    wpAny (model prog w) A (subscriptTail value slice (.ref d) key) Q E s :=
  tail_any hd.typeIs F.slot_dict_getitem.lookup (wpAny_getItem_of hkey hd.mapOf hv (h _ (keeps_tok _ _))) hs

theorem sub_id {s : Shared} {value slice : Expr} {d : Addr} {c : List (Str × Int)} {k : Str} {tk : Tok} {i : Int} {Q : Value → Shared → Prop} (hd : ID prog w s.heap d c) (hv : getC c k = some i)
    (h : ∀ t s', Keeps s s' → Q (.int i t) s') (hs : subscripted slice false (.ref d) (.str k tk) = operate [.ref d, .str k tk] (getItem (.ref d) (.str k tk)) := by with_unfolding_all rfl) :
    wpAny (model prog w) A (subscriptTail value slice (.ref d) (.str k tk)) Q E s := by
  obtain ⟨_, kvs, hd, ht⟩ := hd
  rcases ht.at k with ⟨j, t, h1, h2⟩ | ⟨h1, _⟩
  · rw [hv] at h1; cases h1
    exact sub_dict (strKind_is _ _ _ _) hd h2 (h t) hs
  · rw [hv] at h1; cases h1

noncomputable def hasC (c : List (Str × Int)) (k : Str) : Bool := c.any fun p => p.1 = k
theorem hasC_get (c : List (Str × Int)) (k : Str) : hasC c k = (getC c k).isSome := by
  unfold hasC getC
  induction c with
  | nil => rfl
  | cons p c ih =>
    rw [List.any_cons, List.find?_cons, ih]
    by_cases e : p.1 = k <;> simp [e]
theorem Tied.has {kvs c} (h : Tied kvs c) (k : Str) : (valueAt kvs k).isSome = hasC c k := by
  rw [hasC_get]
  rcases h.at k with ⟨i, t, h1, h2⟩ | ⟨h1, h2⟩ <;> rw [h1, h2] <;> rfl
theorem in_id {s : Shared} {d : Addr} {c : List (Str × Int)} {k : Str} {tk : Tok} {Q : Value → Shared → Prop} (hd : ID prog w s.heap d c) (h : ∀ s', Keeps s s' → Q (.bool (hasC c k)) s') :
    wpAny (model prog w) A (compareOp .In (.str k tk) (.ref d)) Q E s := by
  obtain ⟨hs, kvs, hd, ht⟩ := hd
  exact wpAny_in_of (strKind_is _ _ _ _) hs hd.mapOf (by rw [ht.has]; exact h _ (keeps_tok _ _))
theorem notIn_id {s : Shared} {d : Addr} {c : List (Str × Int)} {k : Str} {tk : Tok} {Q : Value → Shared → Prop} (hd : ID prog w s.heap d c) (h : ∀ s', Keeps s s' → Q (.bool (!hasC c k)) s') :
    wpAny (model prog w) A (compareOp .NotIn (.str k tk) (.ref d)) Q E s := by
  obtain ⟨hs, kvs, hd, ht⟩ := hd
  exact wpAny_notIn_of (strKind_is _ _ _ _) hs hd.mapOf (by rw [ht.has]; exact h _ (keeps_tok _ _))

/-- a list of texts, by its texts -/
noncomputable def SL (h : Heap) (a : Addr) (ss : List Str) : Prop := ∃ items, h.IsList a items ∧ Paired (fun k v => ∃ t, v = .str k t) ss items.toList
theorem SL.le {h h' : Heap} {a : Addr} {ss : List Str} (x : SL h a ss) (k : Le h h') : SL h' a ss := let ⟨i, l, p⟩ := x; ⟨i, l.at fun o e => k _ o e, p⟩
theorem paired_strs {ss : List Str} {vs : List Value} (p : Paired (fun k v => ∃ t, v = .str k t) ss vs) : StrsAre vs ss := by
  induction p with
  | nil => exact .nil
  | cons h _ ih => obtain ⟨t, rfl⟩ := h; exact .cons _ _ ih
theorem paired_ints {ss : List Int} {vs : List Value} (p : Paired (fun k v => ∃ t, v = .int k t) ss vs) : IntsAre vs ss := by
  induction p with
  | nil => exact .nil
  | cons h _ ih => obtain ⟨t, rfl⟩ := h; exact .cons _ _ ih
end Mine

-- part: Run
set_option maxHeartbeats 4000000
namespace Mine
open PySem PySem.W PyProof.Rows

abbrev IC := List (Str × Int)
structure Cfg where
  apW : Str → Bool
  okW : Str → Bool
  rl : List (Str × IC)
  last : Bool

noncomputable def lookR (rl : List (Str × IC)) (k : Str) : Option IC := (rl.find? fun p => p.1 = k).map (·.2)
noncomputable def isIn (ks : List Str) (k : Str) : Bool := ks.any (· == k)
noncomputable def caughtL (c : Cfg) (S F : IC) : List Str := (F.map (·.1)).filter fun k => !hasC S k && c.apW k
noncomputable def maxLen (ks : List Str) : Nat := ks.foldl (fun m k => max m k.length) 0
noncomputable def gd (c : Cfg) (W S F : IC) : Bool := (F.all fun p => c.okW p.1) && (W.all fun p => c.okW p.1) && decide (W.length + S.length + F.length ≤ 10000)

noncomputable def run (c : Cfg) : Nat → IC → IC → IC → Option IC
  | 0, _, _, _ => none
  | n + 1, W, S, F =>
    if gd c W S F = true then
      let W1 := addC W (F.filter fun p => isIn (caughtL c S F) p.1)
      let S1 := addC S (F.filter fun p => !isIn (caughtL c S F) p.1)
      if W1 = [] then some S1 else
      let size := maxLen (W1.map (·.1))
      if 1 ≤ size then
        match (W1.map (·.1)).filter fun k => k.length == size with
        | [] => none
        | first :: _ =>
          let places := (List.range (size - 1)).filter fun (k : Nat) => (lookR c.rl (Txt.slice first (some (k : Int)) (some ((k : Int) + 2)))).isSome
          match (if c.last then places.getLast? else places.head?) with
          | none => none
          | some place =>
            match lookR c.rl (Txt.slice first (some (place : Int)) (some ((place : Int) + 2))) with
            | none => none
            | some rule => run c n (W1.filter fun p => p.1 != first) S1
                (foldC (fun p => Txt.slice first none (some (place : Int)) ++ p.1 ++ Txt.slice first (some ((place : Int) + 2)) none) (fun p => (getC W1 first).getD 0 * p.2) rule)
      else none
    else none

/-- a table of rules -/
noncomputable def RulesAt (prog : Program) (w : World) (h : Heap) (a : Addr) (rl : List (Str × IC)) : Prop :=
  (a == sysModules) = false ∧ ∃ kvs, h.DictOf (strKind prog w) a kvs ∧ Paired (fun kv p => kv.1 = p.1 ∧ ∃ d, kv.2 = .ref d ∧ ID prog w h d p.2) kvs rl
theorem RulesAt.le {prog w h h' a rl} (x : RulesAt prog w h a rl) (k : Le h h') : RulesAt prog w h' a rl :=
  let ⟨z, kvs, d, p⟩ := x; ⟨z, kvs, d.keep k, p.mono fun _ _ ⟨e, d, e', i⟩ => ⟨e, d, e', i.le k⟩⟩

theorem rules_at {prog w} {h : Heap} {kvs : List (Str × Value)} {rl : List (Str × IC)} (p : Paired (fun kv p => kv.1 = p.1 ∧ ∃ d, kv.2 = .ref d ∧ ID prog w h d p.2) kvs rl) (k : Str) :
    (∃ r d, lookR rl k = some r ∧ valueAt kvs k = some (.ref d) ∧ ID prog w h d r ∧ (k, r) ∈ rl) ∨ (lookR rl k = none ∧ valueAt kvs k = none) := by
  induction p with
  | nil => exact .inr ⟨rfl, rfl⟩
  | @cons kv p l1 l2 hh _ ih =>
    obtain ⟨h1, d, h2, h3⟩ := hh
    unfold lookR valueAt at *
    simp only [List.find?_cons]
    by_cases e : p.1 = k
    · rw [h1]; simp only [e, decide_true]; exact .inl ⟨p.2, d, rfl, by simp [h2], h3, by rw [← e]; exact List.mem_cons_self⟩
    · rw [h1]; simp only [e, decide_false]
      rcases ih with ⟨r, d, a, b, c, m⟩ | ih
      · exact .inl ⟨r, d, a, b, c, List.mem_cons_of_mem _ m⟩
      · exact .inr ih

theorem getC_of_mem {c : IC} (hn : (c.map (·.1)).Nodup) {k : Str} {v : Int} (h : (k, v) ∈ c) : getC c k = some v := by
  induction c with
  | nil => cases h
  | cons p c ih =>
    rw [List.map_cons, List.nodup_cons] at hn
    unfold getC at *
    rw [List.find?_cons]
    rcases List.mem_cons.mp h with rfl | h
    · simp
    · have : p.1 ≠ k := fun e => hn.1 (e ▸ List.mem_map.mpr ⟨_, h, rfl⟩)
      simp only [this, decide_false]
      exact ih hn.2 h

theorem putC_fresh {c : IC} {k : Str} {v : Int} (h : k ∉ c.map (·.1)) : putC c k v = c ++ [(k, v)] := by
  unfold putC
  rw [if_neg]
  simp only [List.any_eq_true, decide_eq_true_eq, not_exists, not_and]
  rintro p hp rfl
  exact h (List.mem_map.mpr ⟨p, hp, rfl⟩)

theorem foldC_nodup {α : Type} (fk : α → Str) (fv : α → Int) (xs : List α) (hn : (xs.map fk).Nodup) : foldC fk fv xs = xs.map fun a => (fk a, fv a) := by
  have key : ∀ (xs : List α) (acc : IC), (acc.map (·.1) ++ xs.map fk).Nodup → xs.foldl (fun acc a => putC acc (fk a) (fv a)) acc = acc ++ xs.map fun a => (fk a, fv a) := by
    intro xs
    induction xs with
    | nil => intro acc _; simp
    | cons a xs ih =>
      intro acc hn
      rw [List.foldl_cons, putC_fresh, ih]
      · simp
      · simpa using hn
      · intro hm
        rw [List.map_cons] at hn
        exact (List.nodup_append.mp hn).2.2 _ hm _ List.mem_cons_self rfl
  have := key xs [] (by simpa using hn)
  simpa [foldC] using this

theorem foldC_filter (F : IC) (q : Str → Bool) (hn : (F.map (·.1)).Nodup) : foldC (fun k => k) (fun k => (getC F k).getD 0) ((F.map (·.1)).filter q) = F.filter fun p => q p.1 := by
  have hsub : ((F.map (·.1)).filter q).Nodup := hn.sublist List.filter_sublist
  rw [foldC_nodup _ _ _ (by simpa using hsub)]
  have e : (F.map (·.1)).filter q = (F.filter fun p => q p.1).map (·.1) := by rw [List.filter_map]; rfl
  rw [e, List.map_map]
  have : ∀ p ∈ F.filter (fun p => q p.1), ((fun a => (a, (getC F a).getD 0)) ∘ (·.1)) p = p := by
    intro p hp
    have hm := (List.mem_filter.mp hp).1
    show (p.1, (getC F p.1).getD 0) = p
    rw [getC_of_mem hn (v := p.2) hm]; rfl
  rw [List.map_congr_left this]; simp

theorem le_maxLen : ∀ (ks : List Str) (m : Nat), m ≤ ks.foldl (fun m k => max m k.length) m ∧ ∀ k ∈ ks, k.length ≤ ks.foldl (fun m k => max m k.length) m
  | [], m => ⟨Nat.le_refl _, fun _ h => nomatch h⟩
  | k :: ks, m => by
    obtain ⟨h1, h2⟩ := le_maxLen ks (max m k.length)
    refine ⟨Nat.le_trans (Nat.le_max_left _ _) h1, fun j hj => ?_⟩
    rcases List.mem_cons.mp hj with rfl | hj
    · exact Nat.le_trans (Nat.le_max_right _ _) h1
    · exact h2 j hj
theorem maxLen_mem : ∀ (ks : List Str) (m : Nat), ks.foldl (fun m k => max m k.length) m = m ∨ ∃ k ∈ ks, k.length = ks.foldl (fun m k => max m k.length) m
  | [], _ => .inl rfl
  | k :: ks, m => by
    rw [List.foldl_cons]
    rcases maxLen_mem ks (max m k.length) with h | ⟨j, hj, h⟩
    · rw [h]
      by_cases e : k.length ≤ m
      · exact .inl (by omega)
      · exact .inr ⟨k, List.mem_cons_self, by omega⟩
    · exact .inr ⟨j, List.mem_cons_of_mem _ hj, h⟩
theorem max_eq {ks : List Str} {M : Int} (hm : M ∈ ks.map fun k => (k.length : Int)) (hb : ∀ a ∈ ks.map (fun k => (k.length : Int)), a ≤ M) : M = (maxLen ks : Nat) := by
  obtain ⟨k, hk, rfl⟩ := List.mem_map.mp hm
  have h1 := (le_maxLen ks 0).2 k hk
  rcases maxLen_mem ks 0 with h | ⟨j, hj, h⟩
  · unfold maxLen; omega
  · have := hb _ (List.mem_map.mpr ⟨j, hj, rfl⟩)
    unfold maxLen; omega

theorem gd_inv {c : Cfg} {W S F : IC} (h : gd c W S F = true) : (∀ p ∈ F, c.okW p.1 = true) ∧ (∀ p ∈ W, c.okW p.1 = true) ∧ W.length + S.length + F.length ≤ 10000 := by
  unfold gd at h
  rw [Bool.and_eq_true, Bool.and_eq_true] at h
  exact ⟨List.all_eq_true.mp h.1.1, List.all_eq_true.mp h.1.2, of_decide_eq_true h.2⟩
theorem maxLen_le {ks : List Str} {n : Nat} (h : ∀ k ∈ ks, k.length ≤ n) : maxLen ks ≤ n := by
  unfold maxLen
  rcases maxLen_mem ks 0 with e | ⟨j, hj, e⟩
  · rw [e]; exact Nat.zero_le _
  · rw [← e]; exact h j hj
theorem turn_n {i : Nat} (h : i < 200) : 200 - i = (200 - (i + 1)) + 1 := by omega
theorem gdW {W S F : IC} {q : Str × Int → Bool} (h : W.length + S.length + F.length ≤ 10000) : W.length + (F.filter q).length ≤ 100000 := by
  have := List.length_filter_le q F
  omega
theorem gdS {W S F : IC} {q : Str × Int → Bool} (h : W.length + S.length + F.length ≤ 10000) : S.length + (F.filter q).length ≤ 100000 := by
  have := List.length_filter_le q F
  omega
theorem book_len {a : Str} (h : a.length ≤ 20) : (strT "*" ++ Txt.upper a ++ strT "./abcba/").length ≤ 1000 := by
  rw [Str.length_append, Str.length_append, show (strT "*").length = 1 from rfl, show (strT "./abcba/").length = 8 from rfl]
  have := len_upper a
  omega
theorem book_len1 {a : Str} (h : (strT "*" ++ Txt.upper a ++ strT "./abcba/").length ≤ 1000) : (strT "*").length + (Txt.upper a).length ≤ sizeLine := by
  rw [Str.length_append, Str.length_append] at h
  exact le_line (Nat.le_trans (Nat.le_add_right _ _) (Nat.le_trans h (by decide)))
theorem book_len2 {a : Str} (h : (strT "*" ++ Txt.upper a ++ strT "./abcba/").length ≤ 1000) : (strT "*" ++ Txt.upper a).length + (strT "./abcba/").length ≤ sizeLine := by
  rw [Str.length_append] at h
  exact le_line (Nat.le_trans h (by decide))
theorem cat_a {f a : Str} {l u : Option Int} (hf : f.length ≤ 20) (ha : a.length ≤ 20) : (Txt.slice f l u).length + a.length ≤ sizeLine := le_line (Nat.le_trans (Nat.add_le_add (Nat.le_trans (Txt.slice_le f l u) hf) ha) (by decide))
theorem cat_b {f a : Str} {l u l' u' : Option Int} (hf : f.length ≤ 20) (ha : a.length ≤ 20) : (Txt.slice f l u ++ a).length + (Txt.slice f l' u').length ≤ sizeLine := by
  rw [Str.length_append]
  exact le_line (Nat.le_trans (Nat.add_le_add (Nat.add_le_add (Nat.le_trans (Txt.slice_le f l u) hf) ha) (Nat.le_trans (Txt.slice_le f l' u') hf)) (by decide))
theorem sub_oneI {n : Nat} (h : 1 ≤ n) : (n : Int) - 1 = ((n - 1 : Nat) : Int) := by omega
theorem place_in {l : Bool} {ps : List Nat} {p : Nat} (h : (if l = true then ps.getLast? else ps.head?) = some p) : p ∈ ps := by
  cases l with
  | true => exact List.mem_of_getLast? h
  | false => exact List.mem_of_mem_head? h

/-- what a turn of the settling was -/
inductive Turn (c : Cfg) (n : Nat) (S' W1 S1 : IC) : Prop
  | fin (e : W1 = []) (r : S' = S1)
  | go (first : Str) (rest : List Str) (place : Nat) (rule : IC) (ne : W1 ≠ []) (pos : 1 ≤ maxLen (W1.map (·.1))) (hf : ((W1.map (·.1)).filter fun k => k.length == maxLen (W1.map (·.1))) = first :: rest)
    (hp : (if c.last then ((List.range (maxLen (W1.map (·.1)) - 1)).filter fun (k : Nat) => (lookR c.rl (Txt.slice first (some (k : Int)) (some ((k : Int) + 2)))).isSome).getLast?
      else ((List.range (maxLen (W1.map (·.1)) - 1)).filter fun (k : Nat) => (lookR c.rl (Txt.slice first (some (k : Int)) (some ((k : Int) + 2)))).isSome).head?) = some place)
    (hr : lookR c.rl (Txt.slice first (some (place : Int)) (some ((place : Int) + 2))) = some rule)
    (h : run c n (W1.filter fun p => p.1 != first) S1 (foldC (fun p => Txt.slice first none (some (place : Int)) ++ p.1 ++ Txt.slice first (some ((place : Int) + 2)) none) (fun p => (getC W1 first).getD 0 * p.2) rule) = some S')

theorem run_inv {c : Cfg} {n : Nat} {W S F S' : IC} (h : run c (n + 1) W S F = some S') : gd c W S F = true ∧
    Turn c n S' (addC W (F.filter fun p => isIn (caughtL c S F) p.1)) (addC S (F.filter fun p => !isIn (caughtL c S F) p.1)) := by
  unfold run at h
  split at h
  case isFalse => cases h
  rename_i hg
  refine ⟨hg, ?_⟩
  dsimp only at h
  generalize addC W (F.filter fun p => isIn (caughtL c S F) p.1) = W1 at h ⊢
  generalize addC S (F.filter fun p => !isIn (caughtL c S F) p.1) = S1 at h ⊢
  by_cases he : W1 = []
  · rw [if_pos he] at h; cases h; exact .fin he rfl
  rw [if_neg he] at h
  split at h
  case isFalse => cases h
  rename_i hpos
  split at h
  case h_1 => cases h
  rename_i first rest hf
  split at h
  case h_1 => cases h
  rename_i place hp
  split at h
  case h_1 => cases h
  rename_i rule hr
  exact .go first rest place rule he hpos hf hp hr h
end Mine

-- part: FSet
set_option maxHeartbeats 4000000
namespace Mine
open PySem PySem.W PyProof.Rows
variable {prog : Program} {w : World} {A : Around} {E : Value → Shared → Prop}

theorem for_range {s s₀ : Shared} {g : Heap} {hid : List (Addr × Obj)} {vs : List (Str × Value)} {env : Env} {x : Str} {px rp rpos pos : Pos} {e : Expr} {body : List Stmt} {n : Nat} {Q : Flow → Shared → Prop} {E : Value → Shared → Prop}
    (B : Bs w s.heap) (hh : A.handled = none) (hn : n ≤ 1000) (F : Fv env s₀ g hid vs s)
    (he : ∀ Q' : Value → Shared → Prop, (∀ s₁ t, Keeps s s₁ → Q' (.int (n : Int) t) s₁) → wpAny (model prog w) A (eval e env) Q' E s)
    (J : Nat → Heap → List (Addr × Obj) → List (Str × Value) → Prop) (h0 : J 0 g hid vs)
    (step : ∀ I i t g₁ hid₁ vs₁ oi s₁ (P : Flow → Shared → Prop), (∀ g₂ hid₂ vs₂ s₂, Le g₁ g₂ → J (i + 1) g₂ hid₂ vs₂ → (∀ p ∈ hid₂, p.1 ≠ I) → Fv env s₀ g₂ (hid₂ ++ [(I, oi)]) vs₂ s₂ → P .next s₂) → (∀ v s₂, Q (.ret v) s₂ → P (.ret v) s₂) → i < n → Le g g₁ → J i g₁ hid₁ vs₁ → (∀ p ∈ hid₁, p.1 ≠ I) → Fv env s₀ g₁ (hid₁ ++ [(I, oi)]) ((x, .int (i : Int) t) :: vs₁) s₁ →
      wpAny (model prog w) A (execs body env) P (fun _ _ => False) s₁)
    (done : ∀ g₁ hid₁ vs₁ s₁, Le g g₁ → J n g₁ hid₁ vs₁ → Fv env s₀ g₁ hid₁ vs₁ s₁ → Q .next s₁)
    (hg : env.globals = mainGlobals := by rfl) (hb : env.builtins = builtinsNs := by rfl) (hk : env.scope.kind = .function := by rfl) (hxr : env.kindOf (Str.ofString "range") = some .globalImplicit := by rfl)
    (hse : starEach [e] env = (false, eval e env) :: starEach [] env := by rfl)
    (hok : kOk env x = true := by rfl) (hfx : (env.kindOf x == some .free) = false := by rfl)
    (hs : ∀ z, foldedSetIterable (.Call (.Name (Str.ofString "range") rp) [e] [] rpos) env z = pure z := by intro _; rfl) :
    wpAny (model prog w) A (exec (.For (.Name x px) (.Call (.Name (Str.ofString "range") rp) [e] [] rpos) body [] pos) env) Q E s := by
  refine wpAny_For (wpAny_Call_NameR (B.ldB (v := .type "range") (by rfl) (by rfl) (by decide) ?_ hg hb hk hxr)) hs
  refine PyProof.Rows.callWith_type1 (args_cons (he _ fun s₁ t k => args_nil ?_) hse) hse
  refine call_range_1 ?_
  have hr := IsRange.new s₁.heap 0 (n : Int) 1 s₁.toks t (s₁.toks + 1)
  generalize s₁.heap.objs.size = r at hr ⊢
  generalize hH : s₁.heap.push { cls := .type "range", data := .fields #[.int 0 s₁.toks, .int (n : Int) t, .int 1 (s₁.toks + 1)] } = H at hr ⊢
  have F₁ : Fv env s₀ g hid vs { s₁ with heap := H, toks := s₁.toks + 1 + 1 } := F.keeps (keeps_trans k (keeps_mk _ (hH ▸ Le.push _ _)))
  have hsz : Builtin.Range.rangeSize 0 (n : Int) 1 = (n : Int) := by unfold Builtin.Range.rangeSize; simp; omega
  refine wpAny_pyIter_range hr (small_one (by decide) (by decide) (by omega) (by omega)) ?_
  rw [hsz]
  generalize hI : ({ s₁ with heap := H, toks := s₁.toks + 1 + 1 } : Shared).heap.objs.size = I
  replace hI : H.objs.size = I := hI
  have hIn : H.get? I = none := hI ▸ get_size _
  have hne : ∀ p ∈ hid, p.1 ≠ I := fun p hp e => by
    have := (F₁.hid p hp).1
    rw [e] at this
    change H.get? I = _ at this
    rw [hIn] at this; cases this
  generalize hoI : ({ cls := .type "range_iterator", data := .fields #[rawInt 0, rawInt (n : Int), rawInt 1] } : Obj) = oI
  have hgI : (H.push oI).get? I = some oI := by rw [← hI]; exact Heap.get?_push_size _ (by rw [← hoI]; rfl)
  have F₂ := F₁.hide (keeps_mk { s₁ with heap := H, toks := s₁.toks + 1 + 1 } (t := s₁.toks + 1 + 1) (Le.push H oI)) hIn hgI
  refine for_walks (oI := oI) (Walks.range hh I 0 1 n) (fun b hb => .inl (List.mem_singleton.mp hb)) (fun i h st => ⟨_, st⟩) (F₂.drop fun p hp => ?_) hne ?_ J h0 (fun i v g₁ hid₁ vs₁ oi s₁ P hPn hPr hi hP => ?_) done hk hok hfx
  · rcases List.mem_append.mp hp with h | h
    · exact List.mem_cons_of_mem _ h
    · rw [List.mem_singleton.mp h]; exact List.mem_cons_self
  · show IsRangeIter (H.push oI) I _ _ _
    simp only [Int.natCast_zero, Int.zero_mul, Int.add_zero, Int.sub_zero, Int.mul_one, Int.zero_add]
    show (H.push oI).get? I = some _
    rw [hgI, ← hoI]
  · obtain ⟨t, rfl⟩ := hP
    simp only [Int.mul_one, Int.zero_add]
    exact step I i t g₁ hid₁ vs₁ oi s₁ P hPn hPr hi
end Mine

-- part: Disp
set_option maxHeartbeats 4000000
namespace Mine
open PySem PySem.W PyProof.Rows
variable {prog : Program} {w : World} {A : Around} {E : Value → Shared → Prop}

noncomputable def PairsAre : List (Value × Value) → IC → Prop := Paired fun kv p => (∃ t, kv.1 = .str p.1 t) ∧ ∃ t, kv.2 = .int p.2 t
theorem PairsAre.keys {vs c} (h : PairsAre vs c) : allStrKeys vs = true ∧ Tied (PySem.strPairs vs) c := by
  induction h with
  | nil => exact ⟨rfl, .nil⟩
  | @cons kv p l1 l2 h _ ih =>
    obtain ⟨k, v⟩ := kv
    obtain ⟨⟨t, ht⟩, u, hu⟩ := h
    dsimp only at ht hu
    subst ht hu
    exact ⟨ih.1, .cons ⟨rfl, u, rfl⟩ ih.2⟩

theorem disp_id {s : Shared} {env : Env} {keys : List (Option Expr)} {values : List Expr} {pos : Pos} {c : IC} {Q : Value → Shared → Prop} (B : Bs w s.heap)
    (hp : ∀ Q' s₁, Keeps s s₁ → (∀ vs s₂, Keeps s₁ s₂ → PairsAre vs c → Q' vs s₂) → wpAny (model prog w) A (evalPairs (pairTrees keys values env pos)) Q' E s₁) (hn : (c.map (·.1)).Nodup)
    (hQ : ∀ d s', Keeps s s' → s.heap.get? d = none → ID prog w s'.heap d c → Q (.ref d) s')
    (hall : keys.all (·.isSome) = true := by rfl) (hl : keys.length = values.length := by rfl) (h0 : keys ≠ [] := by simp) (hlen : keys.length ≤ 15 := by decide) :
    wpAny (model prog w) A (eval (.Dict keys values pos) env) Q E s := by
  refine wpAny_Dict_walk (knd := strKind prog w) hall hl h0 hlen (hp _ _ (keeps_mk _ (Le.push _ _)) fun vs s₂ k hv => ?_)
  obtain ⟨h1, h2⟩ := hv.keys
  have hdn : s.heap.get? s.heap.objs.size = none := get_size _
  refine PySem.display_done_str h1 (by rw [h2.keys]; exact hn) ((Heap.DictOf.new s.heap).keep (keeps_le k)) fun h' hd hs => hQ _ _ ?_ hdn ⟨B.notMods hdn, _, hd, h2⟩
  obtain ⟨h₂, t₂, rfl, k⟩ := k
  refine ⟨h', _, rfl, fun b o e => hs.extBut b o (by rintro rfl; rw [hdn] at e; cases e) (k b o (Heap.get?_push_of_some _ e))⟩
end Mine

-- part: Comp3
set_option maxHeartbeats 4000000
namespace Mine
open PySem PySem.W PyProof.Rows
variable {prog : Program} {w : World} {A : Around} {E : Value → Shared → Prop}

theorem lcL {α : Type} {s : Shared} {env : Env} {vs : List (Str × Value)} {elt iter : Expr} {x : Str} {px : Pos} {ifs : List Expr} {scope : Scope} {cl : List (Str × Addr)} {pos : Pos} {Q : Value → Shared → Prop}
    (xs : List α) (rel : α → Value → Prop) (pr : α → Bool) (Fe : Heap → α → Value → Prop) (cap : List (Str × Value)) (R : Rd env vs s.heap)
    (hclos : closureFor scope env = pure cl) (hcap : Cap env vs cl scope cap)
    (h : wpAny (model prog w) A (eval iter env) (fun xv s₁ => wpAny (model prog w) A (pyIter xv) (fun it s₂ => Src prog w A xs rel s s₂ it) E s₁) E s)
    (tests : ∀ a ∈ xs, ∀ C v s₃ E', rel a v → Le s.heap s₃.heap → Rd (compEnvC scope cl C env) ((x, v) :: cap) s₃.heap → Tests prog w A ifs (compEnvC scope cl C env) (fun ok s₄ => ok = pr a ∧ Keeps s₃ s₄) E' s₃)
    (elts : ∀ a ∈ xs, pr a = true → ∀ C v s₃ E', rel a v → Le s.heap s₃.heap → Rd (compEnvC scope cl C env) ((x, v) :: cap) s₃.heap → wpAny (model prog w) A (eval elt (compEnvC scope cl C env)) (fun y s₄ => Keeps s₃ s₄ ∧ ∀ g, Fresh s₃.heap s₄.heap g → Fe g a y) E' s₃)
    (hQ : ∀ D s' ys, Keeps s s' → s.heap.get? D = none → s'.heap.IsList D ys → (∀ g, Fresh s.heap s'.heap g → Paired (Fe g) (xs.filter pr) ys.toList) → Q (.ref D) s')
    (hcell : (scope.names.all fun y => y.2 != .cell) = true := by rfl) (hkind : scope.kind = .function := by rfl)
    (hnames : (scope.names.all fun y => y.2 != .local || scope.names.lookup y.1 == some .local) = true := by rfl) (hx : scope.names.lookup x = some .local := by rfl)
    (hs : ∀ x, foldedSetIterable iter env x = pure x := by intro _; rfl) :
    wpAny (model prog w) A (eval (.ListComp elt [⟨.Name x px, iter, ifs, 0⟩] scope pos) env) Q E s :=
  lcE xs rel pr Fe (open_local hcell hkind hx) hclos h (fun a ha C cl' Has v s₃ E' hG hr hle hH => by
      obtain ⟨rfl, hG⟩ := hG
      obtain ⟨m, hm, hv⟩ := hG v _ hH
      exact tests a ha C v s₃ E' hr hle (rd_comp R hcap hle hm hv hx))
    (fun a ha hp C cl' Has v s₃ E' hG hr hle hH => by
      obtain ⟨rfl, hG⟩ := hG
      obtain ⟨m, hm, hv⟩ := hG v _ hH
      exact elts a ha hp C v s₃ E' hr hle (rd_comp R hcap hle hm hv hx))
    hQ hkind hnames hs

theorem lc {α : Type} {s : Shared} {env : Env} {vs : List (Str × Value)} {elt iter : Expr} {x : Str} {px : Pos} {ifs : List Expr} {scope : Scope} {cl : List (Str × Addr)} {pos : Pos} {Q : Value → Shared → Prop}
    (xs : List α) (rel : α → Value → Prop) (pr : α → Bool) (Fe : α → Value → Prop) (cap : List (Str × Value)) (R : Rd env vs s.heap) (hrel : ∀ a ∈ xs, ∀ b ∈ xs, ∀ v, rel a v → rel b v → a = b)
    (hclos : closureFor scope env = pure cl) (hcap : Cap env vs cl scope cap)
    (h : wpAny (model prog w) A (eval iter env) (fun xv s₁ => wpAny (model prog w) A (pyIter xv) (fun it s₂ => Src prog w A xs rel s s₂ it) E s₁) E s)
    (tests : ∀ a ∈ xs, ∀ C v s₃ E', rel a v → Le s.heap s₃.heap → Rd (compEnvC scope cl C env) ((x, v) :: cap) s₃.heap → Tests prog w A ifs (compEnvC scope cl C env) (fun ok s₄ => ok = pr a ∧ Keeps s₃ s₄) E' s₃)
    (elts : ∀ a ∈ xs, pr a = true → ∀ C v s₃ E', rel a v → Le s.heap s₃.heap → Rd (compEnvC scope cl C env) ((x, v) :: cap) s₃.heap → wpAny (model prog w) A (eval elt (compEnvC scope cl C env)) (fun y s₄ => Fe a y ∧ Keeps s₃ s₄) E' s₃)
    (hQ : ∀ D s' ys, Keeps s s' → s.heap.get? D = none → s'.heap.IsList D ys → Paired Fe (xs.filter pr) ys.toList → Q (.ref D) s')
    (hcell : (scope.names.all fun y => y.2 != .cell) = true := by rfl) (hkind : scope.kind = .function := by rfl)
    (hnames : (scope.names.all fun y => y.2 != .local || scope.names.lookup y.1 == some .local) = true := by rfl) (hx : scope.names.lookup x = some .local := by rfl)
    (hs : ∀ x, foldedSetIterable iter env x = pure x := by intro _; rfl) :
    wpAny (model prog w) A (eval (.ListComp elt [⟨.Name x px, iter, ifs, 0⟩] scope pos) env) Q E s :=
  lcL xs rel pr (fun _ a y => Fe a y) cap R hclos hcap h tests (fun a ha hp C v s₃ E' hr hle R' => wpAny_mono (elts a ha hp C v s₃ E' hr hle R') (fun y s₄ h₄ => ⟨h₄.2, fun _ _ => h₄.1⟩) fun _ _ e => e)
    (fun D s' ys k hD hl hF => hQ D s' ys k hD hl (hF s'.heap fun b o _ e => e)) hcell hkind hnames hx hs

theorem lcC {α : Type} {s : Shared} {env : Env} {vs : List (Str × Value)} {elt iter : Expr} {x : Str} {px : Pos} {ifs : List Expr} {scope : Scope} {cl : List (Str × Addr)} {pos : Pos} {Q : Value → Shared → Prop}
    (xs : List α) (rel : α → Value → Prop) (pr : α → Bool) (Fe : Heap → α → Value → Prop) (cap : List (Str × Value)) (R : Rd env vs s.heap)
    (hclos : closureFor scope env = pure cl) (hcap : Cap env vs cl scope cap)
    (h : wpAny (model prog w) A (eval iter env) (fun xv s₁ => wpAny (model prog w) A (pyIter xv) (fun it s₂ => Src prog w A xs rel s s₂ it) E s₁) E s)
    (tests : ∀ a ∈ xs, ∀ C c v s₃ E', rel a v → Le s.heap s₃.heap → Rd (compEnvC scope ((x, c) :: cl) C env) ((x, v) :: cap) s₃.heap → Tests prog w A ifs (compEnvC scope ((x, c) :: cl) C env) (fun ok s₄ => ok = pr a ∧ Keeps s₃ s₄) E' s₃)
    (elts : ∀ a ∈ xs, pr a = true → ∀ C c v s₃ E', rel a v → Le s.heap s₃.heap → Rd (compEnvC scope ((x, c) :: cl) C env) ((x, v) :: cap) s₃.heap → wpAny (model prog w) A (eval elt (compEnvC scope ((x, c) :: cl) C env)) (fun y s₄ => Keeps s₃ s₄ ∧ ∀ g, Fresh s₃.heap s₄.heap g → Fe g a y) E' s₃)
    (hQ : ∀ D s' ys, Keeps s s' → s.heap.get? D = none → s'.heap.IsList D ys → (∀ g, Fresh s.heap s'.heap g → Paired (Fe g) (xs.filter pr) ys.toList) → Q (.ref D) s')
    (hcf : ∀ k acc, cellsFrom k scope.names acc = (x, k) :: acc := by intro _ _; rfl) (hpc : ∀ h, pushCells h scope.names = h.push { cls := .type "cell", data := .cell none } := by intro _; rfl) (hkind : scope.kind = .function := by rfl)
    (hnames : (scope.names.all fun y => y.2 != .local || scope.names.lookup y.1 == some .local) = true := by rfl) (hx : ∀ cl C, (compEnvC scope cl C env).kindOf x = some .cell := by intro _ _; rfl)
    (hs : ∀ x, foldedSetIterable iter env x = pure x := by intro _; rfl) :
    wpAny (model prog w) A (eval (.ListComp elt [⟨.Name x px, iter, ifs, 0⟩] scope pos) env) Q E s :=
  lcE xs rel pr Fe (open_cell hcf hpc hkind hx) hclos h (fun a ha C cl' Has v s₃ E' hG hr hle hH => by
      obtain ⟨c, rfl, hG⟩ := hG
      obtain ⟨hm, hv⟩ := hG v _ hH
      exact tests a ha C c v s₃ E' hr hle (rd_compC R hcap hle hm hv (hx _ _)))
    (fun a ha hp C cl' Has v s₃ E' hG hr hle hH => by
      obtain ⟨c, rfl, hG⟩ := hG
      obtain ⟨hm, hv⟩ := hG v _ hH
      exact elts a ha hp C c v s₃ E' hr hle (rd_compC R hcap hle hm hv (hx _ _)))
    hQ hkind hnames hs

theorem dc {α : Type} {s : Shared} {env : Env} {vs : List (Str × Value)} {kx vx iter : Expr} {x : Str} {px : Pos} {ifs : List Expr} {scope : Scope} {cl : List (Str × Addr)} {pos : Pos} {Q : Value → Shared → Prop} (B : Bs w s.heap)
    (xs : List α) (rel : α → Value → Prop) (pr : α → Bool) (fk : α → Str) (fv : α → Int) (cap : List (Str × Value)) (R : Rd env vs s.heap) (hrel : ∀ a ∈ xs, ∀ b ∈ xs, ∀ v, rel a v → rel b v → a = b)
    (hclos : closureFor scope env = pure cl) (hcap : Cap env vs cl scope cap)
    (h : wpAny (model prog w) A (eval iter env) (fun xv s₁ => wpAny (model prog w) A (pyIter xv) (fun it s₂ => Src prog w A xs rel s s₂ it) E s₁) E s)
    (tests : ∀ a ∈ xs, ∀ C v s₃ E', rel a v → Le s.heap s₃.heap → Rd (compEnvC scope cl C env) ((x, v) :: cap) s₃.heap → Tests prog w A ifs (compEnvC scope cl C env) (fun ok s₄ => ok = pr a ∧ Keeps s₃ s₄) E' s₃)
    (keys : ∀ a ∈ xs, pr a = true → ∀ C v s₃ E', rel a v → Le s.heap s₃.heap → Rd (compEnvC scope cl C env) ((x, v) :: cap) s₃.heap → wpAny (model prog w) A (eval kx (compEnvC scope cl C env)) (fun y s₄ => (∃ t, y = .str (fk a) t) ∧ Keeps s₃ s₄) E' s₃)
    (vals : ∀ a ∈ xs, pr a = true → ∀ C v s₃ E', rel a v → Le s.heap s₃.heap → Rd (compEnvC scope cl C env) ((x, v) :: cap) s₃.heap → wpAny (model prog w) A (eval vx (compEnvC scope cl C env)) (fun y s₄ => (∃ t, y = .int (fv a) t) ∧ Keeps s₃ s₄) E' s₃)
    (hQ : ∀ D s', Keeps s s' → s.heap.get? D = none → ID prog w s'.heap D (foldC fk fv (xs.filter pr)) → Q (.ref D) s')
    (hcell : (scope.names.all fun y => y.2 != .cell) = true := by rfl) (hkind : scope.kind = .function := by rfl)
    (hnames : (scope.names.all fun y => y.2 != .local || scope.names.lookup y.1 == some .local) = true := by rfl) (hx : scope.names.lookup x = some .local := by rfl)
    (hs : ∀ x, foldedSetIterable iter env x = pure x := by intro _; rfl) :
    wpAny (model prog w) A (eval (.DictComp kx vx [⟨.Name x px, iter, ifs, 0⟩] scope pos) env) Q E s :=
  dc_gen B xs rel pr fk fv hrel hclos h (fun a ha C v s₃ m₃ E' hr k hn hm => tests a ha C v s₃ E' hr k (rd_comp R hcap k hn hm hx))
    (fun a ha hp C v s₃ m₃ E' hr k hn hm => keys a ha hp C v s₃ E' hr k (rd_comp R hcap k hn hm hx))
    (fun a ha hp C v s₃ m₃ E' hr k hn hm => vals a ha hp C v s₃ E' hr k (rd_comp R hcap k hn hm hx)) hQ hcell hkind hnames hx hs

theorem lcA {α : Type} {s₀ s : Shared} {g : Heap} {hid : List (Addr × Obj)} {vs : List (Str × Value)} {env : Env} {elt iter : Expr} {x y : Str} {px py : Pos} {ifs : List Expr} {scope : Scope} {cl : List (Str × Addr)} {pos spos : Pos} {Q : Flow → Shared → Prop}
    (F : Fv env s₀ g hid vs s)
    (xs : List α) (rel : α → Value → Prop) (pr : α → Bool) (Fe : α → Value → Prop) (cap : List (Str × Value)) (hrel : ∀ a ∈ xs, ∀ b ∈ xs, ∀ v, rel a v → rel b v → a = b)
    (hclos : closureFor scope env = pure cl) (hcap : Cap env vs cl scope cap)
    (h : wpAny (model prog w) A (eval iter env) (fun xv s₁ => wpAny (model prog w) A (pyIter xv) (fun it s₂ => Src prog w A xs rel s s₂ it) E s₁) E s)
    (tests : ∀ a ∈ xs, ∀ C v s₃ E', rel a v → Le s.heap s₃.heap → Rd (compEnvC scope cl C env) ((x, v) :: cap) s₃.heap → Tests prog w A ifs (compEnvC scope cl C env) (fun ok s₄ => ok = pr a ∧ Keeps s₃ s₄) E' s₃)
    (elts : ∀ a ∈ xs, pr a = true → ∀ C v s₃ E', rel a v → Le s.heap s₃.heap → Rd (compEnvC scope cl C env) ((x, v) :: cap) s₃.heap → wpAny (model prog w) A (eval elt (compEnvC scope cl C env)) (fun y s₄ => Fe a y ∧ Keeps s₃ s₄) E' s₃)
    (hQ : ∀ D s' ys g', Fv env s₀ g' hid ((y, .ref D) :: vs) s' → Le g g' → g'.IsList D ys → Paired Fe (xs.filter pr) ys.toList → Q .next s')
    (hsw : swapsWith (.ListComp elt [⟨.Name x px, iter, ifs, 0⟩] scope pos) (some (.Name y py)) spos.line env = pure true := by rfl)
    (hcell : (scope.names.all fun y => y.2 != .cell) = true := by rfl) (hkind : scope.kind = .function := by rfl)
    (hnames : (scope.names.all fun y => y.2 != .local || scope.names.lookup y.1 == some .local) = true := by rfl) (hx : scope.names.lookup x = some .local := by rfl)
    (hy : env.kindOf y = some .local := by rfl) (hk : env.scope.kind = .function := by rfl)
    (hs : ∀ x, foldedSetIterable iter env x = pure x := by intro _; rfl) :
    wpAny (model prog w) A (exec (.Assign [.Name y py] (.ListComp elt [⟨.Name x px, iter, ifs, 0⟩] scope pos) spos) env) Q E s :=
  lcF F xs rel pr Fe (open_local hcell hkind hx) hclos h (fun a ha C cl' Has v s₃ E' hG hr hle hH => by
      obtain ⟨rfl, hG⟩ := hG
      obtain ⟨m, hm, hv⟩ := hG v _ hH
      exact tests a ha C v s₃ E' hr hle (rd_comp F.rd hcap hle hm hv hx))
    (fun a ha hp C cl' Has v s₃ E' hG hr hle hH => by
      obtain ⟨rfl, hG⟩ := hG
      obtain ⟨m, hm, hv⟩ := hG v _ hH
      exact elts a ha hp C v s₃ E' hr hle (rd_comp F.rd hcap hle hm hv hx))
    hQ hk (by unfold kOk; rw [hy]) (by rw [hy]; rfl) hsw hkind hnames hs

theorem lcCA {α : Type} {s₀ s : Shared} {g : Heap} {hid : List (Addr × Obj)} {env : Env} {vs : List (Str × Value)} {elt iter : Expr} {x y : Str} {px py : Pos} {ifs : List Expr} {scope : Scope} {cl : List (Str × Addr)} {pos spos : Pos} {Q : Flow → Shared → Prop}
    (F : Fv env s₀ g hid vs s)
    (xs : List α) (rel : α → Value → Prop) (pr : α → Bool) (Fe : α → Value → Prop) (cap : List (Str × Value))
    (hclos : closureFor scope env = pure cl) (hcap : Cap env vs cl scope cap)
    (h : wpAny (model prog w) A (eval iter env) (fun xv s₁ => wpAny (model prog w) A (pyIter xv) (fun it s₂ => Src prog w A xs rel s s₂ it) E s₁) E s)
    (tests : ∀ a ∈ xs, ∀ C c v s₃ E', rel a v → Le s.heap s₃.heap → Rd (compEnvC scope ((x, c) :: cl) C env) ((x, v) :: cap) s₃.heap → Tests prog w A ifs (compEnvC scope ((x, c) :: cl) C env) (fun ok s₄ => ok = pr a ∧ Keeps s₃ s₄) E' s₃)
    (elts : ∀ a ∈ xs, pr a = true → ∀ C c v s₃ E', rel a v → Le s.heap s₃.heap → Rd (compEnvC scope ((x, c) :: cl) C env) ((x, v) :: cap) s₃.heap → wpAny (model prog w) A (eval elt (compEnvC scope ((x, c) :: cl) C env)) (fun y s₄ => Fe a y ∧ Keeps s₃ s₄) E' s₃)
    (hQ : ∀ D s' ys g', Fv env s₀ g' hid ((y, .ref D) :: vs) s' → Le g g' → g'.IsList D ys → Paired Fe (xs.filter pr) ys.toList → Q .next s')
    (hyk : env.scope.kind = .function := by rfl) (hyo : kOk env y = true := by rfl) (hyf : (env.kindOf y == some .free) = false := by rfl)
    (hsw : swapsWith (.ListComp elt [⟨.Name x px, iter, ifs, 0⟩] scope pos) (some (.Name y py)) spos.line env = pure true := by rfl)
    (hcf : ∀ k acc, cellsFrom k scope.names acc = (x, k) :: acc := by intro _ _; rfl) (hpc : ∀ h, pushCells h scope.names = h.push { cls := .type "cell", data := .cell none } := by intro _; rfl) (hkind : scope.kind = .function := by rfl)
    (hnames : (scope.names.all fun y => y.2 != .local || scope.names.lookup y.1 == some .local) = true := by rfl) (hx : ∀ cl C, (compEnvC scope cl C env).kindOf x = some .cell := by intro _ _; rfl)
    (hs : ∀ x, foldedSetIterable iter env x = pure x := by intro _; rfl) :
    wpAny (model prog w) A (exec (.Assign [.Name y py] (.ListComp elt [⟨.Name x px, iter, ifs, 0⟩] scope pos) spos) env) Q E s :=
  lcF F xs rel pr Fe (open_cell hcf hpc hkind hx) hclos h (fun a ha C cl' Has v s₃ E' hG hr hle hH => by
      obtain ⟨c, rfl, hG⟩ := hG
      obtain ⟨hm, hv⟩ := hG v _ hH
      exact tests a ha C c v s₃ E' hr hle (rd_compC F.rd hcap hle hm hv (hx _ _)))
    (fun a ha hp C cl' Has v s₃ E' hG hr hle hH => by
      obtain ⟨c, rfl, hG⟩ := hG
      obtain ⟨hm, hv⟩ := hG v _ hH
      exact elts a ha hp C c v s₃ E' hr hle (rd_compC F.rd hcap hle hm hv (hx _ _)))
    hQ hyk hyo hyf hsw hkind hnames hs

/-- a test that is none -/
theorem no_test {env : Env} {s : Shared} {E : Value → Shared → Prop} : Tests prog w A [] env (fun ok s₄ => ok = true ∧ Keeps s s₄) E s := wpAny_tests_nil ⟨rfl, keeps_refl _⟩
theorem keys_inj : ∀ (xs : List Str), ∀ a ∈ xs, ∀ b ∈ xs, ∀ v : Value, (∃ t, v = .str a t) → (∃ t, v = .str b t) → a = b := by
  rintro _ a _ b _ v ⟨t, rfl⟩ ⟨u, h⟩; injection h
theorem nats_inj : ∀ (xs : List Nat), ∀ a ∈ xs, ∀ b ∈ xs, ∀ v : Value, (∃ t, v = .int (a : Int) t) → (∃ t, v = .int (b : Int) t) → a = b := by
  rintro _ a _ b _ v ⟨t, rfl⟩ ⟨u, h⟩; injection h with h; exact Int.ofNat.inj h
theorem id_new {s s' : Shared} {g' : Heap} {d : Addr} {c : IC} (x : ID prog w s'.heap d c) (hf : s.heap.get? d = none) (n : ∀ b o, s.heap.get? b = none → s'.heap.get? b = some o → g'.get? b = some o) : ID prog w g' d c := x.at fun o e => n d o hf e
end Mine

-- part: FSet2
set_option maxHeartbeats 4000000
namespace Mine
open PySem PySem.W PyProof.Rows
variable {prog : Program} {w : World} {A : Around} {E : Value → Shared → Prop}

structure OkCfg (c : Cfg) (ags : List Str) : Prop where
  ok : ∀ k, c.okW k = true → k.length ≤ 20 ∧ ∃ p r, Txt.split (strT "*" ++ Txt.upper k ++ strT "./abcba/") (strT "/") = p :: r ∧
    (Builtin.Str.partsBetween (strT "*" ++ Txt.upper k ++ strT "./abcba/") (Builtin.Str.occurrences (strT "*" ++ Txt.upper k ++ strT "./abcba/") (strT "/") 0 (strT "*" ++ Txt.upper k ++ strT "./abcba/").length ((strT "*" ++ Txt.upper k ++ strT "./abcba/").length + 1)) (strT "/").length).length ≤ sizeLine ∧
    p.length ≤ 1000 ∧ apB ags p = c.apW k
  rule : ∀ p ∈ c.rl, ∀ q ∈ p.2, q.1.length ≤ 20 ∧ Builtin.Int.intBits q.2 ≤ 64
  len : ∀ p ∈ c.rl, p.2.length ≤ 100
  ags : ∀ a ∈ ags, a.length ≤ 1000

inductive SetJ (prog : Program) (w : World) (c : Cfg) (aR b : Addr) (S' : IC) (i : Nat) (g : Heap) (hid : List (Addr × Obj)) (vs : List (Str × Value)) : Prop
  | mk (W S F : IC) (aW aS aF : Addr) (e : hid = []) (iw : ID prog w g aW W) (is : ID prog w g aS S) (iff : ID prog w g aF F) (hr : run c (200 - i) W S F = some S')
    (vw : vs.lookup (strT "waiting") = some (.ref aW)) (vs' : vs.lookup (strT "settled") = some (.ref aS)) (vf : vs.lookup (strT "fresh") = some (.ref aF))
    (vr : vs.lookup (strT "rules") = some (.ref aR)) (vb : vs.lookup (strT "book") = some (.ref b)) (vl : vs.lookup (strT "last") = some (.bool c.last))

theorem Rd.ld' {M : Model} {env : Env} {vs : List (Str × Value)} {s : Shared} {h : Heap} {x : Str} {pos : Pos} {v : Value} {Q : Value → Shared → Prop} (R : Rd env vs h) (hv : vs.lookup x = some v) (hq : Q v s) (hs : s.heap = h := by rfl) (hk : env.scope.kind = .function := by rfl) (ho : kOk env x = true := by rfl)
    (hd : (x == ("__debug__" : Str)) = false := by decide) : wpAny M A (eval (.Name x pos) env) Q E s := by subst hs; exact R.ld hv hq hk ho hd

theorem in_sl {s : Shared} {l : Addr} {ss : List Str} {k : Str} {t : Tok} {Q : Value → Shared → Prop} (x : SL s.heap l ss) (h : Q (.bool (isIn ss k)) s) : wpAny (model prog w) A (compareOp .In (.str k t) (.ref l)) Q E s := by
  obtain ⟨items, hl, hp⟩ := x
  exact in_list_strs (vs := items.toList) (by simpa using hl) (paired_strs hp) h
theorem notIn_sl {s : Shared} {l : Addr} {ss : List Str} {k : Str} {t : Tok} {Q : Value → Shared → Prop} (x : SL s.heap l ss) (h : Q (.bool (!isIn ss k)) s) : wpAny (model prog w) A (compareOp .NotIn (.str k t) (.ref l)) Q E s := by
  obtain ⟨items, hl, hp⟩ := x
  exact notin_list_strs (vs := items.toList) (by simpa using hl) (paired_strs hp) h
theorem list_new {s s' : Shared} {g' : Heap} {d : Addr} {items : Array Value} (x : s'.heap.IsList d items) (hf : s.heap.get? d = none) (n : ∀ b o, s.heap.get? b = none → s'.heap.get? b = some o → g'.get? b = some o) : g'.IsList d items := x.at fun o e => n d o hf e
theorem getC_key {c : IC} {k : Str} (h : k ∈ c.map (·.1)) : getC c k = some ((getC c k).getD 0) := by
  have : hasC c k = true := by
    obtain ⟨p, hp, rfl⟩ := List.mem_map.mp h
    exact List.any_eq_true.mpr ⟨p, hp, by simp⟩
  rw [hasC_get] at this
  obtain ⟨i, hi⟩ := Option.isSome_iff_exists.mp this
  rw [hi]; rfl

theorem keys_putC {c : IC} {k : Str} {v : Int} {z : Str} (h : z ∈ (putC c k v).map (·.1)) : z ∈ c.map (·.1) ∨ z = k := by
  unfold putC at h
  split at h
  · left
    obtain ⟨p, hp, rfl⟩ := List.mem_map.mp h
    obtain ⟨q, hq, rfl⟩ := List.mem_map.mp hp
    refine List.mem_map.mpr ⟨q, hq, ?_⟩
    by_cases e : q.1 = k <;> simp [e]
  · rw [List.map_append, List.mem_append] at h
    rcases h with h | h
    · exact .inl h
    · right; simpa using h
theorem keys_addC {t u : IC} {z : Str} (h : z ∈ (addC t u).map (·.1)) : z ∈ t.map (·.1) ∨ z ∈ u.map (·.1) := by
  have h1 : ∀ (l a : IC), z ∈ (l.foldl putP a).map (·.1) → z ∈ a.map (·.1) ∨ z ∈ l.map (·.1) := by
    intro l
    induction l with
    | nil => intro a h; exact .inl h
    | cons p l ih =>
      intro a h
      rcases ih _ h with h | h
      · rcases keys_putC h with h | h
        · exact .inl h
        · exact .inr (h ▸ List.mem_map.mpr ⟨p, List.mem_cons_self, rfl⟩)
      · exact .inr (List.mem_cons_of_mem _ h)
  have h2 : ∀ (l a : IC), z ∈ (l.foldl addStep a).map (·.1) → z ∈ a.map (·.1) ∨ z ∈ l.map (·.1) := by
    intro l
    induction l with
    | nil => intro a h; exact .inl h
    | cons p l ih =>
      intro a h
      rcases ih _ h with h | h
      · rcases keys_putC h with h | h
        · exact .inl h
        · exact .inr (h ▸ List.mem_map.mpr ⟨p, List.mem_cons_self, rfl⟩)
      · exact .inr (List.mem_cons_of_mem _ h)
  rcases h2 _ _ h with h | h
  · rcases h1 _ _ h with h | h
    · cases h
    · exact .inl h
  · exact .inr h
theorem addC_length (t u : IC) : (addC t u).length ≤ t.length + u.length := by
  have h1 := addU_length u (t.foldl putP [])
  have h2 := addT_length t []
  simp only [List.length_nil] at h2
  unfold addC; omega
theorem paired_map {α β γ : Type} {f : α → β} {rel : β → γ → Prop} {xs : List α} {vs : List γ} (h : Paired (fun a v => rel (f a) v) xs vs) : Paired rel (xs.map f) vs := by
  induction h with
  | nil => exact .nil
  | cons h _ ih => exact .cons h ih
theorem eq_empty {s : Shared} {a : Addr} {c : IC} {Q : Value → Shared → Prop} (hs : (s.heap.objs.size == sysModules) = false) (x : ID prog w s.heap a c) (hu : A.units < cLine)
    (h : ∀ s', Keeps s s' → Q (.bool (decide (c = []))) s') :
    wpAny (model prog w) A (compareOp .Eq (.ref a) (.ref s.heap.objs.size)) Q E { s with heap := s.heap.push { cls := .type "dict", data := .dict #[] } } := by
  obtain ⟨hs1, kvs, hd, ht⟩ := x
  refine keq_eq (knd := strKind prog w) (r := true) hs1 hs (hd.keep (Le.push _ _)) (Heap.DictOf.new s.heap) hu (fun e => ?_) ?_
  · rw [List.eq_nil_of_length_eq_zero e]; exact .nil
  · have e : (kvs.length == ([] : List (Str × Value)).length && true) = decide (c = []) := by
      rw [ht.length]
      cases c <;> simp
    rw [e]
    exact h _ (keeps_mk _ (Le.push _ _))

noncomputable def PartIs : Option Int → Value → Prop
  | none, v => v = .none
  | some i, v => ∃ t, v = .int i t
theorem slice_ok' {s : Shared} {env : Env} {value : Expr} {lower upper : Option Expr} {p pos : Pos} {x : Str} {tx : Tok} {l u : Option Int} {Q : Value → Shared → Prop} (hsz : x.length ≤ sizeLine)
    (hv : ∀ Q', (∀ s', Keeps s s' → Q' (.str x tx) s') → wpAny (model prog w) A (eval value env) Q' E s)
    (hl : ∀ Q' s₁, Keeps s s₁ → (∀ v s', Keeps s s' → PartIs l v → Q' v s') → wpAny (model prog w) A (evalPart lower env) Q' E s₁)
    (hu : ∀ Q' s₁, Keeps s s₁ → (∀ v s', Keeps s s' → PartIs u v → Q' v s') → wpAny (model prog w) A (evalPart upper env) Q' E s₁)
    (h : ∀ t' s', Keeps s s' → Q (.str (Txt.slice x l u) t') s')
    (ht : ∀ o r, letTemporaryGo value o r = pure () := by intro _ _; rfl) :
    wpAny (model prog w) A (eval (.Subscript value (.Slice lower upper none p) pos) env) Q E s := by
  refine wpAny_Subscript_str_slice (hv _ fun s₁ k₁ => hl _ s₁ k₁ fun vl s₂ k₂ p₂ => hu _ s₂ k₂ fun vu s₃ k₃ p₃ => ?_) ht
  have key : ∃ (l' u' : Option (Int × Tok)), vl = partValue l' ∧ vu = partValue u' ∧ l'.map (·.1) = l ∧ u'.map (·.1) = u := by
    cases l with
    | none =>
      cases u with
      | none => exact ⟨none, none, p₂, p₃, rfl, rfl⟩
      | some j => obtain ⟨t, e⟩ := p₃; exact ⟨none, some (j, t), p₂, e, rfl, rfl⟩
    | some i =>
      obtain ⟨t, e⟩ := p₂
      cases u with
      | none => exact ⟨some (i, t), none, e, p₃, rfl, rfl⟩
      | some j => obtain ⟨t', e'⟩ := p₃; exact ⟨some (i, t), some (j, t'), e, e', rfl, rfl⟩
  obtain ⟨l', u', e1, e2, rfl, rfl⟩ := key
  exact ⟨x, tx, l', u', rfl, e1, e2, slice_post hsz fun t' k => h t' _ (keeps_trans k₃ (keeps_mk _ (Le.push _ _)))⟩

theorem in_rules {s : Shared} {a : Addr} {rl : List (Str × IC)} {k : Str} {tk : Tok} {Q : Value → Shared → Prop} (x : RulesAt prog w s.heap a rl) (h : ∀ s', Keeps s s' → Q (.bool (lookR rl k).isSome) s') :
    wpAny (model prog w) A (compareOp .In (.str k tk) (.ref a)) Q E s := by
  obtain ⟨hs, kvs, hd, hp⟩ := x
  refine wpAny_in_of (strKind_is _ _ _ _) hs hd.mapOf ?_
  have e : (valueAt kvs k).isSome = (lookR rl k).isSome := by
    rcases rules_at hp k with ⟨r, d, h1, h2, _⟩ | ⟨h1, h2⟩ <;> rw [h1, h2] <;> rfl
  rw [e]; exact h _ (keeps_tok _ _)
theorem sub_rules {s : Shared} {h₀ : Heap} {value slice : Expr} {a : Addr} {rl : List (Str × IC)} {k : Str} {tk : Tok} {r : IC} {Q : Value → Shared → Prop} (x : RulesAt prog w h₀ a rl) (k₀ : Le h₀ s.heap) (hk : lookR rl k = some r)
    (h : ∀ d s', Keeps s s' → ID prog w h₀ d r → (k, r) ∈ rl → Q (.ref d) s') (hs : subscripted slice false (.ref a) (.str k tk) = operate [.ref a, .str k tk] (getItem (.ref a) (.str k tk)) := by with_unfolding_all rfl) :
    wpAny (model prog w) A (subscriptTail value slice (.ref a) (.str k tk)) Q E s := by
  obtain ⟨_, kvs, hd, hp⟩ := x
  rcases rules_at hp k with ⟨r', d, h1, h2, h3, h4⟩ | ⟨h1, _⟩
  · rw [hk] at h1; cases h1
    exact sub_dict (strKind_is _ _ _ _) (hd.keep k₀) h2 (fun s' k' => h d s' k' h3 h4) hs
  · rw [hk] at h1; cases h1
theorem nats_ints {ns : List Nat} {vs : List Value} (p : Paired (fun (k : Nat) v => ∃ t, v = .int (k : Int) t) ns vs) : IntsAre vs (ns.map fun (n : Nat) => (n : Int)) := paired_ints (paired_map (rel := fun (i : Int) (v : Value) => ∃ t, v = .int i t) (f := fun (n : Nat) => (n : Int)) p)
theorem foldC_over {c : IC} (hn : (c.map (·.1)).Nodup) (fk : Str → Str) (g : Int → Int) : foldC (fun k => fk k) (fun k => g ((getC c k).getD 0)) (c.map (·.1)) = foldC (fun p => fk p.1) (fun p => g p.2) c := by
  unfold foldC
  rw [List.foldl_map]
  have : ∀ (l : IC) (acc : IC), (∀ p ∈ l, p ∈ c) → l.foldl (fun acc a => putC acc (fk a.1) (g ((getC c a.1).getD 0))) acc = l.foldl (fun acc a => putC acc (fk a.1) (g a.2)) acc := by
    intro l
    induction l with
    | nil => intros; rfl
    | cons p l ih =>
      intro acc hl
      rw [List.foldl_cons, List.foldl_cons, getC_of_mem hn (v := p.2) (hl p List.mem_cons_self)]
      exact ih _ fun q hq => hl q (List.mem_cons_of_mem _ hq)
  exact this c [] fun _ h => h

theorem kp_app (w : World) : keepIn (KK w) (.ref 49) = true := by rfl
theorem kp_add (w : World) : keepIn (KK w) (.ref 98) = true := by rfl
theorem pg_at (w : World) : plainGet (KK w) 59 (strT "applies_to") = true := by rfl
theorem fn_at (w : World) : isFn (KK w) (.ref 49) = true := by rfl

theorem settled_ok {s : Shared} {c : Cfg} {ags : List Str} {word : Str} {tw : Tok} {aR b l : Addr} {S' : IC} {Q : Value → Shared → Prop} (B : Bs w s.heap) (hA : Rm A 5) (hc : OkCfg c ags)
    (hR : RulesAt prog w s.heap aR c.rl) (hb : BookAt s.heap b l) (hl : Wd s.heap l ags) (hrun : run c 200 [] [] [(word, 1)] = some S')
    (hQ : ∀ d s', Keeps s s' → s.heap.get? d = none → ID prog w s'.heap d S' → Q (.ref d) s') : wpAny (model prog w) A (call (.ref 118) [.str word tw, .ref aR, .ref b, .bool c.last]) Q E s := by
  refine enter (binds := [(Str.ofString "word", .str word tw), (Str.ofString "rules", .ref aR), (Str.ofString "book", .ref b), (Str.ofString "last", .bool c.last)]) B hA (by rfl) (by rfl) (by rfl) (by rfl) (fun A' n Q' s₁ hD hq F => ?_)
  -- nothing = {}
  refine stm (wpAny_Assign_Name (wpAny_Dict_empty ?_))
  generalize hd : s₁.heap.objs.size = d
  have hdn : s₁.heap.get? d = none := hd ▸ get_size _
  have hdS : (d == sysModules) = false := (B.le F.keep).notMods hdn
  obtain ⟨o0, ho0, hD0⟩ := Heap.dictOf_iff.mp (Heap.DictOf.new (knd := strKind prog w) s₁.heap)
  rw [hd] at ho0
  obtain ⟨g1, F1, l1, n1⟩ := F.new (keeps_mk s₁ (t := s₁.toks) (Le.push s₁.heap _))
  have hN : ID prog w g1 d [] := ⟨hdS, [], Heap.dictOf_iff.mpr ⟨o0, n1 d o0 hdn ho0, hD0⟩, .nil⟩
  refine F1.st fun s₂ F2 => ?_
  -- waiting, settled = (nothing, nothing)
  refine stm (Assign_Tuple (PyProof.Rows.Tuple_ (args_cons (F2.ld (by rfl) (args_cons (F2.ld (by rfl) (args_nil ?_)))))))
  refine wpAny_newObj_type ?_ (by size_fits)
  have F3 := F2.mk' (t := s₂.toks) (Le.push s₂.heap ({ cls := .type "tuple", data := .seq [Value.ref d, Value.ref d].toArray } : Obj))
  refine wpAny_assign_Tuple (t := s₂.heap.objs.size) (items := #[.ref d, .ref d]) hD.hh ⟨_, Heap.get?_push_size _ rfl, rfl, _, rfl⟩ rfl rfl fun h₃ hx₃ => ?_
  have F4 := F3.mk' (h := h₃) (t := s₂.toks) (fun b o e => hx₃ b o (Nat.ne_of_lt (Heap.lt_size e)) e)
  show wpAny _ _ (do holding [.ref d] (assign (.Name _ _) _ (.ref d)); do holding [] (assign (.Name _ _) _ (.ref d)); pure ()) _ _ _
  refine wpAny_bind (wpAny_holding (wpAny_assign_Name (F4.st (fun s₄ F5 => ?_))))
  refine wpAny_bind (wpAny_holding (wpAny_assign_Name (F5.st (fun s₅ F6 => wpAny_pure ?_))))
  -- fresh = {word: 1}
  have B6 := B.le (keeps_le F6.outer)
  refine stm (wpAny_Assign_Name (disp_id (c := [(word, 1)]) B6 (fun Q' s' k q => ?_) (by simp) (fun aF s₆ k6 hf6 hI6 => ?_)))
  · have Fk := F6.keeps k
    exact pairTrees_cons_walk (Fk.ld (by rfl) (wpAny_Constant_int (pairTrees_nil_walk (q _ _ (keeps_tok _ _) (.cons ⟨⟨_, rfl⟩, _, rfl⟩ .nil)))))
  obtain ⟨g2, F7, l2, n2⟩ := F6.new k6
  have hF0 : ID prog w g2 aF [(word, 1)] := id_new hI6 hf6 n2
  refine F7.st fun s₇ F8 => ?_
  have B8 := B.le (keeps_le F8.outer)
  refine stm (for_range B8 hD.hh (n := 200) (by decide) F8 (fun Q' q => wpAny_Constant_int (q _ _ (keeps_tok _ _))) (SetJ prog w c aR b S') ⟨[], [], [(word, 1)], d, d, aF, rfl, hN.le l2, hN.le l2, hF0, hrun, rfl, rfl, rfl, rfl, rfl, rfl⟩ ?_ ?_)
  · rintro I i t g₁ hid₁ vs₁ oi s₈ P hP hPr hi hl1 ⟨W, S, Fd, aW, aS, aF, rfl, hIW, hIS, hIF, hr, vW, vS, vF, vR, vB, vL⟩ hne F9
    rw [turn_n hi] at hr
    obtain ⟨hgd, hturn⟩ := run_inv hr
    clear hr
    obtain ⟨hokF, hokW, hlen⟩ := gd_inv hgd
    have B9 := B.le (keeps_le F9.outer)
    have hnF : Fd.length ≤ sizeLine := le_line (Nat.le_trans (Nat.le_add_left _ _) (Nat.le_trans hlen (by decide)))
    -- caught
    refine stm (wpAny_Assign_Name (lc (Fd.map (·.1)) (fun k v => ∃ t, v = .str k t) (fun k => !hasC S k && c.apW k) (fun k v => ∃ t, v = .str k t) [(strT "settled", .ref aS), (strT "book", .ref b)] F9.rd (keys_inj _) (by rfl)
      (.cons (by exact vS) (by rfl) (by rfl) (by rfl) (.cons (by exact vB) (by rfl) (by rfl) (by rfl) .nil))
      (F9.ld (by exact vF) (src_id hD.hh (keeps_refl _) (hIF.le F9.keep) hnF)) ?_ ?_ ?_))
    · rintro a ha C v s₃ E' ⟨t, rfl⟩ k R
      refine wpAny_tests_one (wpAny_isTrue_BoolOp (wpAny_allTrue_And_cons (wpAny_isTrue_Compare1 (R.ld (by rfl) (R.ld (by rfl) (notIn_id ((hIS.le F9.keep).le k) fun s₄ k₄ => wpAny_truthy_bool ?_))))))
      refine ite_b (fun hS => ?_) (fun hS => ⟨by simp only [hS, Bool.false_and], k₄⟩)
      · have R4 := R.le (keeps_le k₄)
        have kk := k.trans (keeps_le k₄)
        obtain ⟨m9, fr9⟩ := (F9.mk' (t := s₈.toks) kk).fr
        have Bk := B9.le kk
        obtain ⟨p, hp, hpa⟩ := List.mem_map.mp ha
        obtain ⟨ho1, pp, rr, ho2, ho3, ho4, ho5⟩ := hc.ok a (hpa ▸ hokF p hp)
        have hbk := (hb.le (keeps_le F9.outer)).le kk
        obtain ⟨ox, es, n, Ib, hl1, hl2⟩ := hbk.at_
        have hlx := book_len ho1
        refine wpAny_allTrue_And_cons (wpAny_isTrue_Compare1 (MethodCall_ (R4.ld' (by rfl) ?_)))
        refine method_inst fr9 B.K Ib (pg_at w) (fi_at w) (fn_at w) hl2 ?_
        refine callWith_K Bk.K (kp_app w) (args_cons (wpAny_BinOp (wpAny_BinOp (wpAny_Constant_str ?_))))
        refine MethodCall_ (R4.ld' (by rfl) (GM.upper (callWith_method0 (SCL.upper (Nat.le_trans ho1 (by decide)) fun _ => ?_))))
        refine PyProof.Rows.add_str (fun t1 tk1 => wpAny_Constant_str (PyProof.Rows.add_str (fun t2 tk2 => args_nil ⟨Bk.K, ?_⟩) (book_len2 hlx))) (book_len1 hlx)
        refine applies_ok (x := strT "*" ++ Txt.upper a ++ strT "./abcba/") Bk (hD.less (by decide)) hbk ((hl.le (keeps_le F9.outer)).le kk) hlx ho2 ho3 ho4 hc.ags fun s₅ k₅ => ?_
        refine wpAny_Constant_bool (is_bool (wpAny_truthy_bool ?_))
        have k5 : Keeps s₃ s₅ := keeps_trans (keeps_trans k₄ (keeps_tok s₄ tk2)) k₅
        exact ite_b (fun hap => wpAny_allTrue_And_nil ⟨by simp only [hS, ← ho5, eq_of_beq hap, Bool.and_self], k5⟩) (fun hap => ⟨by rw [hS, ← ho5, show apB ags pp = false by simpa using hap]; rfl, k5⟩)
    · rintro a ha _ C v s₃ E' ⟨t, rfl⟩ k R
      exact R.ld (by rfl) ⟨⟨t, rfl⟩, keeps_refl _⟩
    intro aC s₁₀ ysC k10 hn10 hlC hpC
    obtain ⟨g3, F10, l3, n3⟩ := F9.new k10
    have hSLc : SL g3 aC (caughtL c S Fd) := ⟨ysC, list_new hlC hn10 n3, hpC⟩
    refine F10.st fun s₁₁ F11 => ?_
    -- waiting
    have B11 := B.le (keeps_le F11.outer)
    have hIW3 := hIW.le l3
    have hIS3 := hIS.le l3
    have hIF3 := hIF.le l3
    refine stm (wpAny_Assign_Name (wpAny_Call_NameR (B11.ld (v := .ref 98) (by rfl) ?_)))
    refine callWith_K B11.K (kp_add w) (args_cons (F11.ld (by exact vW) (args_cons (dc B11 (Fd.map (·.1)) (fun k v => ∃ t, v = .str k t) (fun k => isIn (caughtL c S Fd) k) (fun k => k) (fun k => (getC Fd k).getD 0)
      [(strT "fresh", .ref aF), (strT "caught", .ref aC)] F11.rd (keys_inj _) (by rfl) (.cons (by exact vF) (by rfl) (by rfl) (by rfl) (.cons (by rfl) (by rfl) (by rfl) (by rfl) .nil))
      (F11.ld (by exact vF) (src_id hD.hh (keeps_refl _) (hIF3.le F11.keep) hnF)) ?_ ?_ ?_ ?_))))
    · rintro a ha C v s₃ E' ⟨t, rfl⟩ k R
      exact wpAny_tests_one (wpAny_isTrue_Compare1 (R.ld (by rfl) (R.ld (by rfl) (in_sl ((hSLc.le F11.keep).le k) (wpAny_truthy_bool ⟨rfl, keeps_refl _⟩)))))
    · rintro a ha _ C v s₃ E' ⟨t, rfl⟩ k R
      exact R.ld (by rfl) ⟨⟨t, rfl⟩, keeps_refl _⟩
    · rintro a ha _ C v s₃ E' ⟨t, rfl⟩ k R
      exact Subscript_ (R.ld (by rfl) (R.ld (by rfl) (sub_id ((hIF3.le F11.keep).le k) (getC_key ha) fun t s' k' => ⟨⟨t, rfl⟩, k'⟩)))
    intro aP s₁₂ k12 hn12 hIP
    rw [foldC_filter _ _ hIF.nodup] at hIP
    refine args_nil ⟨(B11.le (keeps_le k12)).K, ?_⟩
    have F12 := F11.keeps k12
    refine add_callers_ok (B.le (keeps_le F12.outer)) (hD.less (by decide)) (hIW3.le F12.keep) hIP (gdW hlen) ?_
    intro aW1 s₁₃ k13 hn13 hIW1
    generalize hW1 : addC W (List.filter (fun p => isIn (caughtL c S Fd) p.1) Fd) = W1 at hturn hIW1
    obtain ⟨g4, F13, l4, n4⟩ := F12.new k13
    have hIW1 := id_new hIW1 hn13 n4
    refine F13.st fun s₁₄ F14 => ?_
    -- settled
    have B14 := B.le (keeps_le F14.outer)
    have hSLc := hSLc.le l4
    have hIS4 := hIS3.le l4
    have hIF4 := hIF3.le l4
    refine stm (wpAny_Assign_Name (wpAny_Call_NameR (B14.ld (v := .ref 98) (by rfl) ?_)))
    refine callWith_K B14.K (kp_add w) (args_cons (F14.ld (by exact vS) (args_cons (dc B14 (Fd.map (·.1)) (fun k v => ∃ t, v = .str k t) (fun k => !isIn (caughtL c S Fd) k) (fun k => k) (fun k => (getC Fd k).getD 0)
      [(strT "fresh", .ref aF), (strT "caught", .ref aC)] F14.rd (keys_inj _) (by rfl) (.cons (by exact vF) (by rfl) (by rfl) (by rfl) (.cons (by rfl) (by rfl) (by rfl) (by rfl) .nil))
      (F14.ld (by exact vF) (src_id hD.hh (keeps_refl _) (hIF4.le F14.keep) hnF)) ?_ ?_ ?_ ?_))))
    · rintro a ha C v s₃ E' ⟨t, rfl⟩ k R
      exact wpAny_tests_one (wpAny_isTrue_Compare1 (R.ld (by rfl) (R.ld (by rfl) (notIn_sl ((hSLc.le F14.keep).le k) (wpAny_truthy_bool ⟨rfl, keeps_refl _⟩)))))
    · rintro a ha _ C v s₃ E' ⟨t, rfl⟩ k R
      exact R.ld (by rfl) ⟨⟨t, rfl⟩, keeps_refl _⟩
    · rintro a ha _ C v s₃ E' ⟨t, rfl⟩ k R
      exact Subscript_ (R.ld (by rfl) (R.ld (by rfl) (sub_id ((hIF4.le F14.keep).le k) (getC_key ha) fun t s' k' => ⟨⟨t, rfl⟩, k'⟩)))
    intro aP2 s₁₅ k15 hn15 hIP2
    rw [foldC_filter _ (fun k => !isIn (caughtL c S Fd) k) hIF.nodup] at hIP2
    refine args_nil ⟨(B14.le (keeps_le k15)).K, ?_⟩
    have F15 := F14.keeps k15
    refine add_callers_ok (B.le (keeps_le F15.outer)) (hD.less (by decide)) (hIS4.le F15.keep) hIP2 (gdS hlen) ?_
    intro aS1 s₁₆ k16 hn16 hIS1
    generalize hS1 : addC S (List.filter (fun p => !isIn (caughtL c S Fd) p.1) Fd) = S1 at hturn hIS1
    obtain ⟨g5, F16, l5, n5⟩ := F15.new k16
    have hIS1 := id_new hIS1 hn16 n5
    have hIW1 := hIW1.le l5
    refine F16.st fun s₁₇ F17 => ?_
    -- waiting == {}
    have B17 := B.le (keeps_le F17.outer)
    have hokW1 : ∀ z ∈ W1.map (·.1), c.okW z = true := by
      intro z hz
      rw [← hW1] at hz
      rcases keys_addC hz with hz | hz
      · obtain ⟨p, hp, rfl⟩ := List.mem_map.mp hz; exact hokW p hp
      · obtain ⟨p, hp, rfl⟩ := List.mem_map.mp hz; exact hokF p (List.mem_filter.mp hp).1
    have hnW1 : W1.length ≤ sizeLine := le_line (Nat.le_trans (hW1 ▸ addC_length W _) (gdW hlen))
    refine stm (wpAny_If (wpAny_isTrue_Compare1 (F17.ld (by rfl) (wpAny_Dict_empty (eq_empty (B17.notMods (get_size _)) (hIW1.le F17.keep) hD.u0 fun s₁₈ k18 => wpAny_truthy_bool ?_)))))
    have F18 := F17.keeps k18
    refine ite_d (fun hWe => ?_) (fun hWe => ?_)
    · have hSS : S' = S1 := by
        cases hturn with
        | fin _ r => exact r
        | go _ _ _ _ ne => exact absurd hWe ne
      subst hSS
      refine stm (wpAny_Return_some (F18.ld (by rfl) ?_))
      exact hPr _ _ (hq _ _ (hQ _ _ F18.outer (none_of_keeps F15.outer hn16) (hIS1.le F18.keep)))
    rcases hturn with ⟨e, _⟩ | ⟨first, restB, place, rule, _, hpos, hfirst, hplace, hrule, hr⟩
    · exact absurd e hWe
    refine wpAny_execs_nil ?_
    -- size
    have B18 := B.le (keeps_le F18.outer)
    have hsz63 : ∀ k ∈ W1.map (·.1), ¬ ((k.length : Int) ≥ 2 ^ 63) := fun k hk => short63 (Nat.le_trans (hc.ok k (hokW1 k hk)).1 (by decide))
    refine stm (wpAny_Assign_Name (wpAny_Call_NameR (B18.ldB (v := .builtin "max") (by rfl) (by rfl) (by decide) ?_)))
    refine PyProof.Rows.callWith_builtin1 (args_cons (lc (W1.map (·.1)) (fun k v => ∃ t, v = .str k t) (fun _ => true) (fun k v => ∃ t, v = .int (k.length : Int) t) [] F18.rd (keys_inj _) (by rfl) .nil
      (F18.ld (by rfl) (src_id hD.hh (keeps_refl _) (hIW1.le F18.keep) hnW1)) ?_ ?_ ?_))
    · intros; exact no_test
    · rintro a ha _ C v s₃ E' ⟨t, rfl⟩ k R
      exact wpAny_Call_NameR ((B18.le k).ldB (v := .builtin "len") (by rfl) (by rfl) (by decide) (PyProof.Rows.callWith_builtin1 (args_cons (R.ld (by rfl) (args_nil (PyProof.Rows.len_str (hsz63 a ha) ⟨⟨_, rfl⟩, keeps_tok _ _⟩))))))
    intro aL s₁₉ ysL k19 hn19 hlL hpL
    rw [show (W1.map (·.1)).filter (fun _ => true) = W1.map (·.1) from List.filter_eq_self.mpr (by simp)] at hpL
    have hpI := paired_ints (paired_map (rel := fun (i : Int) (v : Value) => ∃ t, v = .int i t) (f := fun (k : Str) => (k.length : Int)) hpL)
    have F19 := F18.keeps k19
    refine args_nil (max_ints (vs := ysL.toList) hD.hh (by simpa using hlL) hpI (by simp; exact Nat.pos_of_ne_zero (by simpa using hWe)) fun h₂₀ M tM tk20 k20 hM1 hM2 => ?_)
    obtain rfl := max_eq hM1 hM2
    have F20 := F19.mk' (t := tk20) k20
    refine F20.st fun s₂₁ F21 => ?_
    -- first
    have hle20 : maxLen (W1.map (·.1)) ≤ 20 := maxLen_le fun j hj => (hc.ok j (hokW1 j hj)).1
    generalize hsize : maxLen (W1.map (·.1)) = size at hfirst hplace F21 hpos hle20
    have B21 := B.le (keeps_le F21.outer)
    refine stm (wpAny_Assign_Name (Subscript_ (lc (W1.map (·.1)) (fun k v => ∃ t, v = .str k t) (fun k => k.length == size) (fun k v => ∃ t, v = .str k t) [(strT "size", .int (size : Int) tM)] F21.rd (keys_inj _) (by rfl)
      (.cons (by rfl) (by rfl) (by rfl) (by rfl) .nil) (F21.ld (by rfl) (src_id hD.hh (keeps_refl _) (hIW1.le F21.keep) hnW1)) ?_ ?_ ?_)))
    · rintro a ha C v s₃ E' ⟨t, rfl⟩ k R
      refine wpAny_tests_one (wpAny_isTrue_Compare1 (wpAny_Call_NameR ((B21.le k).ldB (v := .builtin "len") (by rfl) (by rfl) (by decide) (PyProof.Rows.callWith_builtin1 (args_cons (R.ld (by rfl) (args_nil (PyProof.Rows.len_str (hsz63 a ha) ?_))))))))
      refine R.ld' (by rfl) (PyProof.Rows.eq_int (wpAny_truthy_bool ⟨beq_cast _ _, keeps_tok _ _⟩))
    · rintro a ha _ C v s₃ E' ⟨t, rfl⟩ k R
      exact R.ld (by rfl) ⟨⟨t, rfl⟩, keeps_refl _⟩
    intro aB s₂₂ ysB k22 hn22 hlB hpB
    rw [hfirst] at hpB
    have F22 := F21.keeps k22
    refine wpAny_Constant_int ?_
    obtain ⟨v0, ysB', hys, ⟨tF, rfl⟩⟩ : ∃ v0 r, ysB.toList = v0 :: r ∧ ∃ t, v0 = .str first t := by
      cases hpB' : ysB.toList with
      | nil => rw [hpB'] at hpB; cases hpB
      | cons v r => rw [hpB'] at hpB; cases hpB with | cons h _ => exact ⟨v, r, rfl, h⟩
    refine tail_any hlB.typeIs slot_list_getitem.lookup (wpAny_getItem_list hlB (by decide) (by decide) (x := .str first tF) (by rw [← Array.getElem?_toList, hys]; rfl) ?_) (by with_unfolding_all rfl)
    obtain ⟨g6, F22', l6, n6⟩ := (F22.tok (t := s₂₂.toks + 1)).grow
    refine F22'.st fun s₂₃ F23 => ?_
    have B23 := B.le (keeps_le F23.outer)
    have hIW6 := hIW1.le l6
    have hIS6 := hIS1.le l6
    have hl0 : Le s.heap g6 := F23.base
    have hR6 : RulesAt prog w s₂₃.heap aR c.rl := (hR.le hl0).le F23.keep
    have hfm : first ∈ W1.map (·.1) ∧ first.length = size := by
      have : first ∈ (W1.map (·.1)).filter fun k => k.length == size := by rw [hfirst]; exact List.mem_cons_self
      obtain ⟨h1, h2⟩ := List.mem_filter.mp this
      exact ⟨h1, by simpa using h2⟩
    have hf20' : first.length ≤ 20 := hfm.2 ▸ hle20
    have hf20 : first.length ≤ sizeLine := le_line (Nat.le_trans hf20' (by decide))
    -- places
    refine stm (lcA F23 (List.range (size - 1)) (fun (i : Nat) v => ∃ t, v = .int (i : Int) t) (fun (k : Nat) => (lookR c.rl (Txt.slice first (some (k : Int)) (some ((k : Int) + 2)))).isSome) (fun (i : Nat) v => ∃ t, v = .int (i : Int) t)
      [(strT "first", .str first tF), (strT "rules", .ref aR)] (nats_inj _) (by rfl) (.cons (by rfl) (by rfl) (by rfl) (by rfl) (.cons (by exact vR) (by rfl) (by rfl) (by rfl) .nil))
      (it_range B23 hD.hh (Nat.le_trans (Nat.sub_le _ _) (Nat.le_trans hle20 (by decide))) fun Q' q => wpAny_BinOp (F23.ld (by rfl) (wpAny_Constant_int (PyProof.Rows.sub_int ?_)))) ?_ ?_ ?_)
    · rw [sub_oneI hpos]
      exact q _ _ (keeps_tok _ _)
    · rintro a ha C v s₃ E' ⟨t, rfl⟩ k R
      refine wpAny_tests_one (wpAny_isTrue_Compare1 (slice_ok' (l := some (a : Int)) (u := some ((a : Int) + 2)) hf20 (fun Q' q => R.ld (by rfl) (q _ (keeps_refl _)))
        (fun Q' s₁ k₁ q => wpAny_evalPart_some ((R.le (keeps_le k₁)).ld (by rfl) (q _ _ k₁ ⟨_, rfl⟩)))
        (fun Q' s₁ k₁ q => wpAny_evalPart_some (wpAny_BinOp ((R.le (keeps_le k₁)).ld (by rfl) (wpAny_Constant_int (wpAny_add_int (q _ _ (keeps_trans k₁ (keeps_tok _ _)) ⟨_, rfl⟩)))))) fun t' s' k' => ?_))
      exact (R.le (keeps_le k')).ld (by rfl) (in_rules ((hR6.le k).le (keeps_le k')) fun s'' k'' => wpAny_truthy_bool ⟨rfl, keeps_trans k' k''⟩)
    · rintro a ha _ C v s₃ E' ⟨t, rfl⟩ k R
      exact R.ld (by rfl) ⟨⟨t, rfl⟩, keeps_refl _⟩
    intro aPl s₂₄ ysP g7 F24 l7 hlP hpP
    generalize hpl : (List.range (size - 1)).filter (fun (k : Nat) => (lookR c.rl (Txt.slice first (some (k : Int)) (some ((k : Int) + 2)))).isSome) = places at hplace hpP
    have hpI := nats_ints hpP
    have hlP' : s₂₄.heap.IsList aPl ysP.toList.toArray := by simpa using hlP.at fun o e => F24.keep _ o e
    -- places == []
    refine stm (wpAny_If (wpAny_isTrue_Compare1 (F24.ld (by rfl) (PyProof.Rows.List_ (args_nil (wpAny_newObj_type ?_ (by size_fits)))))))
    have F25 := F24.mk' (t := s₂₄.toks) (Le.push s₂₄.heap ({ cls := .type "list", data := .seq ([] : List Value).toArray } : Obj))
    refine eq_intsK (hlP'.at fun o e => Heap.get?_push_of_some _ e) hpI ⟨_, Heap.get?_push_size _ rfl, rfl, _, rfl⟩ .nil hD.u64 (wpAny_truthy_bool ?_)
    have hpm : place ∈ places := place_in hplace
    have hne' : places ≠ [] := List.ne_nil_of_mem hpm
    refine ite_d (fun hdec => absurd (List.map_eq_nil_iff.mp hdec) hne') (fun _ => wpAny_execs_nil ?_)
    -- place
    have hlen0 : ysP.toList.length = places.length := (hpP.length).symm
    refine stm (wpAny_Assign_Name (wpAny_mono (Q := fun v s' => (∃ t, v = .int (place : Int) t) ∧ Keeps { s₂₄ with heap := s₂₄.heap.push ({ cls := .type "list", data := .seq ([] : List Value).toArray } : Obj) } s') ?_ (fun v s₂₆ hv => ?_) fun _ _ e => e))
    · refine wpAny_IfExp (wpAny_isTrue_value (F25.ld (by exact vL) (wpAny_truthy_bool ?_)))
      have hlQ := hlP.at fun o e => F25.keep aPl o e
      have hszP : ysP.size = places.length := hlen0
      have hposP : 0 < places.length := List.length_pos_of_mem hpm
      refine ite_b (fun hL => ?_) (fun hL => ?_)
      · rw [hL] at hplace
        simp only [if_true] at hplace
        obtain ⟨v, hv⟩ : ∃ v, ysP.toList[places.length - 1]? = some v := ⟨_, List.getElem?_eq_getElem (by rw [hlen0]; exact Nat.sub_lt hposP Nat.one_pos)⟩
        obtain ⟨a, ha, tP, rfl⟩ := paired_get hpP hv
        have : a = place := by
          rw [List.getLast?_eq_getElem?] at hplace
          rw [hplace] at ha; cases ha; rfl
        subst this
        refine Subscript_ (F25.ld (by rfl) (wpAny_UnaryOp (wpAny_Constant_int (PyProof.Rows.neg_int ?_))))
        exact tail_any hlQ.typeIs slot_list_getitem.lookup (wpAny_getItem_list_neg hlQ (by decide) (by rw [hszP]; exact Int.neg_le_neg (Int.ofNat_le.mpr hposP)) (by decide) (x := .int (a : Int) tP)
          (by rw [hszP, ← Array.getElem?_toList, ← hv, show ((-1 : Int) + (places.length : Int)).toNat = places.length - 1 by rw [Int.add_comm]; exact congrArg Int.toNat (sub_oneI hposP)]) ⟨⟨tP, rfl⟩, keeps_tok _ _⟩) (by with_unfolding_all rfl)
      · rw [hL] at hplace
        simp only [Bool.false_eq_true, if_false] at hplace
        obtain ⟨v, hv⟩ : ∃ v, ysP.toList[0]? = some v := ⟨_, List.getElem?_eq_getElem (hlen0 ▸ hposP)⟩
        obtain ⟨a, ha, tP, rfl⟩ := paired_get hpP hv
        have : a = place := by
          rw [List.head?_eq_getElem?] at hplace
          rw [hplace] at ha; cases ha; rfl
        subst this
        refine Subscript_ (F25.ld (by rfl) (wpAny_Constant_int ?_))
        exact tail_any hlQ.typeIs slot_list_getitem.lookup (wpAny_getItem_list hlQ (by decide) (by decide) (x := .int (a : Int) tP)
          (by rw [← Array.getElem?_toList]; exact hv) ⟨⟨tP, rfl⟩, keeps_tok _ _⟩) (by with_unfolding_all rfl)
    obtain ⟨⟨tP, rfl⟩, k26⟩ := hv
    have F26 := F25.keeps k26
    refine F26.st fun s₂₇ F27 => ?_
    -- rule
    have hR27 : RulesAt prog w s₂₇.heap aR c.rl := (hR.le F27.base).le F27.keep
    refine stm (wpAny_Assign_Name (Subscript_ (F27.ld (by exact vR) (slice_ok' (l := some (place : Int)) (u := some ((place : Int) + 2)) hf20 (fun Q' q => F27.ld (by rfl) (q _ (keeps_refl _)))
        (fun Q' s₁ k₁ q => wpAny_evalPart_some ((F27.keeps k₁).ld (by rfl) (q _ _ k₁ ⟨_, rfl⟩)))
        (fun Q' s₁ k₁ q => wpAny_evalPart_some (wpAny_BinOp ((F27.keeps k₁).ld (by rfl) (wpAny_Constant_int (wpAny_add_int (q _ _ (keeps_trans k₁ (keeps_tok _ _)) ⟨_, rfl⟩)))))) fun t' s₂₈ k28 => ?_))))
    refine sub_rules hR ((F27.base.trans F27.keep).trans (keeps_le k28)) hrule fun dR s₂₉ k29 hdR hmR => ?_
    have F29 := F27.keeps (keeps_trans k28 k29)
    refine F29.st fun s₃₀ F30 => ?_
    -- fresh
    have B30 := B.le (keeps_le F30.outer)
    have hdR30 := hdR.le (keeps_le F30.outer)
    have hW30 := (hIW6.le l7).le F30.keep
    have hrl := hc.rule _ hmR
    have hrl2 := hc.len _ hmR
    refine stm (wpAny_Assign_Name (dc B30 (rule.map (·.1)) (fun k v => ∃ t, v = .str k t) (fun _ => true) (fun k => Txt.slice first none (some (place : Int)) ++ k ++ Txt.slice first (some ((place : Int) + 2)) none) (fun k => (getC W1 first).getD 0 * (getC rule k).getD 0)
      [(strT "first", .str first tF), (strT "place", .int (place : Int) tP), (strT "waiting", .ref aW1), (strT "rule", .ref dR)] F30.rd (keys_inj _) (by rfl)
      (.cons (by rfl) (by rfl) (by rfl) (by rfl) (.cons (by rfl) (by rfl) (by rfl) (by rfl) (.cons (by rfl) (by rfl) (by rfl) (by rfl) (.cons (by rfl) (by rfl) (by rfl) (by rfl) .nil))))
      (F30.ld (by rfl) (src_id hD.hh (keeps_refl _) hdR30 (le_line (Nat.le_trans hrl2 (by decide))))) ?_ ?_ ?_ ?_))
    · intros; exact no_test
    · rintro a ha _ C v s₃ E' ⟨t, rfl⟩ k R
      have hla : a.length ≤ 20 := by
        obtain ⟨q, hq, rfl⟩ := List.mem_map.mp ha
        exact (hrl q hq).1
      refine wpAny_BinOp (wpAny_BinOp (slice_ok' (l := none) (u := some (place : Int)) hf20 (fun Q' q => R.ld (by rfl) (q _ (keeps_refl _)))
        (fun Q' s₁ k₁ q => wpAny_evalPart_none (q _ _ k₁ rfl))
        (fun Q' s₁ k₁ q => wpAny_evalPart_some ((R.le (keeps_le k₁)).ld (by rfl) (q _ _ k₁ ⟨_, rfl⟩))) fun t1 s₄ k₄ => (R.le (keeps_le k₄)).ld (by rfl) (PyProof.Rows.add_str (fun t2 tk2 => ?_) (cat_a hf20' hla))))
      have k₄' := keeps_trans k₄ (keeps_tok s₄ tk2)
      refine slice_ok' (l := some ((place : Int) + 2)) (u := none) hf20 (fun Q' q => (R.le (keeps_le k₄')).ld' (by rfl) (q _ (keeps_refl _)))
        (fun Q' s₁ k₁ q => wpAny_evalPart_some (wpAny_BinOp ((R.le (keeps_le (keeps_trans k₄' k₁))).ld (by rfl) (wpAny_Constant_int (wpAny_add_int (q _ _ (keeps_trans k₁ (keeps_tok _ _)) ⟨_, rfl⟩))))))
        (fun Q' s₁ k₁ q => wpAny_evalPart_none (q _ _ k₁ rfl)) fun t3 s₅ k₅ => ?_
      exact PyProof.Rows.add_str (fun t4 tk4 => ⟨⟨_, rfl⟩, keeps_trans (keeps_trans k₄' k₅) (keeps_tok _ _)⟩) (cat_b hf20' hla)
    · rintro a ha _ C v s₃ E' ⟨t, rfl⟩ k R
      have hba : Builtin.Int.intBits ((getC rule a).getD 0) ≤ 64 := by
        obtain ⟨q, hq, rfl⟩ := List.mem_map.mp ha
        rw [getC_of_mem hdR.nodup (v := q.2) hq]
        exact (hrl q hq).2
      refine wpAny_BinOp (Subscript_ (R.ld (by rfl) (R.ld (by rfl) (sub_id (hW30.le k) (getC_key hfm.1) fun t1 s₄ k₄ => ?_))))
      have R4 := R.le (keeps_le k₄)
      refine Subscript_ (R4.ld (by rfl) (R4.ld (by rfl) (sub_id ((hdR30.le k).le (keeps_le k₄)) (getC_key ha) fun t2 s₅ k₅ => ?_)))
      exact PyProof.Rows.mul_int ⟨⟨_, rfl⟩, keeps_trans (keeps_trans k₄ k₅) (keeps_tok _ _)⟩ (IntMulOk.of_right hba)
    intro aFn s₃₁ k31 hn31 hIFn
    rw [show (rule.map (·.1)).filter (fun _ => true) = rule.map (·.1) from List.filter_eq_self.mpr (by simp), foldC_over hdR.nodup (fun k => Txt.slice first none (some (place : Int)) ++ k ++ Txt.slice first (some ((place : Int) + 2)) none) (fun i => (getC W1 first).getD 0 * i)] at hIFn
    obtain ⟨g9, F31, l9, n9⟩ := F30.new k31
    have hIFn := id_new hIFn hn31 n9
    refine F31.st fun s₃₂ F32 => ?_
    -- waiting
    have B32 := B.le (keeps_le F32.outer)
    have hW9 := (hIW6.le l7).le l9
    refine stm (wpAny_Assign_Name (dc B32 (W1.map (·.1)) (fun k v => ∃ t, v = .str k t) (fun k => k != first) (fun k => k) (fun k => (getC W1 k).getD 0)
      [(strT "waiting", .ref aW1), (strT "first", .str first tF)] F32.rd (keys_inj _) (by rfl) (.cons (by rfl) (by rfl) (by rfl) (by rfl) (.cons (by rfl) (by rfl) (by rfl) (by rfl) .nil))
      (F32.ld (by rfl) (src_id hD.hh (keeps_refl _) (hW9.le F32.keep) hnW1)) ?_ ?_ ?_ ?_))
    · rintro a ha C v s₃ E' ⟨t, rfl⟩ k R
      exact wpAny_tests_one (wpAny_isTrue_Compare1 (R.ld (by rfl) (R.ld (by rfl) (ne_strB (wpAny_truthy_bool ⟨rfl, keeps_refl _⟩)))))
    · rintro a ha _ C v s₃ E' ⟨t, rfl⟩ k R
      exact R.ld (by rfl) ⟨⟨t, rfl⟩, keeps_refl _⟩
    · rintro a ha _ C v s₃ E' ⟨t, rfl⟩ k R
      exact Subscript_ (R.ld (by rfl) (R.ld (by rfl) (sub_id ((hW9.le F32.keep).le k) (getC_key ha) fun t s' k' => ⟨⟨t, rfl⟩, k'⟩)))
    intro aWn s₃₃ k33 hn33 hIWn
    rw [foldC_filter _ (fun k => k != first) hIW1.nodup] at hIWn
    obtain ⟨g10, F33, l10, n10⟩ := F32.new k33
    have hIWn := id_new hIWn hn33 n10
    refine F33.st fun s₃₄ F34 => wpAny_execs_nil ?_
    have hIS' := ((hIS6.le l7).le l9).le l10
    exact hP g10 [] _ _ (((((((l3.trans l4).trans l5).trans l6).trans l7).trans l9).trans l10)) ⟨_, _, _, aWn, aS1, aFn, rfl, hIWn, hIS', hIFn.le l10, hr, by rfl, by rfl, by rfl, by exact vR, by exact vB, by exact vL⟩ (fun p hp => by cases hp) F34
  · rintro g₁ hid₁ vs₁ s₈ _ ⟨W, S, F', _, _, _, _, _, _, _, hr, _, _, _, _, _, _⟩ _
    simp [run] at hr
end Mine

-- part: FTup
set_option maxHeartbeats 4000000
namespace Mine
open PySem PySem.W PyProof.Rows
variable {prog : Program} {w : World} {A : Around} {E : Value → Shared → Prop}

/-- an object of class C at x, its dict at dx -/
structure Ins (h : Heap) (C x dx : Addr) (es : List DictEntry) (n : Nat) : Prop where
  x : h.get? x = some (instObj C dx)
  d : h.get? dx = some (dictOf es n)
theorem Ins.le {h h' : Heap} {C x dx es n} (i : Ins h C x dx es n) (k : Le h h') : Ins h' C x dx es n := ⟨k _ _ i.x, k _ _ i.d⟩
theorem Ins.inst {h : Heap} {C x dx es n} (i : Ins h C x dx es n) : PySem.W.InstAt h x (instObj C dx) C (some (dictOf es n)) := ⟨i.x, rfl, rfl, i.d⟩

theorem hide_one {h : Heap} {dx b : Addr} {o : Obj} (e : h.get? b = some o) (hn : b ≠ dx) : (hideAll h [dx]).get? b = some o := hideAll_get _ e (by simpa using hn)

theorem mk_tc (w : World) : makesIn (KK w) 87 = true := by rfl
theorem in_tc (w : World) : findIn (KK w) (.ref 87) "__init__" = some (some (.ref 77)) := by rfl
theorem ty_tc (w : World) : typeIn (KK w) (.ref 77) = some (.type "function") := by rfl
theorem sa_tc (w : World) : findIn (KK w) (.ref 87) "__setattr__" = some (some (.builtin "object.__setattr__")) := by rfl
theorem po_tc (w : World) : plainOver (KK w) 87 = true := by rfl
theorem tk_tc (w : World) : takerIn (KK w) 87 (strT "comp_select_list") = some none := by rfl
theorem hd_tc (w : World) : hasDictIn (KK w) 87 = true := by rfl
theorem fi_tc (w : World) : findIn (KK w) (.ref 87) (strT "comp_select_list") = some none := by rfl
theorem pg_tc (w : World) : plainGet (KK w) 87 (strT "comp_select_list") = true := by rfl
theorem fc_tc (w : World) : findIn (KK w) (.ref 87) (strT "compare") = some (some (.ref 84)) := by rfl
theorem pc_tc (w : World) : plainGet (KK w) 87 (strT "compare") = true := by rfl
theorem fn_tc (w : World) : isFn (KK w) (.ref 84) = true := by rfl
theorem kp_tc (w : World) : keepIn (KK w) (.ref 87) = true := by rfl
theorem kp_cm (w : World) : keepIn (KK w) (.ref 84) = true := by rfl

theorem tc_make {s : Shared} {l : Addr} {Q : Value → Shared → Prop} (B : Bs w s.heap) (hA : Rm A 3)
    (hQ : ∀ x dx es n s', Keeps s s' → s.heap.get? x = none → s.heap.get? dx = none → Ins s'.heap 87 x dx es n → getL (strT "comp_select_list") es = some (some (.ref l)) → getL (strT "compare") es = some none → Q (.ref x) s') :
    wpAny (model prog w) A (call (.ref 87) [.ref l]) Q E s := by
  obtain ⟨hp, gg, dd, tt, os⟩ := s
  refine wpAny_call (make_core (makes_of B.K (mk_tc w)) (looks_findIn B.K (in_tc w)) (fun self => bind_fn B.K self (ty_tc w)) (.inl rfl) ?_)
  have hdn : hp.get? hp.objs.size = none := get_size hp
  generalize hdx : hp.objs.size = dx at hdn ⊢
  have e1 : (hp.push emptyDict).get? dx = some emptyDict := by rw [← hdx]; exact Heap.get?_push_size _ rfl
  have hsz1 : (hp.push emptyDict).objs.size = dx + 1 := by rw [Heap.size_push, hdx]
  have e2 : ((hp.push emptyDict).push (instObj 87 dx)).get? (dx + 1) = some (instObj 87 dx) := by rw [← hsz1]; exact Heap.get?_push_size _ rfl
  have e3 : ((hp.push emptyDict).push (instObj 87 dx)).get? dx = some emptyDict := Heap.get?_push_of_some _ e1
  have le0 : Le hp ((hp.push emptyDict).push (instObj 87 dx)) := (Le.push _ _).trans (Le.push _ _)
  have hxn : hp.get? (dx + 1) = none := get_ge _ (by rw [hdx]; exact Nat.le_succ _)
  generalize (hp.push emptyDict).push (instObj 87 dx) = H at e2 e3 le0 ⊢
  have nd : ∀ b o, hp.get? b = some o → b ≠ dx := by rintro b o e rfl; rw [hdn] at e; cases e
  refine enterC (s := ⟨H, gg, dd, tt, os⟩) (binds := [(Str.ofString "self", .ref (dx + 1)), (Str.ofString "comp_select_list", .ref l)]) (B.le le0) (by rw [depth_under_make]; have := hA.depth; omega) (by rfl) (by rfl) (by rfl) (by rfl) (fun s₁ F => ?_)
  refine stm (plainObj_wpAny_Assign_Attribute (F.ld (by rfl) (F.ld (by rfl) ?_)))
  obtain ⟨m, hm, _⟩ := F.ns
  have fr : Fr (hideAll H [dx]) H.objs.size s₁.heap m := ⟨hm, fun b o e => F.keep _ _ (of_hideAll _ e), Nat.le_of_eq (hideAll_size _ _)⟩
  have X0 : (KK w).In (hideAll H [dx]) := fun a o e => hide_one (le0 _ _ (B.K a o e)) (nd _ _ (B.K a o e))
  have dlt : dx < H.objs.size := Heap.lt_size e3
  have N : News (hideAll H [dx]) H.objs.size s₁.heap [(dx, dictOf [] 0)] := fun p hp' => by
    rw [List.mem_singleton.mp hp']
    exact ⟨F.keep _ _ e3, Nat.ne_of_lt dlt, hideAll_none _ List.mem_cons_self⟩
  have I : PySem.W.InstAt s₁.heap (dx + 1) (instObj 87 dx) 87 (some (dictOf [] 0)) := ⟨F.keep _ _ e2, rfl, rfl, F.keep _ _ e3⟩
  refine set_dict fr X0 N I rfl (sa_tc w) (po_tc w) (tk_tc w) (hd_tc w) (by rfl) rfl (.head fun _ h => nomatch h) (Nat.le_of_ble_eq_true rfl) fun h' F' N' => ?_
  refine wpAny_execs_nil ⟨rfl, hQ (dx + 1) dx _ _ _ ?_ hxn hdn ⟨F'.keep _ _ (hide_one e2 (Nat.succ_ne_self _)), (N' _ List.mem_cons_self).1⟩ (by rfl) (by rfl)⟩
  obtain ⟨h1, t1, rfl⟩ := F.same
  exact ⟨h', _, rfl, fun b o e => F'.keep _ _ (hide_one (le0 _ _ e) (nd _ _ e))⟩
end Mine

-- part: Loops2
set_option maxHeartbeats 4000000
namespace Mine
open PySem PySem.W PyProof.Rows
variable {prog : Program} {w : World} {A : Around} {s s₀ : Shared} {g : Heap} {env : Env} {vs : List (Str × Value)} {hid : List (Addr × Obj)}

/-- over a frozen list of pairs, the target two names -/
theorem for_list2 {xa xb : Str} {pa pb pt pos : Pos} {x1} {iter : Expr} {body : List Stmt} {l : Addr} {items : Array Value} {Q : Flow → Shared → Prop} {E : Value → Shared → Prop} (Pr : Nat → Value → Value → Prop)
    (hh : A.handled = none) (F : Fv env s₀ g hid vs s)
    (ho : ∀ Q' : Value → Shared → Prop, (∀ s', Keeps s s' → Q' (.ref l) s') → wpAny (model prog w) A (eval iter env) Q' E s) (hl : g.IsList l items)
    (hit : ∀ i v, items[i]? = some v → ∃ a v1 v2, v = .ref a ∧ g.IsTuple a #[v1, v2] ∧ Pr i v1 v2)
    (J : Nat → Heap → List (Addr × Obj) → List (Str × Value) → Prop) (h0 : J 0 g hid vs)
    (step : ∀ I i v1 v2 g₁ hid₁ vs₁ oi s₁ (P : Flow → Shared → Prop), (∀ g₂ hid₂ vs₂ s₂, Le g₁ g₂ → J (i + 1) g₂ hid₂ vs₂ → (∀ p ∈ hid₂, p.1 ≠ I) → Fv env s₀ g₂ (hid₂ ++ [(I, oi)]) vs₂ s₂ → P .next s₂) → (∀ v s₂, Q (.ret v) s₂ → P (.ret v) s₂) → i < items.size → Pr i v1 v2 → Le g g₁ → J i g₁ hid₁ vs₁ → (∀ p ∈ hid₁, p.1 ≠ I) → Fv env s₀ g₁ (hid₁ ++ [(I, oi)]) ((xb, v2) :: (xa, v1) :: vs₁) s₁ →
      wpAny (model prog w) A (execs body env) P (fun _ _ => False) s₁)
    (done : ∀ g₁ hid₁ vs₁ s₁, Le g g₁ → J items.size g₁ hid₁ vs₁ → Fv env s₀ g₁ hid₁ vs₁ s₁ → Q .next s₁)
    (hk : env.scope.kind = .function := by rfl) (hoka : kOk env xa = true := by rfl) (hfa : (env.kindOf xa == some .free) = false := by rfl) (hokb : kOk env xb = true := by rfl) (hfb : (env.kindOf xb == some .free) = false := by rfl)
    (hs : ∀ x, foldedSetIterable iter env x = pure x := by intro _; rfl) :
    wpAny (model prog w) A (exec (.For (.Tuple [.Name xa pa, .Name xb pb] x1 pt) iter body [] pos) env) Q E s := by
  refine wpAny_For (ho _ fun s₁ k₁ => ?_) hs
  have F₁ := F.keeps k₁
  have hl₁ : s₁.heap.IsList l items := hl.at fun o e => F₁.keep _ o e
  refine wpAny_pyIter_list hl₁ ?_
  generalize hI : s₁.heap.objs.size = I
  have hIn : s₁.heap.get? I = none := hI ▸ get_size _
  have hne : ∀ p ∈ hid, p.1 ≠ I := fun p hp e => by
    have := (F₁.hid p hp).1
    rw [e, hIn] at this; cases this
  have hlI : l ≠ I := by
    obtain ⟨o, ho, _⟩ := hl₁
    rintro rfl; rw [hIn] at ho; cases ho
  have hgI : (s₁.heap.push { cls := .type "list_iterator", data := .fields #[.ref l, .int 0 0] }).get? I = some { cls := .type "list_iterator", data := .fields #[.ref l, .int 0 0] } := by rw [← hI]; exact Heap.get?_push_size _ rfl
  have F₂ := F₁.hide (keeps_mk s₁ (t := s₁.toks) (Le.push s₁.heap _)) hIn hgI
  have W := Walks.list (prog := prog) (w := w) (A := A) hh I l hlI items
  refine codeAny_forLoop_any
    (WInv env s₀ g I items.size (fun i h => h.IsListIter I l i ∧ h.IsList l items) J) ?_ (items.size + 1)
    ⟨0, g, hid, vs, { cls := .type "list_iterator", data := .fields #[.ref l, .int 0 0] }, Le.refl _, h0, hne, F₂.drop (fun p hp => by
      rcases List.mem_append.mp hp with h | h
      · exact List.mem_cons_of_mem _ h
      · rw [List.mem_singleton.mp h]; exact List.mem_cons_self), ⟨⟨_, hgI, rfl, rfl⟩, hl₁.at fun o e => Heap.get?_push_of_some _ e⟩, Nat.zero_le _, rfl⟩
  rintro k s' ⟨i, g₁, hid₁, vs₁, oi, hlg, hJ, hne₁, F₃, hst₁, hi, rfl⟩
  by_cases hlt : i < items.size
  · refine W.item i _ _ _ hlt hst₁ fun v h' tk hP hst' hk' => ?_
    obtain ⟨a, v1, v2, rfl, hta, hPr⟩ := hit i v hP
    obtain ⟨o', ho', _⟩ := hst'.1
    refine wpAny_letOwnedTupleGo_listiter hst'.1 ?_
    have F₄ : Fv env s₀ g₁ (hid₁ ++ [(I, o')]) vs₁ { s' with heap := h', toks := tk } := F₃.turnAt ⟨_, List.mem_append_right _ List.mem_cons_self⟩ (fun p q a b => hk' p q (by simpa using a) b) ho' (fun p hp => by
      rcases List.mem_append.mp hp with h | h
      · exact .inr ⟨List.mem_append_left _ h, hne₁ p h⟩
      · exact .inl (List.mem_singleton.mp h))
    have hta' : h'.IsTuple a #[v1, v2] := tuple_mv hta fun o x => F₄.keep _ _ (hlg _ _ x)
    refine wpAny_assign_Tuple hh hta' rfl rfl fun h₃ hx₃ => ?_
    have F₅ := F₄.mk' (h := h₃) (t := tk) (fun b o e => hx₃ b o (Nat.ne_of_lt (Heap.lt_size e)) e)
    show wpAny _ _ (do holding [v2] (assign (.Name xa pa) env v1); do holding [] (assign (.Name xb pb) env v2); pure ()) _ _ _
    refine wpAny_bind (wpAny_holding (wpAny_assign_Name (F₅.st (fun s₄ F₆ => ?_) hk hoka hfa)))
    refine wpAny_bind (wpAny_holding (wpAny_assign_Name (F₆.st (fun s₅ F₇ => wpAny_pure ?_) hk hokb hfb)))
    refine wpAny_mono (step I i v1 v2 g₁ hid₁ vs₁ o' s₅ (fun f s => match f with | .next => ∃ m, m < items.size + 1 - i ∧ WInv env s₀ g I items.size (fun i h => h.IsListIter I l i ∧ h.IsList l items) J m s | .ret v => Q (.ret v) s | _ => False) ?_ (fun _ _ h => h) hlt hPr hlg hJ hne₁ F₇) (fun f s₆ h₆ => ?_) fun _ _ x => x.elim
    · intro g₂ hid₂ vs₂ s₆ hl₂ hJ₂ hne₂ F₈
      refine ⟨items.size + 1 - (i + 1), sub_dec hlt, i + 1, g₂, hid₂, vs₂, o', hlg.trans hl₂, hJ₂, hne₂, F₈, ⟨?_, hl.at fun o e => F₈.keep _ _ (hl₂ _ _ (hlg _ _ e))⟩, hlt, rfl⟩
      refine hst'.1.at fun o e => ?_
      rw [ho'] at e; cases e
      exact F₈.hidAt (List.mem_append_right _ List.mem_cons_self)
    cases f with
    | next => exact h₆
    | cont => exact h₆.elim
    | brk => exact h₆.elim
    | ret v => exact h₆
  · have hin : i = items.size := Nat.le_antisymm hi (Nat.not_lt.mp hlt)
    subst hin
    refine W.done _ _ _ hst₁ fun h' tk hk' => wpAny_execs_nil (done g₁ hid₁ vs₁ _ hlg hJ (F₃.lose hne₁ fun p q a b => hk' p q (by simpa using a) b))
end Mine

-- part: FCmp
set_option maxHeartbeats 4000000
namespace Mine
open PySem PySem.W PyProof.Rows
variable {prog : Program} {w : World} {A : Around} {E : Value → Shared → Prop}

/-- the comparer's object -/
inductive TC (h : Heap) (x : Addr) (way : Int) : Prop
  | mk {dx es n} (l t1 t2 : Addr) (u1 u2 u3 u4 : Tok) (_ : Ins h 87 x dx es n) (_ : getL (strT "comp_select_list") es = some (some (.ref l))) (_ : getL (strT "compare") es = some none)
    (_ : h.IsList l #[.ref t1, .ref t2]) (_ : h.IsTuple t1 #[.int 0 u1, .int (-1) u2]) (_ : h.IsTuple t2 #[.int 1 u3, .int way u4])
theorem tuple_le {h h' : Heap} {a : Addr} {items : Array Value} (x : h.IsTuple a items) (k : Le h h') : h'.IsTuple a items := tuple_mv x fun o a => k _ _ a
theorem TC.le {h h' : Heap} {x : Addr} {way : Int} (i : TC h x way) (k : Le h h') : TC h' x way := by
  obtain ⟨l, t1, t2, u1, u2, u3, u4, a, b, c, d, e, f⟩ := i
  exact ⟨l, t1, t2, u1, u2, u3, u4, a.le k, b, c, d.at fun o e => k _ o e, tuple_le e k, tuple_le f k⟩

noncomputable def cmpS (way : Int) (a : Int) (x : Str) (b : Int) (y : Str) : Int :=
  if a < b then 1 else if b < a then -1 else if decide (x.cps.toList < y.cps.toList) = true then -way else if decide (y.cps.toList < x.cps.toList) = true then way else 0

theorem gt_strB {s : Shared} {x y : Str} {t u : Tok} {Q : Value → Shared → Prop} (h : Q (.bool (decide (y.cps.toList < x.cps.toList))) s) : wpAny (model prog w) A (compareOp .Gt (.str x t) (.str y u)) Q E s := PySem.P.gt_str h

theorem compare_ok {s : Shared} {x l r : Addr} {way a b : Int} {xs ys : Str} {ta tx tb ty : Tok} {Q : Value → Shared → Prop} (B : Bs w s.heap) (hA : Rm A 3)
    (hx : TC s.heap x way) (hl : s.heap.IsTuple l #[.int a ta, .str xs tx]) (hr : s.heap.IsTuple r #[.int b tb, .str ys ty])
    (hQ : ∀ t s', Keeps s s' → Q (.int (cmpS way a xs b ys) t) s') : wpAny (model prog w) A (call (.ref 84) [.ref x, .ref l, .ref r]) Q E s := by
  refine enter (binds := [(Str.ofString "self", .ref x), (Str.ofString "left", .ref l), (Str.ofString "right", .ref r)]) B hA (by rfl) (by rfl) (by rfl) (by rfl) (fun A' n Q' s₁ hD hq F => ?_)
  obtain ⟨lst, t1, t2, u1, u2, u3, u4, hI, hg1, hg2, hL, h1, h2⟩ := hx
  obtain ⟨m, fr⟩ := F.fr
  have hI1 := hI.le F.keep
  refine stm (for_list2 (l := lst) (items := #[.ref t1, .ref t2]) (fun i v1 v2 => (i = 0 ∧ v1 = .int 0 u1 ∧ v2 = .int (-1) u2) ∨ (i = 1 ∧ v1 = .int 1 u3 ∧ v2 = .int way u4)) hD.hh F
    (fun Q' q => Attribute_Name_ (F.ld (by rfl) (get_own fr B.K hI1.inst (pg_tc w) (hd_tc w) (fi_tc w) (by rfl) hg1 (by rfl) (q _ (keeps_tok _ _))))) hL ?_
    (fun i g hid vs => hid = [] ∧ vs.lookup (strT "left") = some (.ref l) ∧ vs.lookup (strT "right") = some (.ref r) ∧ (1 ≤ i → a = b) ∧ (2 ≤ i → decide (xs.cps.toList < ys.cps.toList) = false ∧ decide (ys.cps.toList < xs.cps.toList) = false))
    ⟨rfl, by rfl, by rfl, fun h => absurd h (by decide), fun h => absurd h (by decide)⟩ ?_ ?_)
  · intro i v hv
    match i, hv with
    | 0, hv => simp at hv; subst hv; exact ⟨t1, _, _, rfl, h1, .inl ⟨rfl, rfl, rfl⟩⟩
    | 1, hv => simp at hv; subst hv; exact ⟨t2, _, _, rfl, h2, .inr ⟨rfl, rfl, rfl⟩⟩
    | i + 2, hv => simp at hv
  · rintro I i v1 v2 g₁ hid₁ vs₁ oi s₂ P hP hR hi hPr hlg ⟨rfl, vl, vr, he1, he2⟩ hne F2
    have hl2 : IsTup s₂.heap l #[.int a ta, .str xs tx] := tuple_le hl (hlg.trans F2.keep)
    have hr2 : IsTup s₂.heap r #[.int b tb, .str ys ty] := tuple_le hr (hlg.trans F2.keep)
    rcases hPr with ⟨rfl, rfl, rfl⟩ | ⟨rfl, rfl, rfl⟩
    · refine stm (wpAny_Assign_Name (Subscript_ (F2.ld (by exact vl) (F2.ld (by rfl) (item_tuple hl2 (by decide) (by decide) (j := 0) (by rfl) (by rfl) ?_)))))
      refine F2.st fun s₃ F3 => ?_
      have hr3 : IsTup s₃.heap r #[.int b tb, .str ys ty] := tuple_le hr (hlg.trans F3.keep)
      refine stm (wpAny_Assign_Name (Subscript_ (F3.ld (by exact vr) (F3.ld (by rfl) (item_tuple hr3 (by decide) (by decide) (j := 0) (by rfl) (by rfl) ?_)))))
      refine F3.st fun s₄ F4 => ?_
      refine stm (wpAny_If (wpAny_isTrue_Compare1 (F4.ld (by rfl) (F4.ld (by rfl) (PyProof.Rows.lt_int (wpAny_truthy_bool (ite_d (fun hab => ?_) (fun hab => ?_))))))))
      · refine stm (wpAny_Return_some (wpAny_UnaryOp (F4.ld (by rfl) (PyProof.Rows.neg_int ?_))))
        have e : cmpS way a xs b ys = - -1 := by unfold cmpS; rw [if_pos hab]; rfl
        exact hR _ _ (hq _ _ (e ▸ hQ _ _ (F4.tok).outer))
      refine wpAny_execs_nil (stm (wpAny_If (wpAny_isTrue_Compare1 (F4.ld (by rfl) (F4.ld (by rfl) (PyProof.Rows.gt_int (wpAny_truthy_bool (ite_d (fun hba => ?_) (fun hba => ?_)))))))))
      · refine stm (wpAny_Return_some (F4.ld (by rfl) ?_))
        have e : cmpS way a xs b ys = -1 := by unfold cmpS; rw [if_neg hab, if_pos hba]
        exact hR _ _ (hq _ _ (e ▸ hQ _ _ F4.outer))
      exact wpAny_execs_nil (wpAny_execs_nil (hP g₁ [] _ _ (Le.refl _) ⟨rfl, by exact vl, by exact vr, fun _ => Int.le_antisymm (Int.not_lt.mp hba) (Int.not_lt.mp hab), fun h => absurd h (by decide)⟩ (fun p hp => by cases hp) F4))
    · have hab := he1 (by decide)
      refine stm (wpAny_Assign_Name (Subscript_ (F2.ld (by exact vl) (F2.ld (by rfl) (item_tuple hl2 (by decide) (by decide) (j := 1) (by rfl) (by rfl) ?_)))))
      refine F2.st fun s₃ F3 => ?_
      have hr3 : IsTup s₃.heap r #[.int b tb, .str ys ty] := tuple_le hr (hlg.trans F3.keep)
      refine stm (wpAny_Assign_Name (Subscript_ (F3.ld (by exact vr) (F3.ld (by rfl) (item_tuple hr3 (by decide) (by decide) (j := 1) (by rfl) (by rfl) ?_)))))
      refine F3.st fun s₄ F4 => ?_
      refine stm (wpAny_If (wpAny_isTrue_Compare1 (F4.ld (by rfl) (F4.ld (by rfl) (PyProof.Rows.lt_str (wpAny_truthy_bool ?_))))))
      have h0 : cmpS way a xs b ys = if decide (xs.cps.toList < ys.cps.toList) = true then -way else if decide (ys.cps.toList < xs.cps.toList) = true then way else 0 := by
        unfold cmpS; rw [if_neg (hab ▸ Int.lt_irrefl a), if_neg (hab ▸ Int.lt_irrefl a)]
      refine ite_b (fun hxy => ?_) (fun hxy => ?_)
      · rw [if_pos hxy] at h0
        refine stm (wpAny_Return_some (wpAny_UnaryOp (F4.ld (by rfl) (PyProof.Rows.neg_int ?_))))
        exact hR _ _ (hq _ _ (h0 ▸ hQ _ _ (F4.tok).outer))
      · rw [if_neg (by rw [hxy]; decide)] at h0
        refine wpAny_execs_nil (stm (wpAny_If (wpAny_isTrue_Compare1 (F4.ld (by rfl) (F4.ld (by rfl) (gt_strB (wpAny_truthy_bool ?_)))))))
        refine ite_b (fun hyx => ?_) (fun hyx => ?_)
        · rw [if_pos hyx] at h0
          refine stm (wpAny_Return_some (F4.ld (by rfl) ?_))
          exact hR _ _ (hq _ _ (h0 ▸ hQ _ _ F4.outer))
        · exact wpAny_execs_nil (wpAny_execs_nil (hP g₁ [] _ _ (Le.refl _) ⟨rfl, by exact vl, by exact vr, fun _ => hab, fun _ => ⟨hxy, hyx⟩⟩ (fun p hp => by cases hp) F4))
  · rintro g₁ hid₁ vs₁ s₂ hlg ⟨rfl, vl, vr, he1, he2⟩ F2
    refine stm (wpAny_Return_some (wpAny_Constant_int ?_))
    obtain ⟨e2, e3⟩ := he2 (by simp)
    have hab := he1 (by simp)
    have e : cmpS way a xs b ys = 0 := by
      unfold cmpS; rw [if_neg (hab ▸ Int.lt_irrefl a), if_neg (hab ▸ Int.lt_irrefl a), e2, e3]; rfl
    exact hq _ _ (e ▸ hQ _ _ (F2.tok).outer)
end Mine

-- part: Loops3
set_option maxHeartbeats 4000000
namespace Mine
open PySem PySem.W PyProof.Rows
variable {prog : Program} {w : World} {A : Around} {s s₀ : Shared} {g : Heap} {env : Env} {vs : List (Str × Value)} {hid : List (Addr × Obj)}

theorem zapart {N l1 l2 : Addr} (h1 : l1 < N) (h2 : l2 < N) : ZipApart (N + 4) (N + 2) (N + 3) N (N + 1) l1 l2 := by
  have h1 : @LT.lt Nat _ l1 N := h1
  have h2 : @LT.lt Nat _ l2 N := h2
  constructor <;> (refine (?_ : @Ne Nat _ _); omega)
theorem lnew {s s' : Shared} {g' : Heap} {d : Addr} {items : Array Value} (x : s'.heap.IsList d items) (hf : s.heap.get? d = none) (n : ∀ b o, s.heap.get? b = none → s'.heap.get? b = some o → g'.get? b = some o) : g'.IsList d items := x.at fun o e => n d o hf e

theorem Fv.turns {Z Z' : List (Addr × Obj)} (F : Fv env s₀ g (hid ++ Z) vs s) (hne : ∀ p ∈ hid, ∀ q ∈ Z, p.1 ≠ q.1) {h' : Heap} {t : Nat}
    (hk : ∀ b o, (∀ q ∈ Z, b ≠ q.1) → s.heap.get? b = some o → h'.get? b = some o) (hZ : ∀ p ∈ Z', (∃ q ∈ Z, p.1 = q.1) ∧ h'.get? p.1 = some p.2) :
    Fv env s₀ g (hid ++ Z') vs { s with heap := h', toks := t } := by
  have hz : ∀ q ∈ Z, g.get? q.1 = none ∧ q.1 ≠ env.locals ∧ ∀ n c, (n, c) ∈ env.cells → q.1 ≠ c := fun q hq => (F.hid q (List.mem_append_right _ hq)).2
  refine ⟨?_, ?_, ?_, F.apart, F.names, F.kinds, F.above, F.base, ?_, F.low, F.offL, F.offC, ?_⟩
  · obtain ⟨h₁, t₁, rfl⟩ := F.same; exact ⟨h', t, rfl⟩
  · obtain ⟨m, a, c⟩ := F.ns; exact ⟨m, a.at fun o e => hk _ o (fun q hq => Ne.symm (hz q hq).2.1) e, c⟩
  · intro n c e
    obtain ⟨ov, ⟨q, hq, hd⟩, d⟩ := F.cell n c e
    exact ⟨ov, ⟨q, hk _ _ (fun q hq => Ne.symm ((hz q hq).2.2 n c (mem_of_lookup e))) hq, hd⟩, d⟩
  · intro p q e
    exact hk p q (fun r hr => by rintro rfl; rw [(hz r hr).1] at e; cases e) (F.keep p q e)
  · intro p hp
    rcases List.mem_append.mp hp with hp | hp
    · have := F.hid p (List.mem_append_left _ hp)
      exact ⟨hk p.1 p.2 (fun q hq => hne p hp q hq) this.1, this.2⟩
    · obtain ⟨⟨q, hq, e⟩, h2⟩ := hZ p hp
      exact ⟨h2, by rw [e]; exact hz q hq⟩

/-- what a step made, and is hidden from now on -/
theorem Fv.hides {Z : List (Addr × Obj)} {s' : Shared} (F : Fv env s₀ g hid vs s) (k : Keeps s s') (hZ : ∀ p ∈ Z, s.heap.get? p.1 = none ∧ s'.heap.get? p.1 = some p.2) : Fv env s₀ g (hid ++ Z) vs s' := by
  have F' := F.keeps k
  refine { F' with hid := fun p hp => ?_ }
  rcases List.mem_append.mp hp with hp | hp
  · exact F'.hid p hp
  · obtain ⟨h1, h2⟩ := hZ p hp
    obtain ⟨a, b', _⟩ := F.apartFrom h1
    exact ⟨h2, F.offG h1, a, b'⟩

/-- what stands at some places -/
noncomputable def cut (h : Heap) (wr : List Addr) : List (Addr × Obj) := wr.filterMap fun b => (h.get? b).map fun o => (b, o)
theorem cut_mem {h : Heap} {wr : List Addr} {p : Addr × Obj} : p ∈ cut h wr ↔ p.1 ∈ wr ∧ h.get? p.1 = some p.2 := by
  unfold cut
  rw [List.mem_filterMap]
  constructor
  · rintro ⟨b, hb, e⟩
    obtain ⟨o, ho, rfl⟩ := Option.map_eq_some_iff.mp e
    exact ⟨hb, ho⟩
  · rintro ⟨h1, h2⟩; exact ⟨p.1, h1, by rw [h2]; rfl⟩
theorem Fv.turnW {wr : List Addr} (F : Fv env s₀ g (hid ++ cut s.heap wr) vs s) (hne : ∀ p ∈ hid, p.1 ∉ wr) (live : ∀ b ∈ wr, ∃ o, s.heap.get? b = some o) {h' : Heap} {t : Nat}
    (hk : ∀ b o, b ∉ wr → s.heap.get? b = some o → h'.get? b = some o) : Fv env s₀ g (hid ++ cut h' wr) vs { s with heap := h', toks := t } := by
  refine F.turns (fun p hp q hq e => hne p hp (e ▸ (cut_mem.mp hq).1)) (fun b o hb e => hk b o (fun hm => ?_) e) fun p hp => ?_
  · obtain ⟨o', ho⟩ := live b hm
    exact hb (b, o') (cut_mem.mpr ⟨hm, ho⟩) rfl
  · obtain ⟨h1, h2⟩ := cut_mem.mp hp
    obtain ⟨o', ho⟩ := live _ h1
    exact ⟨⟨(p.1, o'), cut_mem.mpr ⟨h1, ho⟩, rfl⟩, h2⟩

inductive TInv (env : Env) (s₀ : Shared) (g : Heap) (wr : List Addr) (n : Nat) (St : Nat → Heap → Prop) (J : Nat → Heap → List (Addr × Obj) → List (Str × Value) → Prop) (k : Nat) (s : Shared) : Prop
  | mk (i : Nat) (g₁ : Heap) (hid₁ : List (Addr × Obj)) (vs₁ : List (Str × Value)) (l : Le g g₁) (j : J i g₁ hid₁ vs₁) (ne : ∀ p ∈ hid₁, p.1 ∉ wr) (F : Fv env s₀ g₁ (hid₁ ++ cut s.heap wr) vs₁ s) (st : St i s.heap) (hi : i ≤ n) (hk : k = n + 1 - i)

theorem for_walksT {xa xb : Str} {pa pb pt : Pos} {x1} {body : List Stmt} {I : Addr} {fp wr : List Addr} {n : Nat} {Pt : Nat → Array Value → Prop} {St : Nat → Heap → Prop} {Mid : Nat → Addr → Heap → Prop} {R : Result → Shared → Prop} (Pr : Nat → Value → Value → Prop)
    (hh : A.handled = none) (W : WalksT prog w A I fp wr n Pt St Mid) (hlive : ∀ i h, St i h → ∀ b ∈ wr, ∃ o, h.get? b = some o) (hliveM : ∀ i T h, Mid i T h → ∀ b ∈ wr, ∃ o, h.get? b = some o) (hfp : ∀ b ∈ fp, b ∈ wr ∨ ∃ o, g.get? b = some o)
    (hP : ∀ i vals, Pt i vals → ∃ v₁ v₂, vals = #[v₁, v₂] ∧ Pr i v₁ v₂) (F : Fv env s₀ g (hid ++ cut s.heap wr) vs s) (hne : ∀ p ∈ hid, p.1 ∉ wr) (hst : St 0 s.heap)
    (J : Nat → Heap → List (Addr × Obj) → List (Str × Value) → Prop) (h0 : J 0 g hid vs)
    (step : ∀ Z i v₁ v₂ g₁ hid₁ vs₁ s₁ (P : Flow → Shared → Prop), (∀ g₂ hid₂ vs₂ s₂, Le g₁ g₂ → J (i + 1) g₂ hid₂ vs₂ → (∀ p ∈ hid₂, ∀ q ∈ Z, p.1 ≠ q.1) → Fv env s₀ g₂ (hid₂ ++ Z) vs₂ s₂ → P .next s₂) → Pr i v₁ v₂ → Le g g₁ → J i g₁ hid₁ vs₁ → (∀ p ∈ hid₁, ∀ q ∈ Z, p.1 ≠ q.1) → Fv env s₀ g₁ (hid₁ ++ Z) ((xb, v₂) :: (xa, v₁) :: vs₁) s₁ →
      wpAny (model prog w) A (execs body env) P (fun _ _ => False) s₁)
    (done : ∀ g₁ hid₁ vs₁ s₁, Le g g₁ → J n g₁ hid₁ vs₁ → Fv env s₀ g₁ hid₁ vs₁ s₁ → R (.ok .next) s₁)
    (hk : env.scope.kind = .function) (hoka : kOk env xa = true) (hfa : (env.kindOf xa == some .free) = false) (hokb : kOk env xb = true) (hfb : (env.kindOf xb == some .free) = false) :
    codeAny (model prog w) A (.forLoop (.Tuple [.Name xa pa, .Name xb pb] x1 pt) (.ref I) body [] env) R s := by
  refine codeAny_forLoop_any (TInv env s₀ g wr n St J) ?_ (n + 1) ⟨0, g, hid, vs, Le.refl _, h0, hne, F, hst, Nat.zero_le _, rfl⟩
  rintro k s' ⟨i, g₁, hid₁, vs₁, hl, hJ, hne₁, F₁, hst₁, hi, hk'⟩
  by_cases hlt : i < n
  · refine W.item i _ _ _ hlt hst₁ fun T vals h₁ tk hPt hTs hT hM hk₁ => ?_
    obtain ⟨v₁, v₂, hv, hPr⟩ := hP i vals hPt
    have F₂ := F₁.turnW (t := tk) hne₁ (hlive _ _ hst₁) hk₁
    refine W.go _ _ _ i T _ _ _ hM fun h₂ hst₂ hk₂ => ?_
    have F₃ := F₂.turnW (t := tk) hne₁ (hliveM _ _ _ hM) hk₂
    have live₂ := hlive _ _ hst₂
    have hTa : h₂.IsTuple T #[v₁, v₂] := hv ▸ (tuple_mv hT fun o e => hk₂ _ _ (W.apart _ _ _ hM) e)
    refine wpAny_assign_Tuple hh hTa rfl rfl fun h₃ hx₃ => ?_
    have F₄ := F₃.mk' (h := h₃) (t := tk) (fun b o e => hx₃ b o (Nat.ne_of_lt (Heap.lt_size e)) e)
    show wpAny _ _ (do holding [v₂] (assign (.Name xa pa) env v₁); do holding [] (assign (.Name xb pb) env v₂); pure ()) _ _ _
    refine wpAny_bind (wpAny_holding (wpAny_assign_Name (F₄.st (fun s₄ F₅ => ?_) hk hoka hfa)))
    refine wpAny_bind (wpAny_holding (wpAny_assign_Name (F₅.st (fun s₅ F₆ => wpAny_pure ?_) hk hokb hfb)))
    refine wpAny_mono (step _ i _ _ g₁ hid₁ vs₁ s₅ (fun f s => f = .next ∧ ∃ m, m < k ∧ TInv env s₀ g wr n St J m s) (fun g₂ hid₂ vs₂ s₆ hl₂ hJ₂ hne₃ F₉ => ⟨rfl, ?_⟩) hPr hl hJ (fun p hp q hq e => hne₁ p hp (e ▸ (cut_mem.mp hq).1)) F₆) (fun f s₆ h₆ => by obtain ⟨rfl, h₆⟩ := h₆; exact h₆) fun _ _ x => x.elim
    have at9 : ∀ b ∈ wr, ∀ o, h₂.get? b = some o → s₆.heap.get? b = some o := fun b hb o e => F₉.hidAt (List.mem_append_right _ (cut_mem.mpr ⟨hb, e⟩))
    refine ⟨n + 1 - (i + 1), by rw [hk']; exact sub_dec hlt, i + 1, g₂, hid₂, vs₂, hl.trans hl₂, hJ₂, fun p hp hm => ?_, F₉.drop fun p hp => ?_, W.frame _ _ _ hst₂ fun b hb o e => ?_, hlt, rfl⟩
    · obtain ⟨o, ho⟩ := live₂ _ hm
      exact hne₃ p hp (p.1, o) (cut_mem.mpr ⟨hm, ho⟩) rfl
    · rcases List.mem_append.mp hp with hp | hp
      · exact List.mem_append_left _ hp
      · obtain ⟨h1, h2⟩ := cut_mem.mp hp
        obtain ⟨o, ho⟩ := live₂ _ h1
        have := at9 _ h1 _ ho
        rw [h2] at this; cases this
        exact List.mem_append_right _ (cut_mem.mpr ⟨h1, ho⟩)
    · rcases hfp b hb with hm | ⟨o', ho'⟩
      · exact at9 b hm o e
      · have h1 := F₃.keep _ _ (hl _ _ ho')
        have h1 : h₂.get? b = some o' := h1
        rw [e] at h1; cases h1
        exact F₉.keep _ _ (hl₂ _ _ (hl _ _ ho'))
  · have hin : i = n := Nat.le_antisymm hi (Nat.not_lt.mp hlt)
    subst hin
    refine W.done _ _ _ hst₁ fun h' tk hk₁ => wpAny_execs_nil (done g₁ hid₁ vs₁ _ hl hJ ((F₁.turnW (t := tk) hne₁ (hlive _ _ hst₁) hk₁).drop fun p hp => List.mem_append_left _ hp))

theorem for_zip {xa xb : Str} {pa pb pt pos : Pos} {x1} {iter : Expr} {body : List Stmt} {l2 : Addr} {ys : Array Value} {Q : Flow → Shared → Prop} {E : Value → Shared → Prop}
    (hh : A.handled = none) (F : Fv env s₀ g hid vs s) (Px : Nat → Value → Prop)
    (ho : ∀ Q' : Value → Shared → Prop, (∀ s₁ l1 (xs : Array Value), Keeps s s₁ → s.heap.get? l1 = none → s₁.heap.IsList l1 xs → xs.size = ys.size → (∀ i x, xs[i]? = some x → Px i x) → wpAny (model prog w) A (call (.type "zip") [.ref l1, .ref l2]) Q' E s₁) → wpAny (model prog w) A (eval iter env) Q' E s) (hl2 : g.IsList l2 ys)
    (J : Nat → Heap → List (Addr × Obj) → List (Str × Value) → Prop) (h0 : ∀ g', Le g g' → J 0 g' hid vs)
    (step : ∀ Z i x y g₁ hid₁ vs₁ s₁ (P : Flow → Shared → Prop), (∀ g₂ hid₂ vs₂ s₂, Le g₁ g₂ → J (i + 1) g₂ hid₂ vs₂ → (∀ p ∈ hid₂, ∀ q ∈ Z, p.1 ≠ q.1) → Fv env s₀ g₂ (hid₂ ++ Z) vs₂ s₂ → P .next s₂) → Px i x → ys[i]? = some y → Le g g₁ → J i g₁ hid₁ vs₁ → (∀ p ∈ hid₁, ∀ q ∈ Z, p.1 ≠ q.1) → Fv env s₀ g₁ (hid₁ ++ Z) ((xb, y) :: (xa, x) :: vs₁) s₁ →
      wpAny (model prog w) A (execs body env) P (fun _ _ => False) s₁)
    (done : ∀ g₁ hid₁ vs₁ s₁, Le g g₁ → J ys.size g₁ hid₁ vs₁ → Fv env s₀ g₁ hid₁ vs₁ s₁ → Q .next s₁)
    (hk : env.scope.kind = .function := by rfl) (hoka : kOk env xa = true := by rfl) (hfa : (env.kindOf xa == some .free) = false := by rfl) (hokb : kOk env xb = true := by rfl) (hfb : (env.kindOf xb == some .free) = false := by rfl)
    (hs : ∀ x, foldedSetIterable iter env x = pure x := by intro _; rfl) :
    wpAny (model prog w) A (exec (.For (.Tuple [.Name xa pa, .Name xb pb] x1 pt) iter body [] pos) env) Q E s := by
  refine wpAny_For (ho _ fun s₁ l1 xs k₁ hl1n hl1 hsz hPx => ?_) hs
  obtain ⟨g', F₁, lg', n'⟩ := F.new k₁
  have hl1g : g'.IsList l1 xs := lnew hl1 hl1n n'
  have hl2g : g'.IsList l2 ys := hl2.at fun o e => lg' _ o e
  have hl2s : s₁.heap.IsList l2 ys := hl2g.at fun o e => F₁.keep _ o e
  refine call_zip_2 hl1 hl2s fun H hz hTI hTO hi1 hi2 hHs hkH => ?_
  have hl1N : l1 < s₁.heap.objs.size := by obtain ⟨o, ho, _⟩ := hl1; exact Heap.lt_size ho
  have hl2N : l2 < s₁.heap.objs.size := by obtain ⟨o, ho, _⟩ := hl2s; exact Heap.lt_size ho
  have W := WalksT.zip2 (prog := prog) (w := w) (A := A) hh (s₁.heap.objs.size + 4) (s₁.heap.objs.size + 2) (s₁.heap.objs.size + 3) s₁.heap.objs.size (s₁.heap.objs.size + 1) l1 l2 (zapart hl1N hl2N) xs ys
  have hmin : min xs.size ys.size = ys.size := by rw [hsz, Nat.min_self]
  rw [hmin] at W
  have hge : ∀ b ∈ [s₁.heap.objs.size + 4, s₁.heap.objs.size + 3, s₁.heap.objs.size, s₁.heap.objs.size + 1], s₁.heap.get? b = none := fun b hb => get_ge _ (by
    simp only [List.mem_cons, List.not_mem_nil, or_false] at hb
    rcases hb with rfl | rfl | rfl | rfl
    · exact Nat.le_add_right _ _
    · exact Nat.le_add_right _ _
    · exact Nat.le_refl _
    · exact Nat.le_add_right _ _)
  have live : ∀ i h, (IsZip h (s₁.heap.objs.size + 4) (s₁.heap.objs.size + 2) (s₁.heap.objs.size + 3) .none ∧ IsPair h (s₁.heap.objs.size + 2) (.ref s₁.heap.objs.size) (.ref (s₁.heap.objs.size + 1)) ∧ (∃ a b, IsPair h (s₁.heap.objs.size + 3) a b) ∧ h.IsListIter s₁.heap.objs.size l1 i ∧ h.IsListIter (s₁.heap.objs.size + 1) l2 i ∧ h.IsList l1 xs ∧ h.IsList l2 ys) →
      ∀ b ∈ [s₁.heap.objs.size + 4, s₁.heap.objs.size + 3, s₁.heap.objs.size, s₁.heap.objs.size + 1], ∃ o, h.get? b = some o := by
    rintro i h ⟨c1, _, ⟨_, _, c2⟩, ⟨o3, c3, _⟩, ⟨o4, c4, _⟩, _⟩ b hb
    simp only [List.mem_cons, List.not_mem_nil, or_false] at hb
    rcases hb with rfl | rfl | rfl | rfl
    · exact ⟨_, c1⟩
    · exact ⟨_, c2⟩
    · exact ⟨o3, c3⟩
    · exact ⟨o4, c4⟩
  obtain ⟨hT1, hT2, hT3⟩ := F₁.apartFrom (b := s₁.heap.objs.size + 2) (get_ge _ (Nat.le_add_right _ _))
  obtain ⟨g'', F₃, lg'', nw⟩ := (F₁.hides (Z := cut H [s₁.heap.objs.size + 4, s₁.heap.objs.size + 3, s₁.heap.objs.size, s₁.heap.objs.size + 1]) (keeps_mk s₁ (t := s₁.toks) hkH) (fun p hp => ⟨hge p.1 (cut_mem.mp hp).1, (cut_mem.mp hp).2⟩)).grow
  have hTIg := nw _ _ hTI hT1 hT2 (fun p hp => by
    rcases List.mem_append.mp hp with hp | hp
    · exact hT3 p hp
    · have hm := (cut_mem.mp hp).1
      rintro e
      rw [← e] at hm
      simp only [List.mem_cons, List.not_mem_nil, or_false] at hm
      have hm : (s₁.heap.objs.size : Nat) + 2 = s₁.heap.objs.size + 4 ∨ (s₁.heap.objs.size : Nat) + 2 = s₁.heap.objs.size + 3 ∨ (s₁.heap.objs.size : Nat) + 2 = s₁.heap.objs.size ∨ (s₁.heap.objs.size : Nat) + 2 = s₁.heap.objs.size + 1 := hm
      omega)
  refine wpAny_pyIter_zip hz ?_
  refine for_walksT (g := g'') (n := ys.size) (fun i v₁ v₂ => Px i v₁ ∧ ys[i]? = some v₂) hh W live ?_ ?_ (fun i vals h => ?_) F₃ (fun p hp hm => ?_) ⟨hz, hTI, ⟨_, _, hTO⟩, hi1, hi2, hl1.at fun o e => hkH _ _ e, hl2s.at fun o e => hkH _ _ e⟩ J (h0 _ (lg'.trans lg'')) (fun Z i v₁ v₂ g₁ hid₁ vs₁ s₂ P hPn hv hl hJ hn F' => step Z i v₁ v₂ g₁ hid₁ vs₁ s₂ P hPn hv.1 hv.2 ((lg'.trans lg'').trans hl) hJ hn F')
    (fun g₁ hid₁ vs₁ s₂ hl hJ F' => done g₁ hid₁ vs₁ s₂ ((lg'.trans lg'').trans hl) hJ F') hk hoka hfa hokb hfb
  · rintro i T h ⟨c1, _, ⟨_, _, c2⟩, ⟨o3, c3, _⟩, ⟨o4, c4, _⟩, _⟩ b hb
    simp only [List.mem_cons, List.not_mem_nil, or_false] at hb
    rcases hb with rfl | rfl | rfl | rfl
    · exact ⟨_, c1⟩
    · exact ⟨_, c2⟩
    · exact ⟨o3, c3⟩
    · exact ⟨o4, c4⟩
  · intro b hb
    simp only [List.mem_cons, List.not_mem_nil, or_false] at hb
    rcases hb with rfl | rfl | rfl | rfl | rfl | rfl | rfl
    · exact .inl (by simp)
    · exact .inr ⟨_, hTIg⟩
    · exact .inl (by simp)
    · exact .inl (by simp)
    · exact .inl (by simp)
    · obtain ⟨o, ho, _⟩ := hl1g; exact .inr ⟨o, lg'' _ _ ho⟩
    · obtain ⟨o, ho, _⟩ := hl2g; exact .inr ⟨o, lg'' _ _ ho⟩
  · obtain ⟨x, y, h1, h2, rfl⟩ := h
    exact ⟨x, y, rfl, hPx i x h1, h2⟩
  · have := (F₁.hid p hp).1
    rw [hge p.1 hm] at this; cases this
end Mine

-- part: FRul0
set_option maxHeartbeats 4000000
namespace Mine
open PySem PySem.W PyProof.Rows
variable {prog : Program} {w : World} {A : Around} {E : Value → Shared → Prop}

theorem new_tup {M : Model} {s : Shared} {vs : List Value} {Q : Value → Shared → Prop} (hsz : vs.length ≤ sizeLine) (h : ∀ t s', Keeps s s' → s.heap.get? t = none → s'.heap.IsTuple t vs.toArray → Q (.ref t) s') : wpAny M A (newTuple vs) Q E s :=
  wpAny_newObj_type (h _ _ (keeps_mk s (t := s.toks) (Le.push _ _)) (get_size _) ⟨_, Heap.get?_push_size _ rfl, rfl, _, rfl⟩) (by show vs.toArray.size ≤ sizeLine; rw [List.size_toArray]; exact hsz)
theorem new_lst {M : Model} {s : Shared} {vs : List Value} {Q : Value → Shared → Prop} (hsz : vs.length ≤ sizeLine) (h : ∀ t s', Keeps s s' → s.heap.get? t = none → s'.heap.IsList t vs.toArray → Q (.ref t) s') : wpAny M A (newList vs) Q E s :=
  wpAny_newObj_type (h _ _ (keeps_mk s (t := s.toks) (Le.push _ _)) (get_size _) ⟨_, Heap.get?_push_size _ rfl, rfl, _, rfl⟩) (by show vs.toArray.size ≤ sizeLine; rw [List.size_toArray]; exact hsz)

noncomputable def stepS (x : Str) (k : Int) : Str := if (k == 1 && (Builtin.Str.strSliceIndices none none k x.length).length == x.length) = true then x else ⟨((Builtin.Str.strSliceIndices none none k x.length).filterMap (x.cps[·]?)).toArray⟩

theorem slice_st {s : Shared} {env : Env} {value e : Expr} {p pos : Pos} {x : Str} {k : Int} {Q : Value → Shared → Prop} (hsz : (stepS x k).length ≤ sizeLine) (h0 : (k == 0) = false)
    (hv : wpAny (model prog w) A (eval value env) (fun o s₁ => (∃ tx, o = .str x tx) ∧ wpAny (model prog w) A (eval e env) (fun v s₂ => (∃ t, v = .int k t) ∧ ∀ t' s', Keeps s₂ s' → Q (.str (stepS x k) t') s') E s₁) E s)
    (ht : ∀ o r, letTemporaryGo value o r = pure () := by intro _ _; rfl) :
    wpAny (model prog w) A (eval (.Subscript value (.Slice none none (some e) p) pos) env) Q E s := by
  refine wpAny_Subscript_Slice_step (T := "str") F.slot_str_getitem.lookup (wpAny_mono hv (fun o s₁ h₁ => wpAny_Slice ?_) fun _ _ e => e) ht
  obtain ⟨⟨tx, rfl⟩, h₁⟩ := h₁
  rw [evalPart_none]
  refine wpAny_pure (wpAny_pure (wpAny_evalPart_some (wpAny_mono h₁ (fun v s₂ h₂ => ?_) fun _ _ e => e)))
  obtain ⟨⟨t, rfl⟩, h₂⟩ := h₂
  refine ⟨typeIs_str _ x tx, wpAny_getItem_str_slice (l := none) (u := none) (st := some (k, t)) ⟨_, Heap.get?_push_size _ rfl, rfl, rfl⟩ h0 ?_⟩
  exact PySem.post_val_or_str ⟨hsz, fun t' k => h₂ t' _ (keeps_mk s₂ (Le.push _ _))⟩

theorem for_id {x : Str} {px pos : Pos} {iter : Expr} {body : List Stmt} {d : Addr} {c : IC} {s s₀ : Shared} {g : Heap} {env : Env} {vs : List (Str × Value)} {hid : List (Addr × Obj)} {Q : Flow → Shared → Prop} {E : Value → Shared → Prop}
    (hh : A.handled = none) (F : Fv env s₀ g hid vs s)
    (ho : ∀ Q' : Value → Shared → Prop, (∀ s', Keeps s s' → Q' (.ref d) s') → wpAny (model prog w) A (eval iter env) Q' E s) (hd : ID prog w g d c)
    (J : Nat → Heap → List (Addr × Obj) → List (Str × Value) → Prop) (h0 : J 0 g hid vs)
    (step : ∀ I i k n t g₁ hid₁ vs₁ oi s₁ (P : Flow → Shared → Prop), (∀ g₂ hid₂ vs₂ s₂, Le g₁ g₂ → J (i + 1) g₂ hid₂ vs₂ → (∀ p ∈ hid₂, p.1 ≠ I) → Fv env s₀ g₂ (hid₂ ++ [(I, oi)]) vs₂ s₂ → P .next s₂) → (∀ v s₂, Q (.ret v) s₂ → P (.ret v) s₂) → c[i]? = some (k, n) → Le g g₁ → J i g₁ hid₁ vs₁ → (∀ p ∈ hid₁, p.1 ≠ I) → Fv env s₀ g₁ (hid₁ ++ [(I, oi)]) ((x, .str k t) :: vs₁) s₁ →
      wpAny (model prog w) A (execs body env) P (fun _ _ => False) s₁)
    (done : ∀ g₁ hid₁ vs₁ s₁, Le g g₁ → J c.length g₁ hid₁ vs₁ → Fv env s₀ g₁ hid₁ vs₁ s₁ → Q .next s₁)
    (hk : env.scope.kind = .function := by rfl) (hok : kOk env x = true := by rfl) (hfx : (env.kindOf x == some .free) = false := by rfl)
    (hs : ∀ x, foldedSetIterable iter env x = pure x := by intro _; rfl) :
    wpAny (model prog w) A (exec (.For (.Name x px) iter body [] pos) env) Q E s := by
  obtain ⟨hds, kvs, hd, ht⟩ := hd
  refine wpAny_For (ho _ fun s₁ k₁ => ?_) hs
  have F₁ := F.keeps k₁
  obtain ⟨ep, hda⟩ := hd.dictAt
  have hda₁ := hda.keep F₁.keep
  refine wpAny_pyIter_dict hds hda₁ ?_
  generalize hI : s₁.heap.objs.size = I
  have hIn : s₁.heap.get? I = none := hI ▸ get_size _
  have hne : ∀ p ∈ hid, p.1 ≠ I := fun p hp e => by
    have := (F₁.hid p hp).1
    rw [e, hIn] at this; cases this
  have hdI : d ≠ I := Nat.ne_of_lt (hI ▸ hda₁.lt_size)
  have hgI := Heap.get?_push_size s₁.heap (o := { cls := .type "dict_keyiterator", data := .fields #[.ref d, .int 0 0, .int kvs.length 0, .int ep 0] }) rfl
  rw [hI] at hgI
  have F₂ := F₁.hide (keeps_mk s₁ (t := s₁.toks) (Le.push s₁.heap _)) hIn hgI
  refine for_walks (Walks.dictKeys hh I d hdI kvs ep) (fun b hb => ?_) (fun i h st => ?_) (oI := { cls := .type "dict_keyiterator", data := .fields #[.ref d, .int 0 0, .int kvs.length 0, .int ep 0] }) (F₂.drop fun p hp => ?_) hne ⟨⟨_, hgI, rfl, rfl⟩, hda₁.push _⟩ J h0 (fun i v g₁ hid₁ vs₁ oi s₁ P hPn hPr hi hP hl hJ hn F => ?_) (fun g₁ hid₁ vs₁ s₁ hl hJ F => done g₁ hid₁ vs₁ s₁ hl (ht.length ▸ hJ) F) hk hok hfx
  · simp only [List.mem_cons, List.not_mem_nil, or_false] at hb
    rcases hb with rfl | rfl
    · exact .inl rfl
    · obtain ⟨o, _, ho, _⟩ := hda; exact .inr ⟨o, ho⟩
  · obtain ⟨⟨o, ho, _⟩, _⟩ := st; exact ⟨o, ho⟩
  · rcases List.mem_append.mp hp with h | h
    · exact List.mem_cons_of_mem _ h
    · rw [List.mem_singleton.mp h]; exact List.mem_cons_self
  · obtain ⟨q, x', hx, hq⟩ := hP
    obtain ⟨t, rfl⟩ := Value.isStrOf_shape hq
    obtain ⟨n, _, hc, _⟩ := ht.get hx
    exact step I i q n t g₁ hid₁ vs₁ oi s₁ P hPn hPr hc hl hJ hn F
end Mine

-- part: FRul
set_option maxHeartbeats 4000000
namespace Mine
open PySem PySem.W PyProof.Rows
variable {prog : Program} {w : World} {A : Around} {E : Value → Shared → Prop}

noncomputable def IL (h : Heap) (a : Addr) (R : List Int) : Prop := ∃ items, h.IsList a items ∧ Paired (fun (i : Int) v => ∃ t, v = .int i t) R items.toList
theorem IL.le {h h' : Heap} {a : Addr} {R : List Int} (x : IL h a R) (k : Le h h') : IL h' a R := let ⟨i, l, p⟩ := x; ⟨i, l.at fun o e => k _ o e, p⟩
noncomputable def RowsAt (h : Heap) (a : Addr) (Rs : List (List Int)) : Prop := ∃ items, h.IsList a items ∧ Paired (fun R v => ∃ r, v = .ref r ∧ IL h r R) Rs items.toList
theorem RowsAt.le {h h' : Heap} {a : Addr} {Rs : List (List Int)} (x : RowsAt h a Rs) (k : Le h h') : RowsAt h' a Rs :=
  let ⟨i, l, p⟩ := x; ⟨i, l.at fun o e => k _ o e, p.mono fun _ _ ⟨r, e, q⟩ => ⟨r, e, q.le k⟩⟩
noncomputable def Trit (v : Int) : Prop := v = -1 ∨ v = 0 ∨ v = 1
noncomputable def GoodR (R : List Int) : Prop := R.length = 4 ∧ ∀ v ∈ R, Trit v

noncomputable def revS (x : Str) : Str := stepS x (-1)
noncomputable def nKeys (p : Str) : List Str := [p, revS p, strT "a", strT "b", strT "c", strT ""]
noncomputable def noughtOf (p : Str) (R : List Int) : IC := [(p, 1), (revS p, -1), (strT "a", -R.getD 0 0), (strT "b", -R.getD 1 0), (strT "c", -R.getD 2 0), (strT "", -R.getD 3 0)]
theorem nought_keys (p : Str) (R : List Int) : (noughtOf p R).map (·.1) = nKeys p := rfl
noncomputable def leadStep (way : Int) (lead x : Str) : Str := if decide (cmpS way (x.length : Int) x (lead.length : Int) lead < 0) = true then x else lead
noncomputable def leadOf (way : Int) (p : Str) : Str := (nKeys p).foldl (leadStep way) (strT "")
noncomputable def ruleOf (way : Int) (p : Str) (R : List Int) : Str × IC :=
  (leadOf way p, foldC (fun k => k) (fun k => -((getC (noughtOf p R) (leadOf way p)).getD 0) * (getC (noughtOf p R) k).getD 0)
    ((nKeys p).filter fun k => k != leadOf way p && (getC (noughtOf p R) k).getD 0 != 0))
noncomputable def pairsS : List Str := [strT "bc", strT "ca", strT "ab"]
noncomputable def rlOf (way : Int) (Rs : List (List Int)) : List (Str × IC) := List.zipWith (ruleOf way) pairsS Rs

theorem pair_ok {way : Int} (hw : way = 1 ∨ way = -1) : ∀ p ∈ pairsS, (nKeys p).Nodup ∧ leadOf way p ∈ nKeys p ∧ (∀ k ∈ nKeys p, k.length ≤ 2) ∧ (revS p).length ≤ 2 := by
  rcases hw with rfl | rfl <;> decide +kernel
theorem leads_ok {way : Int} (hw : way = 1 ∨ way = -1) : (pairsS.map (leadOf way)).Nodup := by
  rcases hw with rfl | rfl <;> decide +kernel

theorem il_at {h : Heap} {r : Addr} {R : List Int} (x : IL h r R) {j : Nat} (hj : j < R.length) : ∃ items t, h.IsList r items ∧ items[j]? = some (.int (R.getD j 0) t) := by
  obtain ⟨items, hl, hp⟩ := x
  have hlen := hp.length
  obtain ⟨v, hv⟩ : ∃ v, items.toList[j]? = some v := ⟨_, List.getElem?_eq_getElem (by rw [← hlen]; exact hj)⟩
  obtain ⟨i, hi, t, rfl⟩ := paired_get hp hv
  refine ⟨items, t, hl, ?_⟩
  rw [← Array.getElem?_toList, hv, List.getD_eq_getElem?_getD, hi]; rfl

theorem sub_il {s : Shared} {value slice : Expr} {r : Addr} {R : List Int} {j : Nat} {tk : Tok} {Q : Value → Shared → Prop} (x : IL s.heap r R) (hj : j < R.length) (hj4 : j ≤ 4)
    (h : ∀ t, Q (.int (R.getD j 0) t) s) (hs : subscripted slice false (.ref r) (.int (j : Int) tk) = operate [.ref r, .int (j : Int) tk] (getItem (.ref r) (.int (j : Int) tk)) := by with_unfolding_all rfl) :
    wpAny (model prog w) A (subscriptTail value slice (.ref r) (.int (j : Int) tk)) Q E s := by
  obtain ⟨items, t, hl, hi⟩ := il_at x hj
  have h0 : (0 : Int) ≤ (j : Int) := Int.natCast_nonneg j
  have h63 : (j : Int) < 2 ^ 63 := Int.lt_of_le_of_lt (Int.ofNat_le.mpr hj4) (by decide)
  exact tail_any hl.typeIs slot_list_getitem.lookup (wpAny_getItem_list hl h0 h63 (x := .int (R.getD j 0) t) (by simpa using hi) (h t)) hs
end Mine

-- part: FRul2
set_option maxHeartbeats 40000000
namespace Mine
open PySem PySem.W PyProof.Rows
variable {prog : Program} {w : World} {A : Around} {E : Value → Shared → Prop}

theorem getD_trit {R : List Int} (h : GoodR R) (j : Nat) : Trit (R.getD j 0) := by
  rw [List.getD_eq_getElem?_getD]
  cases e : R[j]? with
  | none => exact .inr (.inl rfl)
  | some v => exact h.2 v (List.mem_of_getElem? e)
theorem trit_neg {v : Int} (h : Trit v) : Trit (-v) := by
  rcases h with rfl | rfl | rfl
  · exact .inr (.inr rfl)
  · exact .inr (.inl rfl)
  · exact .inl rfl
theorem trit_bits {v : Int} (h : Trit v) : Builtin.Int.intBits v ≤ 64 := by
  rcases h with rfl | rfl | rfl <;> decide
theorem nought_trit {p : Str} {R : List Int} (h : GoodR R) (k : Str) : Trit ((getC (noughtOf p R) k).getD 0) := by
  have key : ∀ (c : IC), (∀ q ∈ c, Trit q.2) → Trit ((getC c k).getD 0) := by
    intro c hc
    unfold getC
    cases e : c.find? fun q => decide (q.1 = k) with
    | none => exact .inr (.inl rfl)
    | some q => exact hc q (List.mem_of_find?_eq_some e)
  refine key _ fun q hq => ?_
  simp only [noughtOf, List.mem_cons, List.not_mem_nil, or_false] at hq
  rcases hq with rfl | rfl | rfl | rfl | rfl | rfl
  · exact .inr (.inr rfl)
  · exact .inl rfl
  all_goals exact trit_neg (getD_trit h _)

/-- a table of rules, laid after h₀ with all that is in it -/
noncomputable def RulesNew (prog : Program) (w : World) (h₀ h : Heap) (a : Addr) (rl : List (Str × IC)) : Prop :=
  h₀.get? a = none ∧ (a == sysModules) = false ∧ ∃ kvs, h.DictOf (strKind prog w) a kvs ∧ Paired (fun kv p => kv.1 = p.1 ∧ ∃ d, kv.2 = .ref d ∧ ID prog w h d p.2 ∧ h₀.get? d = none) kvs rl
theorem RulesNew.at {prog w h₀ h a rl} (x : RulesNew prog w h₀ h a rl) {g : Heap} (k : ∀ b o, h₀.get? b = none → h.get? b = some o → g.get? b = some o) : RulesAt prog w g a rl :=
  let ⟨n, z, kvs, d, p⟩ := x; ⟨z, kvs, d.at fun o e => k _ o n e, p.mono fun _ _ ⟨e, d, e', i, m⟩ => ⟨e, d, e', i.at fun o e => k _ o m e⟩⟩

noncomputable def RulesJ (prog : Program) (w : World) (h₀ : Heap) (way : Int) (Rs : List (List Int)) (d x : Addr) (i : Nat) (g : Heap) (hid : List (Addr × Obj)) (vs : List (Str × Value)) : Prop :=
  ∃ o kvs, hid = [(d, o)] ∧ o.IsDictOf (strKind prog w) kvs ∧ Paired (fun kv p => kv.1 = p.1 ∧ ∃ e, kv.2 = .ref e ∧ ID prog w g e p.2 ∧ h₀.get? e = none) kvs ((rlOf way Rs).take i) ∧
    vs.lookup (strT "keys") = some (.ref x) ∧ vs.lookup (strT "rules") = some (.ref d)

theorem paired_keys {α β : Type} {rel : α → β → Prop} {f : α → Str} {g : β → Str} {xs : List α} {ys : List β} (h : Paired rel xs ys) (e : ∀ a b, rel a b → f a = g b) : xs.map f = ys.map g := by
  induction h with
  | nil => rfl
  | cons h _ ih => rw [List.map_cons, List.map_cons, ih, e _ _ h]
theorem nodup_take {α : Type} {l : List α} (hn : l.Nodup) {i : Nat} {a : α} (h : l[i]? = some a) : a ∉ l.take i := by
  intro hm
  obtain ⟨j, hj⟩ := List.mem_iff_getElem?.mp hm
  rw [List.getElem?_take] at hj
  split at hj
  · rename_i hji
    have hjl : j < l.length := (List.getElem?_eq_some_iff.mp hj).1
    have := (List.getElem?_inj hjl hn).mp (hj.trans h.symm)
    omega
  · cases hj
theorem rule_fst {way : Int} (p : Str) (R : List Int) : (ruleOf way p R).1 = leadOf way p := by simp only [ruleOf]
theorem zip_keys {way : Int} : ∀ {ps : List Str} {Rs : List (List Int)}, Rs.length = ps.length → (List.zipWith (ruleOf way) ps Rs).map (·.1) = ps.map (leadOf way)
  | [], [], _ => rfl
  | p :: ps, R :: Rs, h => by
    rw [List.zipWith_cons_cons, List.map_cons, List.map_cons, zip_keys (Nat.succ.inj h), rule_fst]
theorem lead_fresh {way : Int} (hw : way = 1 ∨ way = -1) {Rs : List (List Int)} (hl : Rs.length = 3) {i : Nat} {p : Str} (hp : pairsS[i]? = some p) : leadOf way p ∉ ((rlOf way Rs).take i).map (·.1) := by
  unfold rlOf
  rw [List.map_take, zip_keys hl]
  exact nodup_take (leads_ok hw) (by rw [List.getElem?_map, hp]; rfl)
theorem rl_len {way : Int} {Rs : List (List Int)} (i : Nat) : ((rlOf way Rs).take i).length ≤ 3 := by
  unfold rlOf
  rw [List.length_take, List.length_zipWith]
  exact Nat.le_trans (Nat.min_le_right _ _) (Nat.min_le_left _ _)
theorem rl_take {way : Int} {Rs : List (List Int)} {n : Nat} (h : 3 ≤ n) : (rlOf way Rs).take n = rlOf way Rs := by
  refine List.take_of_length_le (Nat.le_trans ?_ h)
  unfold rlOf
  rw [List.length_zipWith]; exact Nat.min_le_left _ _
theorem lead_take {way : Int} (p : Str) (R : List Int) : ((nKeys p).take (noughtOf p R).length).foldl (leadStep way) (strT "") = leadOf way p := by
  have h6 : (noughtOf p R).length = (nKeys p).length := by rw [← nought_keys p R, List.length_map]
  rw [h6, List.take_length]; unfold leadOf; exact Eq.refl _
theorem pg_cm (w : World) : plainGet (KK w) 87 (strT "compare") = true := by rfl

theorem rules_ok {s : Shared} {aRows : Addr} {way : Int} {tw : Tok} {Rs : List (List Int)} {Q : Value → Shared → Prop} (B : Bs w s.heap) (hA : Rm A 5) (hw : way = 1 ∨ way = -1)
    (hR : RowsAt s.heap aRows Rs) (hl : Rs.length = 3) (hg : ∀ R ∈ Rs, GoodR R)
    (hQ : ∀ d s', Keeps s s' → RulesNew prog w s.heap s'.heap d (rlOf way Rs) → Q (.ref d) s') : wpAny (model prog w) A (call (.ref 113) [.ref aRows, .int way tw]) Q E s := by
  refine enter (binds := [(Str.ofString "rows", .ref aRows), (Str.ofString "way", .int way tw)]) B hA (by rfl) (by rfl) (by rfl) (by rfl) (fun A' n Q' s₁ hD hq F => ?_)
  have B1 := B.le (keeps_le F.outer)
  -- keys
  refine stm (wpAny_Assign_Name (wpAny_Call_NameR (B1.ld (v := .ref 87) (by rfl) ?_)))
  refine callWith_K B1.K (kp_tc w) (args_cons (PyProof.Rows.List_ (args_cons (PyProof.Rows.Tuple_ (args_cons (wpAny_Constant_int (args_cons (wpAny_UnaryOp (wpAny_Constant_int (PyProof.Rows.neg_int (args_nil ?_))))))))))) 
  refine new_tup (by size_fits) fun t1 s₂ k2 n2 ht1 => ?_
  have k2 := keeps_trans (keeps_tok s₁ _) k2
  have F2 := F.keeps k2
  refine args_cons (PyProof.Rows.Tuple_ (args_cons (wpAny_Constant_int (args_cons (F2.rd.ld' (by rfl) (args_nil ?_))))))
  refine new_tup (by size_fits) fun t2 s₃ k3 n3 ht2 => ?_
  have k3' := keeps_trans k2 (keeps_trans (keeps_tok s₂ _) k3)
  refine args_nil (new_lst (by size_fits) fun lK s₄ k4 n4 hlK => ?_)
  have k4' := keeps_trans k3' k4
  have B4 := B1.le (keeps_le k4')
  refine args_nil ⟨B4.K, ?_⟩
  refine tc_make B4 (hD.less (by decide)) fun x dx es n s₅ k5 n5 n5' hI hg1 hg2 => ?_
  obtain ⟨g1, F5, l1, nw⟩ := F.new (keeps_trans k4' k5)
  have nn : ∀ b o, s₁.heap.get? b = none → s₄.heap.get? b = some o → g1.get? b = some o := fun b o h1 h2 => nw b o h1 (keeps_le k5 _ _ h2)
  have nt1 := none_of_keeps (keeps_tok s₁ s₁.toks) n2
  have hTC : TC g1 x way := ⟨lK, t1, t2, _, _, _, _, ⟨nw _ _ (none_of_keeps k4' n5) hI.x, nw _ _ (none_of_keeps k4' n5') hI.d⟩, hg1, hg2,
    hlK.at fun o e => nn _ _ (none_of_keeps k3' n4) e,
    (tuple_mv (tuple_le ht1 ((keeps_le (keeps_trans (keeps_tok s₂ _) k3)).trans (keeps_le k4))) fun o e => nn _ _ n2 e),
    (tuple_mv (tuple_le ht2 (keeps_le k4)) fun o e => nn _ _ (none_of_keeps k2 n3) e)⟩
  refine F5.st fun s₆ F6 => ?_
  -- rules
  refine stm (wpAny_Assign_Name (wpAny_Dict_empty ?_))
  generalize hd : s₆.heap.objs.size = d
  have hdn : s₆.heap.get? d = none := hd ▸ get_size _
  have hdS : (d == sysModules) = false := (B.le (keeps_le F6.outer)).notMods hdn
  obtain ⟨o0, ho0, hD0⟩ := Heap.dictOf_iff.mp (Heap.DictOf.new (knd := strKind prog w) s₆.heap)
  rw [hd] at ho0
  have F7 := F6.hide (keeps_mk s₆ (t := s₆.toks) (Le.push s₆.heap _)) hdn ho0
  have hd0 : s.heap.get? d = none := none_of_keeps F6.outer hdn
  refine F7.st fun s₇ F8 => ?_
  have B8 := B.le (keeps_le F8.outer)
  obtain ⟨items, hli, hpi⟩ := id hR
  have hlen : items.size = 3 := by have := hpi.length; rw [hl] at this; simpa using this.symm
  refine stm (for_zip (l2 := aRows) (ys := items) hD.hh F8 (fun i v => ∃ p t, pairsS[i]? = some p ∧ v = .str p t) (fun Q' q => ?_) (hli.at fun o e => l1 _ _ (F.base _ _ e)) (RulesJ prog w s.heap way Rs d x)
    (fun g' _ => ⟨o0, [], rfl, hD0, by rw [List.take_zero]; exact .nil, by rfl, by rfl⟩) ?_ ?_)
  · refine wpAny_Call_NameR (B8.ldB (v := .type "zip") (by rfl) (by rfl) (by decide) ?_)
    refine PyProof.Rows.callWith_type1 (args_cons (PyProof.Rows.List_ (args_cons (wpAny_Constant_str (args_cons (wpAny_Constant_str (args_cons (wpAny_Constant_str (args_nil ?_)))))))))
    refine new_lst (by size_fits) fun lZ s₉ k9 n9 hlZ => ?_
    have k9' := keeps_trans (keeps_tok s₇ _) k9
    refine args_cons ((F8.keeps k9').ld (by rfl) (args_nil (q s₉ lZ _ k9' n9 hlZ (by rw [hlen]; rfl) ?_)))
    intro i v hv
    match i, hv with
    | 0, hv => simp at hv; exact ⟨_, _, rfl, hv.symm⟩
    | 1, hv => simp at hv; exact ⟨_, _, rfl, hv.symm⟩
    | 2, hv => simp at hv; exact ⟨_, _, rfl, hv.symm⟩
    | i + 3, hv => simp at hv
  · rintro Z i v y g₁ hid₁ vs₁ s₉ Pz hPz ⟨p, tp, hp, rfl⟩ hy hlg ⟨o, kvs, rfl, hO, hP, vk, vr⟩ hne F9
    obtain ⟨R, hRi, r, rfl, hILr⟩ := paired_get hpi (by rw [Array.getElem?_toList]; exact hy)
    have hpm := List.mem_of_getElem? hp
    obtain ⟨hnd, hlead, hk2, hrv⟩ := pair_ok hw p hpm
    have hGR := hg R (List.mem_of_getElem? hRi)
    have hIL9 : IL g₁ r R := hILr.le (F8.base.trans hlg)
    have B9 := B.le (keeps_le F9.outer)
    have hp2 : p.length ≤ 2 := hk2 p List.mem_cons_self
    -- nought
    refine stm (wpAny_Assign_Name (disp_id (c := noughtOf p R) B9 (fun Q' s' k q => ?_) (by rw [nought_keys]; exact hnd) (fun aN s₁₀ k10 n10 hIN => ?_)))
    · have Fk := (F9.keeps k).rd
      refine pairTrees_cons_walk (Fk.ld' (by rfl) (wpAny_Constant_int (pairTrees_cons_walk (slice_st (k := -1) (x := p) (by rw [sizeLine_eq]; exact Nat.le_trans hrv (by decide)) (by rfl)
        (Fk.ld' (by rfl) ⟨⟨_, rfl⟩, wpAny_UnaryOp (wpAny_Constant_int (PyProof.Rows.neg_int ⟨⟨_, rfl⟩, fun t' s4 k4 => ?_⟩))⟩)))))
      have kk := keeps_trans (keeps_tok s' _) k4
      have R4 := Fk.le (keeps_le kk)
      have hIL4 := hIL9.le (F9.keep.trans ((keeps_le k).trans (keeps_le kk)))
      refine wpAny_UnaryOp (wpAny_Constant_int (PyProof.Rows.neg_int ?_))
      refine pairTrees_cons_walk (wpAny_Constant_str (wpAny_UnaryOp (Subscript_ (R4.ld' (by rfl) (wpAny_Constant_int (sub_il (j := 0) hIL4 (by rw [hGR.1]; decide) (by decide) fun t0 => PyProof.Rows.neg_int ?_))))))
      refine pairTrees_cons_walk (wpAny_Constant_str (wpAny_UnaryOp (Subscript_ (R4.ld' (by rfl) (wpAny_Constant_int (sub_il (j := 1) hIL4 (by rw [hGR.1]; decide) (by decide) fun t0 => PyProof.Rows.neg_int ?_))))))
      refine pairTrees_cons_walk (wpAny_Constant_str (wpAny_UnaryOp (Subscript_ (R4.ld' (by rfl) (wpAny_Constant_int (sub_il (j := 2) hIL4 (by rw [hGR.1]; decide) (by decide) fun t0 => PyProof.Rows.neg_int ?_))))))
      refine pairTrees_cons_walk (wpAny_Constant_str (wpAny_UnaryOp (Subscript_ (R4.ld' (by rfl) (wpAny_Constant_int (sub_il (j := 3) hIL4 (by rw [hGR.1]; decide) (by decide) fun t0 => PyProof.Rows.neg_int ?_))))))
      exact pairTrees_nil_walk (q _ _ (keeps_trans kk (keeps_tok _ _)) (.cons ⟨⟨_, rfl⟩, _, rfl⟩ (.cons ⟨⟨_, rfl⟩, _, rfl⟩ (.cons ⟨⟨_, rfl⟩, _, rfl⟩ (.cons ⟨⟨_, rfl⟩, _, rfl⟩ (.cons ⟨⟨_, rfl⟩, _, rfl⟩ (.cons ⟨⟨_, rfl⟩, _, rfl⟩ .nil)))))))
    obtain ⟨g2, F10, l2, nw2⟩ := F9.new k10
    have hIN := id_new hIN n10 nw2
    refine F10.st fun s₁₁ F11 => ?_
    refine stm (wpAny_Assign_Name (wpAny_Constant_str (F11.tok.st fun s₁₂ F12 => ?_)))
    -- the lead
    refine stm (for_id (d := aN) (c := noughtOf p R) hD.hh F12 (fun Q' q => F12.ld (by rfl) (q _ (keeps_refl _))) hIN
      (fun i g hid vs => hid = (d, o) :: Z ∧ (∃ tl, vs.lookup (strT "lead") = some (.str (((nKeys p).take i).foldl (leadStep way) (strT "")) tl)) ∧ vs.lookup (strT "keys") = some (.ref x) ∧ vs.lookup (strT "rules") = some (.ref d) ∧ vs.lookup (strT "nought") = some (.ref aN))
      ⟨rfl, ⟨_, rfl⟩, by exact vk, by exact vr, by rfl⟩ ?_ ?_)
    · rintro I j k n t g₂ hid₂ vs₂ oi s₁₃ Pi hPi _ hj hl2 ⟨rfl, ⟨tl, vl⟩, vk, vr, vn⟩ hne2 F13
      have hkm : (nKeys p)[j]? = some k := by rw [← nought_keys p R, List.getElem?_map, hj]; rfl
      have hkl : k.length ≤ 2 := hk2 k (List.mem_of_getElem? hkm)
      have hll : (((nKeys p).take j).foldl (leadStep way) (strT "")).length ≤ 2 := by
        have key : ∀ (ks : List Str) (a : Str), a.length ≤ 2 → (∀ k ∈ ks, k.length ≤ 2) → (ks.foldl (leadStep way) a).length ≤ 2 := by
          intro ks
          induction ks with
          | nil => intro a h _; exact h
          | cons b ks ih =>
            intro a h h'
            refine ih _ ?_ fun k hk => h' k (List.mem_cons_of_mem _ hk)
            unfold leadStep
            split
            · exact h' b List.mem_cons_self
            · exact h
        exact key _ _ (by decide) fun k hk => hk2 k (List.mem_of_mem_take hk)
      obtain ⟨lead, hlead⟩ : ∃ lead, ((nKeys p).take j).foldl (leadStep way) (strT "") = lead := ⟨_, rfl⟩
      rw [hlead] at vl hll
      have B13 := B.le (keeps_le F13.outer)
      obtain ⟨m, fr⟩ := F13.fr
      obtain ⟨l', t1', t2', u1', u2', u3', u4', hI', hg1', hg2', hL', h1', h2'⟩ := hTC.le (hlg.trans (l2.trans hl2))
      have hTC13 : TC s₁₃.heap x way := ((hTC.le (hlg.trans (l2.trans hl2)))).le F13.keep
      refine stm (wpAny_If (wpAny_isTrue_Compare1 (MethodCall_ (F13.ld (by exact vk) ?_))))
      refine method_inst fr B.K (hI'.le F13.keep).inst (pc_tc w) (fc_tc w) (fn_tc w) hg2' ?_
      refine callWith_K B13.K (kp_cm w) (args_cons (PyProof.Rows.Tuple_ (args_cons (wpAny_Call_NameR (B13.ldB (v := .builtin "len") (by rfl) (by rfl) (by decide) ?_)))))
      refine PyProof.Rows.callWith_builtin1 (args_cons (F13.ld (by rfl) (args_nil (PyProof.Rows.len_str (short63 (Nat.le_trans hkl (by decide))) ?_))))
      refine args_cons (F13.rd.ld' (by rfl) (args_nil (new_tup (by size_fits) fun aT1 s₁₄ k14 n14 hT1 => ?_)))
      have k14' := keeps_trans (keeps_tok s₁₃ _) k14
      have F14 := F13.keeps k14'
      have B14 := B.le (keeps_le F14.outer)
      refine args_cons (PyProof.Rows.Tuple_ (args_cons (wpAny_Call_NameR (B14.ldB (v := .builtin "len") (by rfl) (by rfl) (by decide) ?_))))
      refine PyProof.Rows.callWith_builtin1 (args_cons (F14.ld (by exact vl) (args_nil (PyProof.Rows.len_str (short63 (Nat.le_trans hll (by decide))) ?_))))
      refine args_cons (F14.rd.ld' (by exact vl) (args_nil (new_tup (by size_fits) fun aT2 s₁₅ k15 n15 hT2 => ?_)))
      have k15' := keeps_trans (keeps_tok s₁₄ _) k15
      have F15 := F14.keeps k15'
      have B15 := B.le (keeps_le F15.outer)
      refine args_nil ⟨B15.K, ?_⟩
      refine compare_ok (way := way) B15 (hD.less (by decide)) (hTC13.le ((keeps_le k14').trans (keeps_le k15'))) (tuple_le hT1 (keeps_le k15')) hT2 fun tC s₁₆ k16 => ?_
      refine wpAny_Constant_int (PyProof.Rows.lt_int (wpAny_truthy_bool ?_))
      have F16 := (F15.keeps k16).tok (t := s₁₆.toks + 1)
      refine ite_b (fun hc => ?_) (fun hc => ?_)
      · refine stm (wpAny_Assign_Name (F16.ld (by rfl) (F16.st fun s₁₇ F17 => ?_)))
        refine wpAny_execs_nil (wpAny_execs_nil (hPi g₂ ((d, o) :: Z) _ _ (Le.refl _) ⟨rfl, ⟨t, ?_⟩, by exact vk, by exact vr, by exact vn⟩ hne2 F17))
        have e : leadStep way lead k = k := by unfold leadStep; rw [if_pos hc]
        rw [foldl_take_succ _ _ _ hkm, hlead, e]; rfl
      · refine wpAny_execs_nil (wpAny_execs_nil (hPi g₂ ((d, o) :: Z) _ _ (Le.refl _) ⟨rfl, ⟨tl, ?_⟩, by exact vk, by exact vr, by exact vn⟩ hne2 F16))
        have e : leadStep way lead k = lead := by unfold leadStep; rw [if_neg (by rw [hc]; decide)]
        rw [foldl_take_succ _ _ _ hkm, hlead, e]; exact vl
    · rintro g₂ hid₂ vs₂ s₁₃ hl2 ⟨rfl, ⟨tl, vl⟩, vk, vr, vn⟩ F13
      have hleadE : ((nKeys p).take (noughtOf p R).length).foldl (leadStep way) (strT "") = leadOf way p := lead_take p R
      rw [hleadE] at vl
      have B13 := B.le (keeps_le F13.outer)
      have hIN13 := (hIN.le hl2).le F13.keep
      have hgl : getC (noughtOf p R) (leadOf way p) = some ((getC (noughtOf p R) (leadOf way p)).getD 0) := getC_key (by rw [nought_keys]; exact hlead)
      obtain ⟨cN, hcN⟩ : ∃ cN, noughtOf p R = cN := ⟨_, rfl⟩
      obtain ⟨L, hL⟩ : ∃ L, leadOf way p = L := ⟨_, rfl⟩
      have hsz6 : cN.length ≤ sizeLine := by rw [← hcN]; exact Nat.le_of_ble_eq_true rfl
      have htr : ∀ k, Trit ((getC cN k).getD 0) := fun k => hcN ▸ nought_trit hGR k
      rw [hcN] at hIN13 hgl
      rw [hL] at hgl vl
      refine stm (wpAny_Assign_Subscript (dc B13 (cN.map (·.1)) (fun k v => ∃ t, v = .str k t) (fun k => k != L && (getC cN k).getD 0 != 0) (fun k => k) (fun k => -((getC cN L).getD 0) * (getC cN k).getD 0)
        [(strT "lead", .str L tl), (strT "nought", .ref aN)] F13.rd (keys_inj _) (by rfl) (.cons (by exact vl) (by rfl) (by rfl) (by rfl) (.cons (by exact vn) (by rfl) (by rfl) (by rfl) .nil))
        (F13.ld (by exact vn) (src_id hD.hh (keeps_refl _) hIN13 hsz6)) ?_ ?_ ?_ ?_))
      · rintro a ha C v s₃ E' ⟨t, rfl⟩ k R'
        refine wpAny_tests_one (wpAny_isTrue_BoolOp (wpAny_allTrue_And_cons (wpAny_isTrue_Compare1 (R'.ld (by rfl) (R'.ld (by rfl) (ne_strB (wpAny_truthy_bool ?_)))))))
        refine ite_b (fun hc => ?_) (fun hc => ⟨by rw [hc]; rfl, keeps_refl _⟩)
        · refine wpAny_allTrue_And_cons (wpAny_isTrue_Compare1 (Subscript_ (R'.ld (by rfl) (R'.ld (by rfl) (sub_id (hIN13.le k) (getC_key ha) fun t1 s₄ k₄ => ?_)))))
          refine wpAny_Constant_int (PyProof.Rows.ne_int (wpAny_truthy_bool ?_))
          exact ite_b (fun hz => wpAny_allTrue_And_nil ⟨by rw [hc, hz]; rfl, keeps_trans k₄ (keeps_tok _ _)⟩) (fun hz => ⟨by rw [hc, hz]; rfl, keeps_trans k₄ (keeps_tok _ _)⟩)
      · rintro a ha _ C v s₃ E' ⟨t, rfl⟩ k R'
        exact R'.ld (by rfl) ⟨⟨t, rfl⟩, keeps_refl _⟩
      · rintro a ha _ C v s₃ E' ⟨t, rfl⟩ k R'
        refine wpAny_BinOp (wpAny_UnaryOp (Subscript_ (R'.ld (by rfl) (R'.ld (by rfl) (sub_id (hIN13.le k) hgl fun t1 s₄ k₄ => PyProof.Rows.neg_int ?_)))))
        have k₄' := keeps_trans k₄ (keeps_tok s₄ (s₄.toks + 1))
        have R4 := R'.le (keeps_le k₄')
        refine Subscript_ (R4.ld (by rfl) (R4.ld (by rfl) (sub_id ((hIN13.le k).le (keeps_le k₄')) (getC_key ha) fun t2 s₅ k₅ => ?_)))
        exact PyProof.Rows.mul_int ⟨⟨_, rfl⟩, keeps_trans (keeps_trans k₄' k₅) (keeps_tok _ _)⟩ (IntMulOk.of_right (trit_bits (htr a)))
      intro aE s₁₄ k14 n14 hIE
      obtain ⟨g3, F14, l3, nw3⟩ := F13.new k14
      have hIE := id_new hIE n14 nw3
      refine F14.ld (by exact vr) (F14.ld (by exact vl) ?_)
      have hRE : ruleOf way p R = (L, foldC (fun k => k) (fun k => -((getC cN L).getD 0) * (getC cN k).getD 0) ((cN.map (·.1)).filter fun k => k != L && (getC cN k).getD 0 != 0)) := by
        unfold ruleOf; rw [← nought_keys p R, hcN, hL]
      have hlen' : kvs.length ≤ sizeLine := by
        have h1 := hP.length
        have h2 : ((rlOf way Rs).take i).length ≤ 3 := rl_len i
        exact le_line (Nat.le_trans (Nat.le_of_eq h1) (Nat.le_trans h2 (by decide)))
      refine wpAny_setItem_pairs (strKind_is _ _ _ _) (Heap.dictOf_iff.mpr ⟨o, F14.hidAt List.mem_cons_self, hO⟩) (fun h' hD' hs' => ?_) hlen'
      obtain ⟨o', ho', hO'⟩ := Heap.dictOf_iff.mp hD'
      have hdZ : ∀ q ∈ Z, q.1 ≠ d := fun q hq => Ne.symm (hne (d, o) List.mem_cons_self q hq)
      have F15 := F14.turn (t := s₁₄.toks + 1) hs' ho' hdZ
      have hi3 : i < 3 := (List.getElem?_eq_some_iff.mp hp).1
      have hri : (rlOf way Rs)[i]? = some (ruleOf way p R) := by
        unfold rlOf; rw [List.getElem?_zipWith, hp, hRi]
      have hfresh : L ∉ kvs.map (·.1) := by
        rw [paired_keys (g := fun (p : Str × IC) => p.1) hP (fun _ _ h => h.1), ← hL]
        exact lead_fresh hw hl hp
      have hst : stored kvs L (.ref aE) = kvs ++ [(L, .ref aE)] := by
        unfold stored
        rw [if_neg]
        simp only [List.any_eq_true, decide_eq_true_eq, not_exists, not_and]
        rintro q hq e
        exact hfresh (e ▸ List.mem_map.mpr ⟨q, hq, rfl⟩)
      rw [hst] at hO'
      refine wpAny_execs_nil (hPz g3 [(d, o')] vs₂ _ (l2.trans (hl2.trans l3)) ⟨o', _, rfl, hO', ?_, vk, vr⟩ (fun q hq z hz => by rw [List.mem_singleton.mp hq]; exact Ne.symm (hdZ z hz)) F15)
      rw [List.take_add_one, hri, hRE]
      exact (hP.mono fun _ _ ⟨a, e, b, c, d⟩ => ⟨a, e, b, c.le (l2.trans (hl2.trans l3)), d⟩).snoc ⟨rfl, aE, rfl, hIE, none_of_keeps F13.outer n14⟩
  · rintro g₁ hid₁ vs₁ s₉ hlg ⟨o, kvs, rfl, hO, hP, vk, vr⟩ F9
    refine stm (wpAny_Return_some (F9.ld (by exact vr) ?_))
    refine hq _ _ (hQ d s₉ F9.outer ⟨hd0, hdS, kvs, Heap.dictOf_iff.mpr ⟨o, F9.hidAt List.mem_cons_self, hO⟩, ?_⟩)
    rw [rl_take (by rw [hlen]; exact Nat.le_refl _)] at hP
    exact hP.mono fun _ _ ⟨a, e, b, c, d⟩ => ⟨a, e, b, c.le F9.keep, d⟩
end Mine

-- part: FEnt
set_option maxHeartbeats 4000000
namespace Mine
open PySem PySem.W PyProof.Rows
variable {prog : Program} {w : World} {A : Around} {E : Value → Shared → Prop}

theorem Fv.toN {env : Env} {s₀ s : Shared} {g : Heap} {hid : List (Addr × Obj)} {vs : List (Str × Value)} (F : Fv env s₀ g hid vs s) (hsz : g.objs.size ≤ env.locals) :
    ∃ m, Fr g env.locals s.heap m ∧ News g env.locals s.heap hid ∧ ∀ x v, vs.lookup x = some v → env.kindOf x = some .local → m x = some v := by
  obtain ⟨m, hm, hv⟩ := F.ns
  exact ⟨m, ⟨hm, F.keep, hsz⟩, fun p hp => ⟨(F.hid p hp).1, (F.hid p hp).2.2.1, (F.hid p hp).2.1⟩, hv⟩

theorem Fv.ofN {env : Env} {s₀ s : Shared} {g h' : Heap} {hid hid' : List (Addr × Obj)} {vs : List (Str × Value)} {m : Str → Option Value} {t : Nat} (F : Fv env s₀ g hid vs s) (hc : env.cells = [])
    (F' : Fr g env.locals h' m) (N' : News g env.locals h' hid') (hv : ∀ x v, vs.lookup x = some v → env.kindOf x = some .local → m x = some v) : Fv env s₀ g hid' vs { s with heap := h', toks := t } := by
  refine ⟨?_, ⟨m, F'.ns, hv⟩, ?_, F.apart, F.names, F.kinds, F.above, F.base, F'.keep, F.low, F.offL, F.offC, fun p hp => ⟨(N' p hp).1, (N' p hp).2.2, (N' p hp).2.1, ?_⟩⟩
  · obtain ⟨h₁, t₁, rfl⟩ := F.same; exact ⟨h', t, rfl⟩
  · intro n c e; rw [hc] at e; cases e
  · intro n c e; rw [hc] at e; cases e

theorem Fv.veil {env : Env} {s₀ s : Shared} {g : Heap} {vs : List (Str × Value)} {dx : Addr} {o : Obj} (F : Fv env s₀ g [] vs s) (hg : s₀.heap = g) (h1 : g.get? dx = some o) :
    Fv env { s₀ with heap := hideAll g [dx] } (hideAll g [dx]) [(dx, o)] vs s := by
  have off : ∀ {b : Addr}, g.get? b = none → (hideAll g [dx]).get? b = none := fun {b} e => by
    cases e' : (hideAll g [dx]).get? b with
    | none => rfl
    | some o => rw [of_hideAll _ e'] at e; cases e
  refine ⟨?_, F.ns, F.cell, F.apart, F.names, F.kinds, F.above, Le.refl _, fun b o e => F.keep _ _ (of_hideAll _ e), ?_, off F.offL, fun n c hm => off (F.offC n c hm), fun p hp => ?_⟩
  · obtain ⟨h₁, t₁, rfl⟩ := F.same; exact ⟨h₁, t₁, rfl⟩
  · show (hideAll g [dx]).objs.size ≤ _
    rw [hideAll_size, ← hg]; exact F.low
  · rw [List.mem_singleton.mp hp]
    refine ⟨F.keep _ _ h1, hideAll_none _ List.mem_cons_self, ?_, fun n c hm => ?_⟩
    · rintro rfl; have := F.offL; rw [h1] at this; cases this
    · rintro rfl; have := F.offC n _ hm; rw [h1] at this; cases this

theorem Fv.setA {env : Env} {s₀ s : Shared} {g : Heap} {hid : List (Addr × Obj)} {vs : List (Str × Value)} {x dx C : Addr} {es es' : List DictEntry} {n n' : Nat} {name : Str} {v : Value} {Q : Unit → Shared → Prop}
    (F : Fv env s₀ g ((dx, dictOf es n) :: hid) vs s) (hsz : g.objs.size ≤ env.locals) (X₀ : (KK w).In g) (hx : g.get? x = some (instObj C dx))
    (hs : findIn (KK w) (.ref C) "__setattr__" = some (some (.builtin "object.__setattr__"))) (hp : plainOver (KK w) C = true) (ht : takerIn (KK w) C name = some none) (hh : hasDictIn (KK w) C = true) (hl : (getL name es).isSome = true)
    (e : (putL name (PyData.keyHash w.params name) (.str name (s.toks + 1)) v es, putN name es n) = (es', n')) (hz : es'.length ≤ 1000) (hnd : ∀ p ∈ hid, p.1 ≠ dx)
    (h : ∀ s', Fv env s₀ g ((dx, dictOf es' n') :: hid) vs s' → Q () s') (hc : env.cells = [] := by rfl) : wpAny (model prog w) A (setAttr (.ref x) name v) Q E s := by
  obtain ⟨m, fr, N, hv⟩ := F.toN hsz
  have I : PySem.W.InstAt s.heap x (instObj C dx) C (some (dictOf es n)) := ⟨F.keep _ _ hx, rfl, rfl, F.hidAt List.mem_cons_self⟩
  exact set_dict fr X₀ N I rfl hs hp ht hh hl e (.head fun p hp => hnd p hp) hz fun h' F' N' => h _ (F.ofN hc F' N' hv)
end Mine

-- part: FEnt2
set_option maxHeartbeats 4000000
namespace Mine
open PySem PySem.W PyProof.Rows
variable {prog : Program} {w : World} {A : Around} {E : Value → Shared → Prop}

theorem mk_en (w : World) : makesIn (KK w) 59 = true := by rfl
theorem in_en (w : World) : findIn (KK w) (.ref 59) "__init__" = some (some (.ref 35)) := by rfl
theorem ty_en (w : World) : typeIn (KK w) (.ref 35) = some (.type "function") := by rfl
theorem sa_en (w : World) : findIn (KK w) (.ref 59) "__setattr__" = some (some (.builtin "object.__setattr__")) := by rfl
theorem po_en (w : World) : plainOver (KK w) 59 = true := by rfl
theorem tk_en1 (w : World) : takerIn (KK w) 59 (strT "useragents") = some none := by rfl
theorem tk_en2 (w : World) : takerIn (KK w) 59 (strT "rulelines") = some none := by rfl
theorem tk_en3 (w : World) : takerIn (KK w) 59 (strT "delay") = some none := by rfl
theorem tk_en4 (w : World) : takerIn (KK w) 59 (strT "req_rate") = some none := by rfl
theorem kp_en (w : World) : keepIn (KK w) (.ref 59) = true := by rfl

theorem Fv.hideNew {env : Env} {s₀ s : Shared} {g : Heap} {hid : List (Addr × Obj)} {vs : List (Str × Value)} {o : Obj} (F : Fv env s₀ g hid vs s) (hf : o.isFreed = false := by rfl) :
    Fv env s₀ g ((s.heap.objs.size, o) :: hid) vs { s with heap := s.heap.push o } :=
  F.hide (keeps_mk s (t := s.toks) (Le.push _ _)) (get_size _) (Heap.get?_push_size _ hf)

theorem ent_make {s : Shared} {Q : Value → Shared → Prop} (B : Bs w s.heap) (hA : Rm A 3)
    (hQ : ∀ x dx l es n s', Keeps s s' → s.heap.get? x = none → s.heap.get? dx = none → s.heap.get? l = none → l ≠ x → l ≠ dx → Ins s'.heap 59 x dx es n → s'.heap.get? l = some { cls := .type "list", data := .seq ([] : List Value).toArray } → getL (strT "useragents") es = some (some (.ref l)) → getL (strT "applies_to") es = some none → Q (.ref x) s') :
    wpAny (model prog w) A (call (.ref 59) []) Q E s := by
  obtain ⟨hp, gg, dd, tt, os⟩ := s
  refine wpAny_call (make_core (makes_of B.K (mk_en w)) (looks_findIn B.K (in_en w)) (fun self => bind_fn B.K self (ty_en w)) (.inl rfl) ?_)
  have hdn : hp.get? hp.objs.size = none := get_size hp
  generalize hdx : hp.objs.size = dx at hdn ⊢
  have e1 : (hp.push emptyDict).get? dx = some emptyDict := by rw [← hdx]; exact Heap.get?_push_size _ rfl
  have hsz1 : (hp.push emptyDict).objs.size = dx + 1 := by rw [Heap.size_push, hdx]
  have e2 : ((hp.push emptyDict).push (instObj 59 dx)).get? (dx + 1) = some (instObj 59 dx) := by rw [← hsz1]; exact Heap.get?_push_size _ rfl
  have e3 : ((hp.push emptyDict).push (instObj 59 dx)).get? dx = some emptyDict := Heap.get?_push_of_some _ e1
  have le0 : Le hp ((hp.push emptyDict).push (instObj 59 dx)) := (Le.push _ _).trans (Le.push _ _)
  have hxn : hp.get? (dx + 1) = none := get_ge _ (by rw [hdx]; exact Nat.le_succ _)
  generalize (hp.push emptyDict).push (instObj 59 dx) = H at e2 e3 le0 ⊢
  have nd : ∀ b o, hp.get? b = some o → b ≠ dx := by rintro b o e rfl; rw [hdn] at e; cases e
  refine enterC (s := ⟨H, gg, dd, tt, os⟩) (binds := [(Str.ofString "self", .ref (dx + 1))]) (B.le le0) (by rw [depth_under_make]; have := hA.depth; omega) (by rfl) (by rfl) (by rfl) (by rfl) (fun s₁ F => ?_)
  have F0 := F.veil (dx := dx) (o := dictOf [] 0) rfl e3
  have dlt : dx < H.objs.size := Heap.lt_size e3
  have X₀ : (KK w).In (hideAll H [dx]) := fun a o e => hide_one (le0 _ _ (B.K a o e)) (nd _ _ (B.K a o e))
  have hx : (hideAll H [dx]).get? (dx + 1) = some (instObj 59 dx) := hide_one e2 (Nat.succ_ne_self _)
  have hsz : (hideAll H [dx]).objs.size ≤ H.objs.size := Nat.le_of_eq (hideAll_size _ _)
  -- useragents
  refine stm (plainObj_wpAny_Assign_Attribute (PyProof.Rows.List_ (args_nil (wpAny_newObj_type ?_ (by size_fits)))))
  have F1 := F0.hideNew (o := { cls := .type "list", data := .seq ([] : List Value).toArray })
  have hl1 : s₁.heap.get? s₁.heap.objs.size = none := get_size _
  generalize s₁.heap.objs.size = l1 at F1 hl1 ⊢
  have hn1 : l1 ≠ dx := by rintro rfl; have := F0.hidAt List.mem_cons_self; rw [hl1] at this; cases this
  have hh1 : H.get? l1 = none := by cases e : H.get? l1 with | none => rfl | some o => rw [F.keep _ _ e] at hl1; cases hl1
  refine F1.ld (by rfl) ?_
  refine (F1.drop (hid' := [(dx, dictOf [] 0), (l1, { cls := .type "list", data := .seq ([] : List Value).toArray })]) (by simp)).setA hsz X₀ hx (sa_en w) (po_en w) (tk_en1 w) (hd_E w) (by rfl) rfl (Nat.le_of_ble_eq_true rfl) (by simpa using hn1) fun s₂ F2 => ?_
  -- rulelines
  refine stm (plainObj_wpAny_Assign_Attribute (PyProof.Rows.List_ (args_nil (wpAny_newObj_type ?_ (by size_fits)))))
  have F3 := F2.mk' (t := s₂.toks) (Le.push s₂.heap ({ cls := .type "list", data := .seq ([] : List Value).toArray } : Obj))
  refine F3.ld (by rfl) ?_
  refine F3.setA hsz X₀ hx (sa_en w) (po_en w) (tk_en2 w) (hd_E w) (by rfl) rfl (Nat.le_of_ble_eq_true rfl) (by simpa using hn1) fun s₃ F4 => ?_
  refine stm (plainObj_wpAny_Assign_Attribute (wpAny_Constant_none (F4.ld (by rfl) ?_)))
  refine F4.setA hsz X₀ hx (sa_en w) (po_en w) (tk_en3 w) (hd_E w) (by rfl) rfl (Nat.le_of_ble_eq_true rfl) (by simpa using hn1) fun s₄ F5 => ?_
  refine stm (plainObj_wpAny_Assign_Attribute (wpAny_Constant_none (F5.ld (by rfl) ?_)))
  refine F5.setA hsz X₀ hx (sa_en w) (po_en w) (tk_en4 w) (hd_E w) (by rfl) rfl (Nat.le_of_ble_eq_true rfl) (by simpa using hn1) fun s₅ F6 => ?_
  have hlx : l1 ≠ dx + 1 := by rintro rfl; rw [hh1] at e2; cases e2
  refine wpAny_execs_nil ⟨rfl, hQ (dx + 1) dx l1 _ _ _ ?_ hxn hdn ?_ hlx hn1 ⟨F6.keep _ _ hx, F6.hidAt List.mem_cons_self⟩ (F6.hidAt (List.mem_cons_of_mem _ List.mem_cons_self)) (by rfl) (by rfl)⟩
  · obtain ⟨h6, t6, rfl⟩ := F6.same
    exact ⟨h6, t6, rfl, fun b o e => F6.keep _ _ (hide_one (le0 _ _ e) (nd _ _ e))⟩
  · cases e : hp.get? l1 with
    | none => rfl
    | some o => rw [le0 _ _ e] at hh1; cases hh1
end Mine

-- part: FSrt
set_option maxHeartbeats 4000000
namespace Mine
open PySem PySem.W PyProof.Rows
variable {prog : Program} {w : World} {A : Around} {E : Value → Shared → Prop}

theorem strs_rev {vs : List Value} {ss : List Str} (h : StrsAre vs ss) : StrsAre vs.reverse ss.reverse := by
  have h1 := strsAre_map vs.reverse fun v hv => h.all v (List.mem_reverse.mp hv)
  rwa [List.map_reverse, h.strs] at h1

/-- the sort in place of a list of texts, with its turn -/
theorem list_sort_s {s : Shared} {a : Addr} {vs : List Value} {ss : List Str} {n : Nat} {b : Bool} {P : Fin → Shared → Prop} (ho : s.heap.get? a = some (seqObj "list" vs.toArray n)) (hS : StrsAre vs ss) (h64 : vs.length < 64)
    (h : ∀ (out : Array Value) (ss' : List Str), StrsAre out.toList ss' → ss'.Perm ss → sortedS (if b then ss'.reverse else ss') = true → P (.done (.ret .none)) { s with heap := sortedHeap s.heap a vs out }) :
    wpAny (model prog w) A (Builtin.«list.sort» ⟨[.ref a], [(Str.ofString "reverse", .bool b)]⟩) P E s := by
  rw [list_sort_rev]
  have ha : a < s.heap.objs.size := Heap.lt_size ho
  have hperm : (if b = true then (vs.toArray.zip vs.toArray).reverse else vs.toArray.zip vs.toArray).Perm (pairsOf vs) := by
    cases b with
    | false => exact Array.Perm.refl _
    | true => rw [if_pos rfl]; exact Array.perm_iff_toList_perm.mpr (by rw [Array.toList_reverse]; exact List.reverse_perm _)
  obtain ⟨e1, ho1⟩ : ∃ e1, (s.heap.update a (Obj.mapSeq fun _ => #[])).get? a = some (seqObj "list" #[] e1) := ⟨_, get?_update_seq ho (fun _ => #[])⟩
  have hsu : (s.heap.update a (Obj.mapSeq fun _ => #[])).objs.size = s.heap.objs.size := Heap.size_update ..
  have ho6 : (((s.heap.update a (Obj.mapSeq fun _ => #[])).push (seqObj "tuple" vs.toArray 0)).push (seqObj "list" #[] 0)).get? a = some (seqObj "list" #[] e1) :=
    Heap.get?_push_of_some _ (Heap.get?_push_of_some _ ho1)
  have fin : ∀ st' : SortSt, (arrOf st').Perm (pairsOf vs) → SortedToK PyProof.Rows.strKind (arrOf st') (pairsOf vs).size →
      P (.done (.ret .none)) { s with heap := sortedHeap s.heap a vs (if b then ((arrOf st').map (·.2)).reverse else (arrOf st').map (·.2)) } := by
    intro st' hp hs
    obtain ⟨ss', h1, h2, h3⟩ := sorted_out_str hS hp hs
    cases b with
    | false => exact h _ ss' h1 h2 h3
    | true => exact h _ ss'.reverse (by rw [if_pos rfl, Array.toList_reverse]; exact strs_rev h1) ((List.reverse_perm _).trans h2) (by rw [if_pos rfl, List.reverse_reverse]; exact h3)
  have small : ∀ {xs : Array Keyed}, xs.size = vs.length → (if b = true then (xs.map (·.2)).reverse else xs.map (·.2)).size ≤ sizeLine + 1 := by
    intro xs hx
    have : (if b = true then (xs.map (·.2)).reverse else xs.map (·.2)).size = vs.length := by split <;> simp [hx]
    rw [this, sizeLine_eq]; omega
  refine wpAny_bind (listItems_at ho rfl (wpAny_bind (listUpdate_at ho rfl (wpAny_bind (seqEpoch_at ho1 rfl (wpAny_bind (wpAny_newTuple (wpAny_bind (wpAny_newList (wpAny_holding ?_))))))))))
  show wpAny (model prog w) A _ P E { s with heap := ((s.heap.update a (Obj.mapSeq fun _ => #[])).push (seqObj "tuple" vs.toArray 0)).push (seqObj "list" #[] 0) }
  dsimp only
  have skip : ∀ t : Sem Fin, wpAny (model prog w) A t P E { s with heap := ((s.heap.update a (Obj.mapSeq fun _ => #[])).push (seqObj "tuple" vs.toArray 0)).push (seqObj "list" #[] 0) } →
      wpAny (model prog w) A (if b = true then (do let _ ← rule "list.sort.reverse"; t) else t) P E { s with heap := ((s.heap.update a (Obj.mapSeq fun _ => #[])).push (seqObj "tuple" vs.toArray 0)).push (seqObj "list" #[] 0) } := by
    intro t ht
    split
    · exact wpAny_bind (wpAny_rule ht)
    · exact ht
  refine skip _ ?_
  have hlen : vs.toArray.size = vs.length := by simp
  by_cases h2 : vs.toArray.size < 2
  · rw [if_pos h2, if_pos h2]
    refine wpAny_bind (wpAny_pure ?_)
    rw [StateT.run_pure]
    refine wpAny_bind (wpAny_pure ?_)
    dsimp only
    refine wpAny_bind (seqEpoch_at ho6 rfl ?_)
    refine wpAny_bind (listUpdate_at ho6 rfl ?_ (hsz2 := small (xs := if b = true then (vs.toArray.zip vs.toArray).reverse else vs.toArray.zip vs.toArray) (by split <;> simp)))
    simp only [bne_self_eq_false, Bool.false_eq_true, if_false]
    refine wpAny_pure (fin (SortSt.mk' general' (if b = true then (vs.toArray.zip vs.toArray).reverse else vs.toArray.zip vs.toArray) #[] 7 none) hperm ?_)
    intro i j hij hj
    have : i = j := by rw [pairsOf_size] at hj; omega
    subst this; exact KeyOrd.kle_refl _
  · obtain ⟨v₁, v₂, rest, rfl⟩ : ∃ v₁ v₂ rest, vs = v₁ :: v₂ :: rest := by
      cases vs with
      | nil => simp at h2
      | cons v₁ vs => cases vs with
        | nil => simp at h2
        | cons v₂ rest => exact ⟨v₁, v₂, rest, rfl⟩
    rw [if_neg h2, if_neg h2, keyKind_strs hS]
    refine wpAny_bind (wpAny_pure ?_)
    refine wpAny_bind (wpAny_mono (wpS_sortRunsK (κ := PyProof.Rows.strKind) strKind_oneLt (a₀ := pairsOf (v₁ :: v₂ :: rest))
      (st := SortSt.mk' oneType' (if b = true then ((v₁ :: v₂ :: rest).toArray.zip (v₁ :: v₂ :: rest).toArray).reverse else (v₁ :: v₂ :: rest).toArray.zip (v₁ :: v₂ :: rest).toArray) #[] 7 none)
      (Q := fun _ st' => (arrOf st').Perm (pairsOf (v₁ :: v₂ :: rest)) ∧ failedOf st' = none ∧ SortedToK PyProof.Rows.strKind (arrOf st') (pairsOf (v₁ :: v₂ :: rest)).size)
      hS.keysOf ⟨hperm, rfl, rfl, rfl⟩ (by rw [pairsOf_size]; simp) (by rw [pairsOf_size]; exact h64) fun st' a1 a2 a3 => ⟨a1, a2, a3⟩) ?_ fun _ _ e => e)
    rintro ⟨⟨⟩, st'⟩ s' ⟨rfl, hp, hf, hs⟩
    dsimp only
    refine wpAny_bind (seqEpoch_at ho6 rfl (wpAny_bind (listUpdate_at ho6 rfl ?_ (hsz2 := small (hp.size_eq.trans (pairsOf_size _))))))
    rw [hf]
    simp only [bne_self_eq_false, Bool.false_eq_true, if_false]
    exact wpAny_pure (fin st' hp hs)
end Mine

-- part: FSrt2
set_option maxHeartbeats 4000000
namespace Mine
open PySem PySem.W PyProof.Rows
variable {prog : Program} {w : World} {A : Around} {E : Value → Shared → Prop}

theorem sorted_heap {s s₁ : Shared} {vs : List Value} {out : Array Value} {t : Nat} (k : Keeps s s₁) : let a := s₁.heap.objs.size
    let h' := sortedHeap (s₁.heap.push (seqObj "list" vs.toArray 0)) a vs out
    Keeps s { s₁ with heap := h', toks := t } ∧ s.heap.get? a = none ∧ h'.IsList a out := by
  intro a h'
  have hao : (s₁.heap.push (seqObj "list" vs.toArray 0)).get? a = some (seqObj "list" vs.toArray 0) := Heap.get?_push_size _ rfl
  refine ⟨?_, none_of_keeps k (get_size _), ?_⟩
  · refine keeps_trans k (keeps_mk s₁ fun b o e => ?_)
    have hlt := Heap.lt_size e
    rw [sortedHeap_old (Nat.ne_of_lt hlt) (by rw [size_push']; exact Nat.lt_succ_of_lt hlt)]
    exact Heap.get?_push_of_some _ e
  · obtain ⟨e, he⟩ := sortedHeap_at (out := out) hao
    exact ⟨_, he, rfl, _, rfl⟩

theorem sorted_rev {s : Shared} {v : Value} {ss : List Str} {b : Bool} {Q : Value → Shared → Prop}
    (hcol : ∀ R, (∀ vs s', Keeps s s' → StrsAre vs ss → R vs s') → wpAny (model prog w) A.in1 (collect v) R E s) (h64 : ss.length < 64)
    (hQ : ∀ D s' items ss', Keeps s s' → s.heap.get? D = none → s'.heap.IsList D items → StrsAre items.toList ss' → ss'.Perm ss → sortedS (if b then ss'.reverse else ss') = true → Q (.ref D) s') :
    wpAny (model prog w) A (call (.builtin "sorted") [v] [(Str.ofString "reverse", .bool b)]) Q E s := by
  refine call_function_entry_kw kind_sorted plain_sorted entry_sorted (args_sorted_rev _ _) ?_
  unfold Builtin.«sorted»
  refine wpAny_bind (m := checkCount "sorted" 1 1 _) (wpAny_pure ?_)
  refine wpAny_bind (hcol _ fun vs s₁ k hS => ?_)
  have hl : vs.length < 64 := by rw [hS.length]; exact h64
  refine wpAny_bind (wpAny_newList ?_ (by rw [sizeLine_eq]; omega))
  have hoL : (s₁.heap.push (seqObj "list" vs.toArray 0)).get? s₁.heap.objs.size = some (seqObj "list" vs.toArray 0) := Heap.get?_push_size _ rfl
  refine wpAny_bind (wpAny_holding (wpAny_call_entry_kw slot_list_sort ⟨_, hoL, rfl⟩ entry_list_sort (list_sort_s hoL hS hl fun out ss' a1 a2 a3 => ⟨_, rfl, ?_⟩) (args_list_sort_rev _ _)))
  obtain ⟨x1, x2, x3⟩ := sorted_heap (vs := vs) (out := out) (t := s₁.toks) k
  exact wpAny_pure ⟨_, rfl, hQ _ _ out ss' x1 x2 x3 a1 a2 a3⟩

theorem sorted_plain {s : Shared} {v : Value} {ss : List Str} {Q : Value → Shared → Prop}
    (hcol : ∀ R, (∀ vs s', Keeps s s' → StrsAre vs ss → R vs s') → wpAny (model prog w) A.in1 (collect v) R E s) (h64 : ss.length < 64)
    (hQ : ∀ D s' items ss', Keeps s s' → s.heap.get? D = none → s'.heap.IsList D items → StrsAre items.toList ss' → ss'.Perm ss → sortedS ss' = true → Q (.ref D) s') :
    wpAny (model prog w) A (call (.builtin "sorted") [v]) Q E s := by
  refine Calls.call_function_entry kind_sorted plain_sorted entry_sorted (args_sorted1 _) ?_
  unfold Builtin.«sorted»
  refine wpAny_bind (m := checkCount "sorted" 1 1 _) (wpAny_pure ?_)
  refine wpAny_bind (hcol _ fun vs s₁ k hS => ?_)
  have hl : vs.length < 64 := by rw [hS.length]; exact h64
  refine wpAny_bind (wpAny_newList ?_ (by rw [sizeLine_eq]; omega))
  have hoL : (s₁.heap.push (seqObj "list" vs.toArray 0)).get? s₁.heap.objs.size = some (seqObj "list" vs.toArray 0) := Heap.get?_push_size _ rfl
  refine wpAny_bind (wpAny_holding (wpAny_call_entry slot_list_sort ⟨_, hoL, rfl⟩ entry_list_sort (list_sort_treeK strKind_oneLt hoL hS.keysOf (fun v₁ v₂ rest e => keyKind_strs (by rw [← e]; exact hS)) hl fun st' hp hs => ⟨_, rfl, ?_⟩) (args_list_sort _)))
  obtain ⟨ss', a1, a2, a3⟩ := sorted_out_str hS hp hs
  obtain ⟨x1, x2, x3⟩ := sorted_heap (vs := vs) (out := (arrOf st').map (·.2)) (t := s₁.toks) k
  exact wpAny_pure ⟨_, rfl, hQ _ _ _ ss' x1 x2 x3 a1 a2 a3⟩

noncomputable def charsOf (x : Str) : List Str := x.cps.toList.map fun c => ⟨#[c]⟩

theorem col_str {s : Shared} {x : Str} {t : Tok} (hh : A.handled = none) (hx : x.length < 64) (R : List Value → Shared → Prop) (h : ∀ vs s', Keeps s s' → StrsAre vs (charsOf x) → R vs s') :
    wpAny (model prog w) A.in1 (collect (.str x t)) R E s := by
  refine wpAny_collect_str (A := A.in1) hh x t (fun s' acc hk hg hd ho hacc => h _ _ ?_ ?_) (by rw [sizeLine_eq]; change x.cps.size < 64 at hx; omega)
  · refine ⟨s'.heap, s'.toks, ?_, hk⟩
    cases s'; cases s; simp_all
  · have key : ∀ (cs : List Nat) (vs : List Value), vs.length = cs.length → (∀ (j : Nat) (v : Value), vs[j]? = some v → ∃ c u, cs[j]? = some c ∧ v = .str ⟨#[c]⟩ u) → StrsAre vs (cs.map fun c => ⟨#[c]⟩) := by
      intro cs
      induction cs with
      | nil => intro vs hl _; rw [List.length_eq_zero_iff.mp hl]; exact .nil
      | cons c cs ih =>
        intro vs hl hv
        cases vs with
        | nil => simp at hl
        | cons v vs =>
          obtain ⟨c', u, e1, rfl⟩ := hv 0 v rfl
          simp at e1; subst e1
          exact .cons _ _ (ih vs (by simpa using hl) fun j v e => by simpa using hv (j + 1) v (by simpa using e))
    refine key _ _ (by rw [Array.length_toList, hacc.1]; simp) fun j v e => ?_
    obtain ⟨c, u, e1, e2⟩ := hacc.2 j v (by rw [← Array.getElem?_toList]; exact e)
    exact ⟨c, u, by rw [Array.getElem?_toList]; exact e1, e2⟩

theorem col_dict {s : Shared} {d : Addr} {kvs : List (Str × Value)} (hh : A.handled = none) (hd : s.heap.DictOf (PySem.strKind prog w) d kvs) (hds : (d == sysModules) = false) (hn : kvs.length ≤ sizeLine)
    (R : List Value → Shared → Prop) (h : ∀ vs s', Keeps s s' → StrsAre vs (kvs.map (·.1)) → R vs s') : wpAny (model prog w) A.in1 (collect (.ref d)) R E s := by
  obtain ⟨ep, hda⟩ := hd.dictAt
  refine kdu_collect (A := A.in1) (kdl_dict (knd := PySem.strKind prog w) (kvs := kvs) (ep := ep) hds) hh hda hn fun h' tk acc hk hacc => h _ _ (keeps_mk s hk) ?_
  have key : ∀ (ks : List (Str × Value)) (vs : List Value), vs.length = ks.length → (∀ (j : Nat) v, vs[j]? = some v → ∃ k x, ks[j]? = some (k, x) ∧ (PySem.strKind prog w).is k v = true) → StrsAre vs (ks.map (·.1)) := by
    intro ks
    induction ks with
    | nil => intro vs hl _; rw [List.length_eq_zero_iff.mp hl]; exact .nil
    | cons c cs ih =>
      intro vs hl hv
      cases vs with
      | nil => simp at hl
      | cons v vs =>
        obtain ⟨k, x, e1, e2⟩ := hv 0 v rfl
        obtain ⟨t, rfl⟩ := Value.isStrOf_shape e2
        simp at e1; subst e1
        exact .cons _ _ (ih vs (by simpa using hl) fun j v e => by simpa using hv (j + 1) v (by simpa using e))
  exact key _ _ (by rw [Array.length_toList, hacc.1]) fun j v e => hacc.2 j v (by rw [← Array.getElem?_toList]; exact e)
end Mine

-- part: FLst
set_option maxHeartbeats 4000000
namespace Mine
open PySem PySem.W PyProof.Rows
variable {prog : Program} {w : World} {A : Around} {E : Value → Shared → Prop}

noncomputable def leS (a b : Str) : Prop := a.cps.toList ≤ b.cps.toList
theorem not_lt_le {a b : Str} (h : PySem.Spec.ltCps b.cps.toList a.cps.toList = false) : leS a b := by
  rw [ltCps_eq, decide_eq_false_iff_not] at h
  exact List.not_lt.mp h
theorem rising_pw : ∀ (p : Str) (l : List Str), risingS p l = true → (p :: l).Pairwise leS
  | p, [], _ => List.pairwise_singleton _ _
  | p, x :: r, h => by
    have h' : (!PySem.Spec.ltCps x.cps.toList p.cps.toList && risingS x r) = true := h
    rw [Bool.and_eq_true, Bool.not_eq_true'] at h'
    have hx := not_lt_le h'.1
    have hr := rising_pw x r h'.2
    refine List.pairwise_cons.mpr ⟨fun y hy => ?_, hr⟩
    rcases List.mem_cons.mp hy with rfl | hy
    · exact hx
    · exact List.le_trans hx ((List.pairwise_cons.mp hr).1 y hy)
theorem sorted_pw : ∀ (l : List Str), sortedS l = true → l.Pairwise leS
  | [], _ => .nil
  | x :: r, h => rising_pw x r h
theorem str_ext {a b : Str} (h : a.cps.toList = b.cps.toList) : a = b := by
  obtain ⟨a⟩ := a; obtain ⟨b⟩ := b
  congr; exact Array.toList_inj.mp h
theorem sorted_uniq {l l' : List Str} (h : sortedS l = true) (h' : sortedS l' = true) (p : l.Perm l') : l = l' :=
  List.Perm.eq_of_pairwise (le := leS) (fun a b _ _ h1 h2 => str_ext (List.le_antisymm h1 h2)) (sorted_pw l h) (sorted_pw l' h') p

theorem sorted_list {s : Shared} {l : Addr} {items : Array Value} {ss : List Str} {Q : Value → Shared → Prop} (hl : s.heap.IsList l items) (hS : StrsAre items.toList ss) (h64 : ss.length < 64)
    (hQ : ∀ D s' items ss', Keeps s s' → s.heap.get? D = none → s'.heap.IsList D items → StrsAre items.toList ss' → ss'.Perm ss → sortedS ss' = true → Q (.ref D) s') :
    wpAny (model prog w) A (call (.builtin "sorted") [.ref l]) Q E s := by
  refine sorted_strs (vs := items.toList) (by simpa using hl) hS (by rw [hS.length]; exact h64) fun out ss' a1 a2 a3 => ?_
  obtain ⟨e, he⟩ := sortedAll_at s.heap items.toList out
  exact hQ _ _ out ss' (keeps_mk s (t := s.toks) fun b o e => sortedAll_old e) (get_ge _ (Nat.le_succ _)) ⟨_, he, rfl, _, rfl⟩ a1 a2 a3

theorem join_ok {s : Shared} {x : Str} {t : Tok} {D : Addr} {items : Array Value} {ss : List Str} {Q : Value → Shared → Prop} (hl : s.heap.IsList D items) (hS : StrsAre items.toList ss) (hok : JoinOk x ss = true)
    (h : ∀ t' k, Q (.str (Txt.join x ss) t') { s with toks := k }) : wpAny (model prog w) A (call (.builtin "str.join") [.str x t, .ref D]) Q E s := by
  have key : ∀ {vs : List Value} {ss : List Str}, StrsAre vs ss → ∃ l, strValues l = vs ∧ l.map (·.1) = ss := by
    intro vs ss h
    induction h with
    | nil => exact ⟨[], rfl, rfl⟩
    | cons x t _ ih =>
      obtain ⟨l, h1, h2⟩ := ih
      exact ⟨(x, t) :: l, by rw [← h1]; rfl, by rw [List.map_cons, h2]⟩
  obtain ⟨l, h1, h2⟩ := key hS
  exact PySem.SC.join (l := l) (by rw [h1]; simpa using hl) h2 hok h

theorem list_of_dict {s : Shared} {d : Addr} {c : IC} {Q : Value → Shared → Prop} (hh : A.handled = none) (hd : ID prog w s.heap d c) (hn : c.length ≤ sizeLine)
    (h : ∀ D s', Keeps s s' → s.heap.get? D = none → SL s'.heap D (c.map (·.1)) → Q (.ref D) s') : wpAny (model prog w) A (call (.type "list") [.ref d]) Q E s := by
  obtain ⟨hds, kvs, hd, ht⟩ := hd
  obtain ⟨ep, hda⟩ := hd.dictAt
  refine kdl_call (kdl_dict (knd := PySem.strKind prog w) (kvs := kvs) (ep := ep) hds) hh hda (by rw [ht.length]; exact hn) fun h' tk acc' c' hk hD hacc => h _ _ (keeps_mk s hk) (get_size _) ⟨acc', ⟨_, hD, rfl, _, rfl⟩, ?_⟩
  refine paired_of_get (by rw [Array.length_toList, hacc.1, List.length_map, ht.length]) fun i v hv => ?_
  obtain ⟨k, x, e1, e2⟩ := hacc.2 i v (by rw [← Array.getElem?_toList]; exact hv)
  obtain ⟨t, rfl⟩ := Value.isStrOf_shape e2
  obtain ⟨n, u, e3, _⟩ := ht.get e1
  exact ⟨k, by rw [List.getElem?_map, e3]; rfl, t, rfl⟩
end Mine

-- part: FEq
set_option maxHeartbeats 4000000
namespace Mine
open PySem PySem.W PyProof.Rows PySem.SeqAt
variable {prog : Program} {w : World} {A : Around} {E : Value → Shared → Prop}

theorem reads_strs {h : Heap} {vs : List Value} {ss : List Str} (x : StrsAre vs ss) : ReadsAll h vs (ss.map PyData.str) [] := by
  induction x with
  | nil => exact .nil
  | cons k t _ ih => simpa using ReadsAll.cons (Reads.str (h := h) k t) ih
theorem lay_strs : ∀ ss : List Str, ss.all PyData.strOk = true → PyData.canLayAll0 (ss.map PyData.str) = true
  | [], _ => by simp [PyData.canLayAll0]
  | n :: r, h => by
    rw [List.all_cons, Bool.and_eq_true] at h
    simp [PyData.canLayAll0, PyData.canLay0, lay_strs r h.2, h.1]
theorem depth_strs : ∀ ss : List Str, PyData.depthAll (ss.map PyData.str) ≤ 1
  | [] => by simp [PyData.depthAll]
  | n :: r => by
    have := depth_strs r
    simp only [List.map_cons, PyData.depthAll, PyData.depth]
    omega
theorem shaped_strs (ss : List Str) (hok : ss.all PyData.strOk = true) : shaped (.list (ss.map PyData.str)) = true := by
  have h1 := depth_strs ss
  have h2 : PyData.depth (.list (ss.map PyData.str)) ≤ 64 := by simp only [PyData.depth]; omega
  show (PyData.canLay0 (.list (ss.map PyData.str)) && decide (PyData.depth (.list (ss.map PyData.str)) ≤ 64)) = true
  rw [Bool.and_eq_true]
  exact ⟨by simp only [PyData.canLay0]; exact lay_strs ss hok, decide_eq_true h2⟩
theorem mix_strs : ∀ ns : List Str, noMixAll (ns.map PyData.str) (ns.map PyData.str) = true
  | [] => by simp [noMixAll]
  | _ :: r => by simp [noMixAll, noMix, mix_strs r]
theorem same_strs : ∀ ns : List Str, PySem.Spec.sameAll (ns.map PyData.str) (ns.map PyData.str) = true
  | [] => by simp [PySem.Spec.sameAll]
  | n :: r => by simp [PySem.Spec.sameAll, PySem.Spec.same, same_strs r]

theorem ne_strs_eq {s : Shared} {a b : Addr} {xs ys : Array Value} {ss : List Str} {Q : Value → Shared → Prop} (hl : s.heap.IsList a xs) (hi : StrsAre xs.toList ss) (hl' : s.heap.IsList b ys) (hi' : StrsAre ys.toList ss) (hok : ss.all PyData.strOk = true) (hu : A.units + 64 < cLine)
    (h : Q (.bool false) s) : wpAny (model prog w) A (compareOp .NotEq (.ref a) (.ref b)) Q E s := by
  obtain ⟨o, ho, hc, n, hd⟩ := hl
  obtain ⟨o', ho', hc', n', hd'⟩ := hl'
  refine ne_dataH_same (Reads.list ho hc hd (reads_strs hi)) (Reads.list ho' hc' hd' (reads_strs hi')) (shaped_strs ss hok) (shaped_strs ss hok) hu (by simp only [noMix]; exact mix_strs ss) (by simp only [PySem.Spec.same]; rw [same_strs]; exact h)

theorem ne_pair_eq {s : Shared} {a b p q : Addr} {x : Str} {i : Int} {t u t' u' : Tok} {Q : Value → Shared → Prop} (hl : s.heap.IsList a #[.ref p]) (hp : s.heap.IsTuple p #[.str x t, .int i u]) (hl' : s.heap.IsList b #[.ref q]) (hq : s.heap.IsTuple q #[.str x t', .int i u'])
    (hok : PyData.strOk x = true) (hu : A.units + 64 < cLine) (h : Q (.bool false) s) : wpAny (model prog w) A (compareOp .NotEq (.ref a) (.ref b)) Q E s := by
  obtain ⟨o, ho, hc, n, hd⟩ := hl
  obtain ⟨o', ho', hc', n', hd'⟩ := hl'
  obtain ⟨o₁, ho₁, hc₁, n₁, hd₁⟩ := hp
  obtain ⟨o₂, ho₂, hc₂, n₂, hd₂⟩ := hq
  have sh : shaped (.list [.tuple [.str x, .int i]]) = true := by
    show (PyData.canLay0 (.list [.tuple [.str x, .int i]]) && decide (PyData.depth (.list [.tuple [.str x, .int i]]) ≤ 64)) = true
    simp [PyData.canLay0, PyData.canLayAll0, PyData.depth, PyData.depthAll, hok]
  have r1 : Reads s.heap (.ref p) (.tuple [.str x, .int i]) [] := Reads.tuple ho₁ hc₁ hd₁ (.cons (as := []) (bs := []) (.str x t) (.cons (as := []) (bs := []) (.int i u) .nil))
  have r2 : Reads s.heap (.ref q) (.tuple [.str x, .int i]) [] := Reads.tuple ho₂ hc₂ hd₂ (.cons (as := []) (bs := []) (.str x t') (.cons (as := []) (bs := []) (.int i u') .nil))
  refine ne_dataH_same (Reads.list ho hc hd (.cons (as := []) (bs := []) r1 .nil)) (Reads.list ho' hc' hd' (.cons (as := []) (bs := []) r2 .nil)) ?_ ?_ hu ?_ ?_
  · exact sh
  · exact sh
  · simp [noMix, noMixAll]
  · simp only [PySem.Spec.same, PySem.Spec.sameAll, beq_self_eq_true, Bool.and_self, Bool.not_true, decide_true]; exact h
end Mine

-- part: FExt
set_option maxHeartbeats 4000000
namespace Mine
open PySem PySem.W PyProof.Rows Builtin PySem.AutoSeq1
variable {prog : Program} {w : World} {A : Around} {E : Value → Shared → Prop}

theorem extend_any (l : Addr) (items : Array Value) (n : Nat) (b : Addr) (items2 : Array Value) (n2 : Nat) (d2 : Option Addr) (sl2 : Array (Option Value)) (hc0 : ¬(!items.isEmpty && Builtin.List.listTooLong (items.size + items2.size)) = true) (hc1 : items.size ≤ sizeLine) (hs2 : items.size + items2.size ≤ sizeLine + 1) :
    Meets (Builtin.«list.extend» ⟨[.ref l, .ref b], []⟩) (fun _ R s => s.heap.get? l = some { cls := .type "list", dict := none, data := .seq items n, slots := #[] } ∧ s.heap.get? b = some { cls := .type "list", dict := d2, data := .seq items2 n2, slots := sl2 } ∧ R (.ok (.ret Value.none)) { s with heap := s.heap.update l (Obj.mapSeq fun x => x ++ items2), toks := s.toks }) :=
  .of_wp fun prog w A R s h => by
    obtain ⟨hp, g, d, tk, os⟩ := s; obtain ⟨hl, hb, h⟩ := h; have f1 := idx_int; have f2 := PySem.AutoSeq1.sub_tuple_tuple; have f3 := PySem.AutoSeq1.sub_list_list; have f4 := PySem.AutoSeq1.sub_tuple_list; have f5 := PySem.AutoSeq1.sub_list_tuple
    have hz' : (items ++ items2).size ≤ sizeLine + 1 := by rw [Array.size_append]; exact hs2
    wp_walk using (wpAny_updateSeq hl rfl (hz := hc1) (_hz' := hz')), wpAny_loadPart' hl, wpAny_loadPart' hb; exact ⟨_, rfl, h⟩

/-- a list as it is laid -/
noncomputable def LO (items : Array Value) (n : Nat) : Obj := { cls := .type "list", dict := none, data := .seq items n, slots := #[] }

theorem append_hid {env : Env} {s₀ s : Shared} {g : Heap} {hid : List (Addr × Obj)} {vs : List (Str × Value)} {l : Addr} {items : Array Value} {n : Nat} {x : Value} {Q : Value → Shared → Prop} (F : Fv env s₀ g ((l, LO items n) :: hid) vs s) (hne : ∀ p ∈ hid, p.1 ≠ l) (hsz : items.size ≤ 1000)
    (h : ∀ n' s', Fv env s₀ g ((l, LO (items.push x) n') :: hid) vs s' → Q .none s') : wpAny (model prog w) A (call (.builtin "list.append") [.ref l, x]) Q E s := by
  have ho := F.hidAt List.mem_cons_self
  have z : items.size ≤ sizeLine := by rw [sizeLine_eq]; omega
  refine wpAny_call_entry PySem.F.slot_list_append ⟨_, ho, rfl⟩ PySem.F.entry_list_append ?_ (PySem.args_list_append _ _)
  show wpAny _ _ (updateSeq l (·.push x) >>= fun _ => ret .none) _ _ s
  refine wpAny_bind (wpAny_updateSeq ho rfl (wpAny_pure ⟨.none, rfl, ?_⟩))
  obtain ⟨n', hn'⟩ : ∃ n', (s.heap.update l (Obj.mapSeq (·.push x))).get? l = some (LO (items.push x) n') := ⟨_, get?_update_seq ho (fun i => i.push x)⟩
  exact h n' _ (F.turn (t := s.toks) (Heap.SameBut.update ..) hn' hne)

theorem extend_hid {env : Env} {s₀ s : Shared} {g : Heap} {hid : List (Addr × Obj)} {vs : List (Str × Value)} {l b : Addr} {items items2 : Array Value} {n : Nat} {Q : Value → Shared → Prop} (F : Fv env s₀ g ((l, LO items n) :: hid) vs s) (hne : ∀ p ∈ hid, p.1 ≠ l)
    (hb : s.heap.IsList b items2) (hsz : items.size + items2.size ≤ 1000)
    (h : ∀ n' s', Fv env s₀ g ((l, LO (items ++ items2) n') :: hid) vs s' → Q .none s') : wpAny (model prog w) A (call (.builtin "list.extend") [.ref l, .ref b]) Q E s := by
  have ho := F.hidAt List.mem_cons_self
  obtain ⟨⟨cls, dd, data, sl⟩, ho2, hc, n2, hd⟩ := id hb
  simp only at hc hd
  subst hc hd
  have hd0 : ¬(!items.isEmpty && Builtin.List.listTooLong (items.size + items2.size)) = true := extend_door (by rw [sizeLine_eq]; omega)
  obtain ⟨n', hn'⟩ : ∃ n', (s.heap.update l (Obj.mapSeq (· ++ items2))).get? l = some (LO (items ++ items2) n') := ⟨_, get?_update_seq ho (fun i => i ++ items2)⟩
  exact call_meets PySem.F.slot_list_extend ⟨_, ho, rfl⟩ PySem.F.entry_list_extend (PySem.F.args_list_extend_2 _ _) (extend_any l items n b items2 n2 dd sl hd0 (by rw [sizeLine_eq]; omega) (by rw [sizeLine_eq]; omega))
    ⟨ho, ho2, h n' _ (F.turn (t := s.toks) (Heap.SameBut.update ..) hn' hne)⟩

theorem add_sl {s : Shared} {a b : Addr} {xs ys : List Str} {Q : Value → Shared → Prop} (ha : SL s.heap a xs) (hb : SL s.heap b ys) (hsz : xs.length + ys.length ≤ sizeLine)
    (h : ∀ D s', Keeps s s' → s.heap.get? D = none → SL s'.heap D (xs ++ ys) → Q (.ref D) s') : wpAny (model prog w) A (binaryOp .Add (.ref a) (.ref b)) Q E s := by
  obtain ⟨i1, l1, p1⟩ := ha
  obtain ⟨i2, l2, p2⟩ := hb
  obtain ⟨⟨cls, dd, data, sl⟩, ho, hc, n, hd⟩ := id l1
  obtain ⟨⟨cls2, dd2, data2, sl2⟩, ho2, hc2, n2, hd2⟩ := id l2
  simp only at hc hd hc2 hd2
  subst hc hd hc2 hd2
  have e1 : xs.length = i1.size := by simpa using p1.length
  have e2 : ys.length = i2.size := by simpa using p2.length
  have hz : i1.size + i2.size ≤ sizeLine := by rw [← e1, ← e2]; exact hsz
  refine concat_meets ⟨_, ho, rfl⟩ ⟨_, ho2, rfl⟩ noFill_list_add seq_list_add PySem.F.slot_list_add PySem.F.entry_list_add (PySem.F.args_list_add_2 _ _) (list_addW a b i1 i2 n n2 dd dd2 sl sl2 hz) ⟨ho, ho2, ?_⟩
  refine h _ _ (keeps_mk s (t := s.toks) (Le.push _ _)) (get_size _) ⟨i1 ++ i2, ⟨_, Heap.get?_push_size _ rfl, rfl, _, rfl⟩, ?_⟩
  rw [Array.toList_append]
  have app : ∀ {xs ys : List Str} {us ws : List Value} {rel : Str → Value → Prop}, Paired rel xs us → Paired rel ys ws → Paired rel (xs ++ ys) (us ++ ws) := by
    intro xs ys us ws rel h h'
    induction h with
    | nil => exact h'
    | cons h _ ih => exact .cons h ih
  exact app p1 p2
end Mine

-- part: FEnu
set_option maxHeartbeats 4000000
namespace Mine
open PySem PySem.W PyProof.Rows Builtin
variable {prog : Program} {w : World} {A : Around} {E : Value → Shared → Prop}

theorem key_next_item {s : Shared} {it d : Addr} {i ep : Nat} {kvs : List (Str × Value)} {k : Str} {v : Value} {Q : Value → Shared → Prop} (hit : s.heap.IsKeyIter it d i kvs.length ep)
    (hm : s.heap.DictAt (PySem.strKind prog w) d kvs ep) (hx : kvs[i]? = some (k, v))
    (hQ : ∀ key h', (PySem.strKind prog w).is k key = true → h'.IsKeyIter it d (i + 1) kvs.length ep → Heap.SameBut it s.heap h' → Q key { s with heap := h' }) :
    wpAny (model prog w) A (Builtin.SmallTypes.nextOf (.ref it)) Q E s := by
  obtain ⟨o, ho, hc, hd⟩ := id hit
  obtain ⟨od, es, hod, hcd, hdd, hk, hp, hn⟩ := id hm
  have hsz : es.size = kvs.length := by rw [← hp.length]; simp
  have hlt : i < es.size := by rw [hsz]; exact (List.getElem?_eq_some_iff.mp hx).1
  have hkey : (PySem.strKind prog w).is k es[i].key = true := (hp.get? (e := es[i]) (by simp [hlt]) hx).1
  have hown : Builtin.Dict_items.ownsTuple "dict_keyiterator" = false := by decide
  unfold Builtin.SmallTypes.nextOf
  refine wpAny_bind (wpAny_callSpecial?_slot (name := Str.ofString "__next__") hit.typeIs PySem.F.slot_dict_keyiterator_next
    (wpAny_call_entry PySem.F.slot_dict_keyiterator_next hit.typeIs PySem.F.entry_dict_keyiterator_next ?_ (PySem.F.args_dict_keyiterator_next_1 _)))
  refine wpAny_bind (wpAny_pure (wpAny_bind (wpAny_bind ?_)))
  first | refine wpAny_bind (wpAny_typeNameOfWhole_keyiter hit.typeIs (wpAny_pure ?_)) | refine wpAny_bind (wpAny_typeNameOf_keyiter hit.typeIs (wpAny_pure ?_))
  refine wpAny_bind (wpAny_fieldsOf ho hd ?_)
  simp only [hown, Bool.false_eq_true, if_false]
  show wpAny _ _ (if (Value.ref d == Value.none) = true then _ else _) _ _ s
  rw [if_neg (show ¬ ((Value.ref d == Value.none) = true) from Bool.false_ne_true)]
  refine wpAny_bind (wpAny_pure (wpAny_bind (wpAny_dictEntries hod hdd ?_)))
  rw [if_neg (by rw [hsz]; simp)]
  refine wpAny_bind (wpAny_pure (wpAny_bind (wpAny_dictEpoch hod hdd ?_)))
  rw [if_neg (by simp)]
  refine wpAny_pure ?_
  simp only [show ¬ ((i : Int) < 0) from by omega, if_false, Int.toNat_natCast, Array.getElem?_eq_getElem hlt]
  refine wpAny_bind ?_
  first | refine wpAny_bind (wpAny_typeNameOfWhole_keyiter hit.typeIs (wpAny_pure ?_)) | refine wpAny_bind (wpAny_typeNameOf_keyiter hit.typeIs (wpAny_pure ?_))
  refine wpAny_bind (wpAny_isOneOf_keyiter hit.typeIs ?_)
  show wpAny _ _ (setField (.ref it) 1 (rawInt ((i : Int) + 1)) >>= _) _ _ s
  refine wpAny_bind (wpAny_setField ho hd (by simp) ?_)
  have hit' : (s.heap.update it (Obj.mapFields (·.setIfInBounds 1 (rawInt ((i : Int) + 1))))).IsKeyIter it d (i + 1) kvs.length ep :=
    ⟨_, Heap.get?_update_self _ ho (Obj.isFreed_of_fields (Obj.data_mapFields hd _)), (Obj.cls_mapFields ..).trans hc, by rw [Obj.data_mapFields hd]; simp [rawInt]⟩
  refine wpAny_bind (wpAny_holding ?_)
  refine wpAny_bind (wpAny_isOneOf_keyiter (s := { s with heap := s.heap.update it (Obj.mapFields (·.setIfInBounds 1 (rawInt ((i : Int) + 1)))) }) hit'.typeIs ?_)
  show wpAny _ _ (pure es[i].key) _ _ _
  exact wpAny_pure (wpAny_pure ⟨_, rfl, wpAny_pure (hQ _ _ hkey hit' (Heap.SameBut.update ..))⟩)

theorem key_next_end {s : Shared} {it d : Addr} {i ep : Nat} {kvs : List (Str × Value)} {Q : Value → Shared → Prop} (hh : A.handled = none) (hit : s.heap.IsKeyIter it d i kvs.length ep)
    (hm : s.heap.DictAt (PySem.strKind prog w) d kvs ep) (hx : kvs[i]? = none)
    (hE : ∀ h' e, Heap.ExtBut it s.heap h' → (∃ o, h'.get? e = some o ∧ o.cls = .type "StopIteration") → E (.ref e) { s with heap := h' }) :
    wpAny (model prog w) A (Builtin.SmallTypes.nextOf (.ref it)) Q E s := by
  obtain ⟨o, ho, hc, hd⟩ := id hit
  obtain ⟨od, es, hod, hcd, hdd, hk, hp, hn⟩ := id hm
  have hsz : es.size = kvs.length := by rw [← hp.length]; simp
  have hge : es.size ≤ i := by rw [hsz]; simpa using hx
  have hown : Builtin.Dict_items.ownsTuple "dict_keyiterator" = false := by decide
  unfold Builtin.SmallTypes.nextOf
  refine wpAny_bind (wpAny_callSpecial?_slot (name := Str.ofString "__next__") hit.typeIs PySem.F.slot_dict_keyiterator_next
    (wpAny_call_entry PySem.F.slot_dict_keyiterator_next hit.typeIs PySem.F.entry_dict_keyiterator_next ?_ (PySem.F.args_dict_keyiterator_next_1 _)))
  refine wpAny_bind (wpAny_pure (wpAny_bind (wpAny_bind ?_)))
  first | refine wpAny_bind (wpAny_typeNameOfWhole_keyiter hit.typeIs (wpAny_pure ?_)) | refine wpAny_bind (wpAny_typeNameOf_keyiter hit.typeIs (wpAny_pure ?_))
  refine wpAny_bind (wpAny_fieldsOf ho hd ?_)
  simp only [hown, Bool.false_eq_true, if_false]
  show wpAny _ _ (if (Value.ref d == Value.none) = true then _ else _) _ _ s
  rw [if_neg (show ¬ ((Value.ref d == Value.none) = true) from Bool.false_ne_true)]
  refine wpAny_bind (wpAny_pure (wpAny_bind (wpAny_dictEntries hod hdd ?_)))
  rw [if_neg (by rw [hsz]; simp)]
  refine wpAny_bind (wpAny_pure (wpAny_bind (wpAny_dictEpoch hod hdd ?_)))
  rw [if_neg (by simp)]
  refine wpAny_pure ?_
  simp only [show ¬ ((i : Int) < 0) from by omega, if_false, Int.toNat_natCast, Array.getElem?_eq_none hge]
  refine wpAny_bind ?_
  first | refine wpAny_bind (wpAny_typeNameOfWhole_keyiter hit.typeIs (wpAny_pure ?_)) | refine wpAny_bind (wpAny_typeNameOf_keyiter hit.typeIs (wpAny_pure ?_))
  show wpAny _ _ (setField (.ref it) 0 .none >>= _) _ _ s
  refine wpAny_bind (wpAny_setField ho hd (by simp) ?_)
  show wpAny _ _ (newExc (.type "StopIteration") [] >>= _) _ _ _
  refine wpAny_bind ?_
  simp only [newExc, newTuple]
  refine wpAny_bind (wpAny_newObj_type ?_ (by size_fits))
  refine wpAny_bind (m := firstArgMember _ _) (wpAny_of_eq (a := Value.none) (by first | rfl | (simp only [firstArgMember]; rfl)) ?_)
  refine wpAny_newObj_type ?_ (by size_fits)
  simp only [raiseNew]
  refine wpAny_bind (wpAny_handled ?_)
  first | rw [show A.in1.handled = none from hh] | rw [hh]
  refine wpAny_bind (wpAny_pure (wpAny_throw ?_))
  exact hE _ _ (((Heap.SameBut.update ..).extBut.push _).push _) ⟨_, Heap.get?_push_size _ rfl, rfl⟩

/-- a turn of enumerate, whatever it draws from -/
theorem enum_next {s : Shared} {e it : Addr} {i : Nat} {old : Value} {R : Value → Heap → Prop} {Q : Value → Shared → Prop} (he : IsEnum s.heap e it i old) (hne : e ≠ it)
    (hn : ∀ Q' : Value → Shared → Prop, (∀ x h₁, R x h₁ → Heap.SameBut it s.heap h₁ → Q' x { s with heap := h₁ }) → wpAny (model prog w) A (Builtin.SmallTypes.nextOf (.ref it)) Q' E s)
    (hQ : ∀ x h₁ h', R x h₁ → IsEnumOut h' e it ((i : Int) + 1) x s.heap.objs.size → h'.IsTuple s.heap.objs.size #[.int i s.toks, x] → (∀ b o, b ≠ e → h₁.get? b = some o → h'.get? b = some o) →
      (∀ b o, b ≠ e → b ≠ it → s.heap.get? b = some o → h'.get? b = some o) → Q (.ref s.heap.objs.size) { s with heap := h', toks := s.toks + 1 }) :
    wpAny (model prog w) A (Builtin.«enumerate.__next__» ⟨[.ref e], []⟩) (fun fin s' => ∃ v, fin = .done (.ret v) ∧ Q v s') E s := by
  obtain ⟨hp, g, d, tk, os⟩ := s
  have hel : e < hp.objs.size := Heap.lt_size he
  show wpAny _ _ (field (.ref e) 2 >>= _) _ _ _
  refine wpAny_bind (wpAny_field he rfl (x := .ref it) rfl (wpAny_bind (hn _ fun x h₁ hR hs₁ => ?_)))
  replace hs₁ : Heap.SameBut it hp h₁ := hs₁
  have he₁ : IsEnum h₁ e it i old := (hs₁.2 e hne).trans he
  show wpAny _ _ (field (.ref e) 3 >>= _) _ _ ⟨h₁, g, d, tk, os⟩
  refine wpAny_bind (wpAny_field he₁ rfl (x := rawInt i) rfl ?_)
  show wpAny _ _ (field (.ref e) 4 >>= _) _ _ ⟨h₁, g, d, tk, os⟩
  refine wpAny_bind (wpAny_field he₁ rfl (x := .none) rfl ?_)
  show wpAny _ _ (mkInt i >>= _) _ _ ⟨h₁, g, d, tk, os⟩
  refine wpAny_bind (wpAny_mkInt ?_)
  show wpAny _ _ (setField (.ref e) 3 (rawInt ((i : Int) + 1)) >>= _) _ _ ⟨h₁, g, d, tk + 1, os⟩
  refine wpAny_bind (wpAny_setField_rec he₁ (by simp) fun h₂ he₂ hs₂ => ?_)
  replace hs₂ : Heap.SameBut e h₁ h₂ := hs₂
  replace he₂ : IsEnum h₂ e it ((i : Int) + 1) old := he₂
  show wpAny _ _ (setField (.ref e) 4 .none >>= _) _ _ ⟨h₂, g, d, tk + 1, os⟩
  refine wpAny_bind (wpAny_setField_rec he₂ (by simp) fun h₃ he₃ hs₃ => ?_)
  replace hs₃ : Heap.SameBut e h₂ h₃ := hs₃
  replace he₃ : IsEnum h₃ e it ((i : Int) + 1) old := he₃
  have hsz : h₃.objs.size = hp.objs.size := by rw [hs₃.1, hs₂.1, hs₁.1]
  show wpAny _ _ (newTuple [.int i tk, x] >>= _) _ _ ⟨h₃, g, d, tk + 1, os⟩
  refine wpAny_bind (wpAny_newTuple ?_)
  obtain ⟨h₄, hh₄⟩ : ∃ h₄, h₃.push { cls := .type "tuple", data := .seq #[.int i tk, x] } = h₄ := ⟨_, rfl⟩
  have he₄ : IsEnum h₄ e it ((i : Int) + 1) old := hh₄ ▸ Heap.get?_push_of_some _ he₃
  have ht₄ : h₄.get? hp.objs.size = some { cls := .type "tuple", data := .seq #[.int i tk, x] } := by rw [← hh₄, ← hsz]; exact Heap.get?_push_size _ rfl
  have k₄ : ∀ b o, b ≠ e → h₁.get? b = some o → h₄.get? b = some o := fun b o hb h => by
    rw [← hh₄]; exact Heap.get?_push_of_some _ (hs₃.extBut b o hb (hs₂.extBut b o hb h))
  show wpAny _ _ (Builtin.SmallTypes.ownedTupleIsFree (.ref e) >>= _) _ _ { heap := h₃.push { cls := .type "tuple", data := .seq #[.int i tk, x] }, gens := g, drawn := d, toks := tk + 1, os := os }
  rw [hsz, hh₄]
  refine wpAny_bind ?_
  unfold Builtin.SmallTypes.ownedTupleIsFree
  refine wpAny_bind (wpAny_field he₄ rfl (x := .none) rfl (wpAny_pure ?_))
  simp only [if_true]
  refine wpAny_bind (wpAny_rule (wpAny_bind (wpAny_field he₄ rfl (x := old) rfl (wpAny_bind (wpAny_setField_rec he₄ (by simp) fun h₅ he₅ hs₅ => ?_)))))
  replace hs₅ : Heap.SameBut e h₄ h₅ := hs₅
  replace he₅ : IsEnum h₅ e it ((i : Int) + 1) x := he₅
  show wpAny _ _ (Builtin.SmallTypes.ownedTupleHandOut (.ref e) (.ref hp.objs.size) >>= _) _ _ ⟨h₅, g, d, tk + 1, os⟩
  refine wpAny_bind ?_
  unfold Builtin.SmallTypes.ownedTupleHandOut
  refine wpAny_bind (wpAny_setField_rec he₅ (by simp) fun h₆ he₆ hs₆ => ?_)
  replace hs₆ : Heap.SameBut e h₅ h₆ := hs₆
  replace he₆ : IsEnumOut h₆ e it ((i : Int) + 1) x hp.objs.size := he₆
  refine wpAny_setField_rec he₆ (by simp) fun h₇ he₇ hs₇ => ?_
  replace hs₇ : Heap.SameBut e h₆ h₇ := hs₇
  replace he₇ : IsEnumOut h₇ e it ((i : Int) + 1) x hp.objs.size := he₇
  have k₇ : ∀ b o, b ≠ e → h₄.get? b = some o → h₇.get? b = some o := fun b o hb h => hs₇.extBut b o hb (hs₆.extBut b o hb (hs₅.extBut b o hb h))
  exact wpAny_bind (wpAny_letGo (wpAny_pure ⟨_, rfl, hQ x h₁ h₇ hR he₇ ⟨_, k₇ _ _ (Nat.ne_of_gt hel) ht₄, rfl, _, rfl⟩ (fun b o hb h => k₇ b o hb (k₄ b o hb h))
    fun b o hb hb' h => k₇ b o hb (k₄ b o hb (hs₁.extBut b o hb' h))⟩))
end Mine

-- part: FLc2
set_option maxHeartbeats 4000000
namespace Mine
open PySem PySem.W PyProof.Rows Builtin
variable {prog : Program} {w : World} {A : Around} {E : Value → Shared → Prop}

inductive EInv (s₂ s : Shared) (D C : Addr) (n : Nat) (St : Nat → Heap → Prop) (Fe : Nat → Value → Prop) (k : Nat) (s' : Shared) : Prop
  | mk (i : Nat) (acc : Array Value) (m : Str → Option Value) (h' : Heap) (t' : Nat) (e : s' = { s₂ with heap := h', toks := t' }) (st : St i h') (d : PlainL h' D acc) (ns : h'.Ns C m) (le : Le s.heap h')
    (it : ItemsOf Fe acc i) (hi : i ≤ n) (hk : k = n + 1 - i)

theorem lc2 {s : Shared} {env : Env} {elt iter : Expr} {x x₂ : Str} {px px₂ tp : Pos} {tk} {scope : Scope} {cl : List (Str × Addr)} {pos : Pos} {Q : Value → Shared → Prop} (hh : A.handled = none)
    (Fe : Nat → Value → Prop) (n : Nat) (hn : n ≤ 1000) (Pr : Nat → Value → Value → Prop)
    (hclos : closureFor scope env = pure cl)
    (h : wpAny (model prog w) A (eval iter env) (fun xv s₁ => wpAny (model prog w) A (pyIter xv) (fun it s₂ => ∃ I fp wr Pt St Mid, it = .ref I ∧ WalksT prog w A I fp wr n Pt St Mid ∧ St 0 s₂.heap ∧ (∀ b ∈ fp, b < s₂.heap.objs.size) ∧
      Keeps s s₂ ∧ (∀ b ∈ wr, s.heap.get? b = none) ∧ ∀ i vals, Pt i vals → ∃ v₁ v₂, vals = #[v₁, v₂] ∧ Pr i v₁ v₂) E s₁) E s)
    (elts : ∀ i v₁ v₂ C s₃ m₃ E', Pr i v₁ v₂ → Le s.heap s₃.heap → s₃.heap.Ns C m₃ → m₃ x = some v₁ → m₃ x₂ = some v₂ → wpAny (model prog w) A (eval elt (compEnvC scope cl C env)) (fun y s₄ => Fe i y ∧ Keeps s₃ s₄) E' s₃)
    (hQ : ∀ D s' ys, Keeps s s' → s.heap.get? D = none → s'.heap.IsList D ys → ItemsOf Fe ys n → Q (.ref D) s')
    (hcell' : (scope.names.all fun y => y.2 != .cell) = true := by rfl) (hkind : scope.kind = .function := by rfl)
    (hnames' : (scope.names.all fun y => y.2 != .local || scope.names.lookup y.1 == some .local) = true := by rfl) (hx : scope.names.lookup x = some .local := by rfl) (hx₂ : scope.names.lookup x₂ = some .local := by rfl) (hxx : (x == x₂) = false := by rfl)
    (hs : ∀ x, foldedSetIterable iter env x = pure x := by intro _; rfl) :
    wpAny (model prog w) A (eval (.ListComp elt [⟨.Tuple [.Name x px, .Name x₂ px₂] tk tp, iter, [], 0⟩] scope pos) env) Q E s := by
  have hcell : ∀ y ∈ scope.names, y.2 ≠ .cell := fun y hy => by have := List.all_eq_true.mp hcell' y hy; simpa using this
  have hnames : ∀ y ∈ scope.names, y.2 = .local → scope.names.lookup y.1 = some .local := fun y hy e => by have := List.all_eq_true.mp hnames' y hy; simpa [e] using this
  rw [eval_ListComp]
  refine wpAny_comprehension_free (use := none) rfl hs hclos hkind hnames (wpAny_mono h (fun xv s₁ h₁ => wpAny_mono h₁ (fun it s₂ h₂ => ?_) fun _ _ e => e) fun _ _ e => e)
  obtain ⟨I, fp, wr, Pt, St, Mid, rfl, W, hst, hfp, k₂, hwr, hPt⟩ := h₂
  refine wpAny_newObj_type (wpAny_newFunctionEnv hcell (by intro y hy; simp at hy) (fun h₁ hns₁ hsb₁ => ?_) hkind)
  dsimp only at hns₁ hsb₁ ⊢
  generalize hH2 : s₂.heap.push { cls := .type "list", dict := none, data := .seq ([] : List Value).toArray } = H2 at hns₁ hsb₁ ⊢
  have hC : H2.objs.size = s₂.heap.objs.size + 1 := by rw [← hH2, Heap.size_push]
  generalize hDe : s₂.heap.objs.size = D at hC ⊢
  generalize hCe : H2.objs.size = C at hC hns₁ hsb₁ ⊢
  have hDn : s₂.heap.get? D = none := hDe ▸ get_size _
  have hCn : s₂.heap.get? C = none := get_ge _ (by rw [hDe, hC]; exact Nat.le_succ _)
  have hDC : D ≠ C := by rw [hC]; exact Nat.ne_of_lt (Nat.lt_succ_self _)
  have hDf : ∀ b ∈ fp, b ≠ D ∧ b ≠ C := fun b hb => by
    have := hfp b hb
    rw [hDe] at this
    exact ⟨Nat.ne_of_lt this, by rw [hC]; exact Nat.ne_of_lt (Nat.lt_succ_of_lt this)⟩
  have old : Le s₂.heap h₁ := fun b o e => hsb₁.extBut b o (by rintro rfl; rw [hCn] at e; cases e) (Heap.get?_push_of_some _ (hH2 ▸ Heap.get?_push_of_some _ e))
  have hD₁ : PlainL h₁ D #[] := ⟨_, _, hsb₁.extBut _ _ hDC (Heap.get?_push_of_some _ (hH2 ▸ hDe ▸ Heap.get?_push_size _ rfl)), rfl, rfl, rfl⟩
  have sC : ∀ b o, s.heap.get? b = some o → b ≠ C ∧ b ≠ D := fun b o e => ⟨(by rintro rfl; rw [keeps_le k₂ _ _ e] at hCn; cases hCn), (by rintro rfl; rw [keeps_le k₂ _ _ e] at hDn; cases hDn)⟩
  have sW : ∀ b o, s.heap.get? b = some o → b ∉ wr := fun b o e hm => by rw [hwr b hm] at e; cases e
  have kx : ∀ {y : Str}, scope.names.lookup y = some .local → (compEnvC scope cl C env).kindOf y = some .local := fun h => lookup_relabel_local h
  have kk : ((compEnvC scope cl C env).scope.kind == .class || ((compEnvC scope cl C env).scope.kind == .module && (compEnvC scope cl C env).locals != (compEnvC scope cl C env).globals)) = false := by
    have e : (compEnvC scope cl C env).scope.kind = .function := hkind
    rw [e]; rfl
  have hst₁ : St 0 h₁ := W.frame _ _ _ hst fun b _ o e => old b o e
  have loop : ∀ s₃ : Shared, s₃ = { s₂ with heap := h₁, toks := s₂.toks + ([] : List (Str × Value)).length } →
      codeAny (model prog w) A (.compLoop (.ListComp elt [⟨.Tuple [.Name x px, .Name x₂ px₂] tk tp, iter, [], 0⟩] scope pos) 0 (.ref I) (.ref D) (compEnvC scope cl C env)) (compPost (model prog w) A E none Q (.ref D) C) s₃ := by
    rintro s₃ rfl
    refine LCp.codeAny_compLoop_pair (EInv s₂ s D C n St Fe) ?_ (n + 1)
      ⟨0, #[], _, _, _, rfl, hst₁, hD₁, hns₁, (keeps_le k₂).trans old, ItemsOf.nil _, Nat.zero_le _, rfl⟩
    rintro k s' ⟨i, acc, m, h', t', rfl, hSt, hD, hN, hLe, hIt, hi, rfl⟩
    by_cases hlt : i < n
    · refine W.item i _ _ _ hlt hSt fun T vals h₂ tk₂ hP hTs hT hM hk₂ => ?_
      obtain ⟨v₁, v₂, rfl, hPr⟩ := hPt i vals hP
      refine W.go _ _ _ i T _ _ _ hM fun h₃ hSt₃ hk₃ => ?_
      have hk : ∀ b o, b ∉ wr → h'.get? b = some o → h₃.get? b = some o := fun b o hb e => hk₃ b o hb (hk₂ b o hb e)
      have hwD : D ∉ wr := fun hm => (hDf D (W.sub _ hm)).1 rfl
      have hwC : C ∉ wr := fun hm => (hDf C (W.sub _ hm)).2 rfl
      have hT₃ : h₃.IsTuple T #[v₁, v₂] := tuple_mv hT fun o e => hk₃ _ _ (W.apart _ _ _ hM) e
      have hD₃ : PlainL h₃ D acc := plain_mv hD fun o e => hk _ _ hwD e
      have hN₃ : h₃.Ns C m := hN.at fun o e => hk _ o hwC e
      have hLe₃ : Le s.heap h₃ := fun b o e => hk b o (sW b o e) (hLe b o e)
      refine wpAny_assign_Tuple hh hT₃ rfl rfl fun h₄ hx₄ => ?_
      have k₄ : Le h₃ h₄ := fun b o e => hx₄ b o (Nat.ne_of_lt (Heap.lt_size e)) e
      show wpAny _ _ (do holding [v₂] (assign (.Name x px) _ v₁); do holding [] (assign (.Name x₂ px₂) _ v₂); pure ()) _ _ _
      refine wpAny_bind (wpAny_holding (wpAny_assign_Name (wpAny_storeName_local (kx hx) (hN₃.keeps k₄) (fun h₅ hN₅ hs₅ => ?_) kk)))
      refine wpAny_bind (wpAny_holding (wpAny_assign_Name (wpAny_storeName_local (kx hx₂) hN₅ (fun h₆ hN₆ hs₆ => wpAny_pure ?_) kk)))
      have k₆ : ∀ b o, b ≠ C → h₃.get? b = some o → h₆.get? b = some o := fun b o hb e => hs₆.extBut b o hb (hs₅.extBut b o hb (k₄ b o e))
      have hne : x ≠ x₂ := by simpa using hxx
      refine wpAny_mono (elts i v₁ v₂ C _ _ _ hPr (fun b o e => k₆ b o (sC b o e).1 (hLe₃ b o e)) hN₆ (by simp [hne]) (by simp)) (fun y s₇ h₇ => ?_) fun _ _ e => e
      obtain ⟨hFe, k₇⟩ := h₇
      obtain ⟨h₇, t₇, rfl, k₇⟩ := k₇
      have hD₇ : PlainL h₇ D acc := let ⟨o, a, e, r⟩ := hD₃; ⟨o, a, k₇ _ _ (k₆ _ _ hDC e), r⟩
      refine list_append_plainL hD₇ (fun h₈ hD₈ hs₈ => ?_) (by rw [hIt.1, sizeLine_eq]; omega)
      have k₈ : ∀ b o, b ≠ D → b ≠ C → h₃.get? b = some o → h₈.get? b = some o := fun b o hb hb' e => hs₈.extBut b o hb (k₇ b o (k₆ b o hb' e))
      refine ⟨n + 1 - (i + 1), sub_dec hlt, i + 1, acc.push y, _, h₈, _, rfl, W.frame _ _ _ hSt₃ (fun b hb o e => k₈ b o (hDf b hb).1 (hDf b hb).2 e), hD₈, (hN₆.keeps k₇).sameBut hs₈ (Ne.symm hDC), fun b o e => k₈ b o (sC b o e).2 (sC b o e).1 (hLe₃ b o e), hIt.push hFe, hlt, rfl⟩
    · have hin : i = n := Nat.le_antisymm hi (Nat.not_lt.mp hlt)
      subst hin
      refine W.done _ _ _ hSt fun h₂ tk₂ hk₂ => ?_
      have hwD : D ∉ wr := fun hm => (hDf D (W.sub _ hm)).1 rfl
      have hwC : C ∉ wr := fun hm => (hDf C (W.sub _ hm)).2 rfl
      have hD₂ : PlainL h₂ D acc := plain_mv hD fun o e => hk₂ _ _ hwD e
      refine ⟨m, hN.at fun o e => hk₂ _ o hwC e, fun h'' hs'' => hQ D _ acc ?_ (none_of_keeps k₂ hDn) ?_ hIt⟩
      · obtain ⟨h0, t0, e0, _⟩ := k₂
        exact ⟨h'', tk₂, by rw [e0], fun b o e => hs''.extBut b o (sC b o e).1 (hk₂ b o (sW b o e) (hLe b o e))⟩
      · have := hD₂.isList
        exact this.at fun o e => hs''.extBut _ o hDC e
  exact codeAny_compStart_list (loop _ rfl) (W.self 0 _ _ _ hst₁ (loop _ rfl))
end Mine

-- part: FEnu2
set_option maxHeartbeats 4000000
namespace Mine
open PySem PySem.W PyProof.Rows Builtin
variable {prog : Program} {w : World} {A : Around} {E : Value → Shared → Prop}

theorem enum_walks (hh : A.handled = none) (e it d : Addr) (hei : e ≠ it) (hde : d ≠ e) (hdi : d ≠ it) (kvs : List (Str × Value)) (ep : Nat) :
    WalksT prog w A e [e, it, d] [e, it] kvs.length (fun i vals => ∃ t k x key, kvs[i]? = some (k, x) ∧ (PySem.strKind prog w).is k key = true ∧ vals = #[.int i t, key])
      (fun i h => (∃ old, IsEnum h e it i old) ∧ h.IsKeyIter it d i kvs.length ep ∧ h.DictAt (PySem.strKind prog w) d kvs ep)
      (fun i T h => (∃ x, IsEnumOut h e it ((i : Int) + 1) x T) ∧ h.IsKeyIter it d (i + 1) kvs.length ep ∧ h.DictAt (PySem.strKind prog w) d kvs ep ∧ T ≠ e ∧ T ≠ it) where
  sub := fun b hb => by
    simp only [List.mem_cons, List.not_mem_nil, or_false] at hb ⊢
    rcases hb with rfl | rfl
    · exact .inl rfl
    · exact .inr (.inl rfl)
  frame := fun i h h' hst hk => by
    obtain ⟨⟨old, he⟩, ⟨o, ho, r⟩, hd⟩ := hst
    exact ⟨⟨old, hk e (by simp) _ he⟩, ⟨o, hk it (by simp) _ ho, r⟩, hd.at' fun o x => hk d (by simp) o x⟩
  item := fun i s Q E hi hst hQ => by
    obtain ⟨⟨old, he⟩, hit, hd⟩ := hst
    obtain ⟨⟨k, x⟩, hx⟩ : ∃ p, kvs[i]? = some p := ⟨_, List.getElem?_eq_getElem hi⟩
    have hT : s.TypeIs (.ref e) "enumerate" := ⟨_, he, rfl⟩
    have helt : e < s.heap.objs.size := Heap.lt_size he
    have hilt : it < s.heap.objs.size := by obtain ⟨_, x, _⟩ := hit; exact Heap.lt_size x
    unfold pyNext
    refine wpAny_bind (wpAny_attempt (wpAny_callSpecial?_slot (name := Str.ofString "__next__") hT PySem.F.slot_enumerate_next (wpAny_call_entry PySem.F.slot_enumerate_next hT PySem.F.entry_enumerate_next
      (enum_next (R := fun key h₁ => (PySem.strKind prog w).is k key = true ∧ h₁.IsKeyIter it d (i + 1) kvs.length ep) he hei (fun Q' q => key_next_item hit hd hx fun key h' a b c => q key h' ⟨a, b⟩ c)
        fun key h₁ h' hR ho hT' hk hk' => wpAny_pure ?_) (PySem.F.args_enumerate_next_1 _))))
    obtain ⟨o, hio, r⟩ := hR.2
    exact hQ s.heap.objs.size #[.int i s.toks, key] h' (s.toks + 1) ⟨_, k, x, key, hx, hR.1, rfl⟩ (Nat.le_refl _) hT' ⟨⟨_, ho⟩, ⟨o, hk _ _ hei.symm hio, r⟩, hd.at' fun o x => hk' d o hde hdi x, Nat.ne_of_gt helt, Nat.ne_of_gt hilt⟩
      fun b o hb x => hk' b o (fun e' => hb (by simp [e'])) (fun e' => hb (by simp [e'])) x
  go := fun elts k pos i T s Q E hm hQ => by
    obtain ⟨⟨x, ho⟩, ⟨o, hio, r⟩, hd, hTe, hTi⟩ := hm
    refine wpAny_letOwnedTupleGo_enum ho fun h' he' hs' => hQ h' ⟨⟨x, by simpa using he'⟩, ⟨o, (hs'.2 it hei.symm).trans hio, r⟩, hd.at' fun o y => (hs'.2 d hde).trans y⟩ fun b o hb y => ?_
    exact (hs'.2 b fun e' => hb (by simp [e'])).trans y
  apart := fun i T h hm hT => by
    obtain ⟨_, _, _, hTe, hTi⟩ := hm
    simp only [List.mem_cons, List.not_mem_nil, or_false] at hT
    rcases hT with rfl | rfl
    · exact hTe rfl
    · exact hTi rfl
  done := fun s Q E hst hQ => by
    obtain ⟨⟨old, he⟩, hit, hd⟩ := hst
    have hT : s.TypeIs (.ref e) "enumerate" := ⟨_, he, rfl⟩
    unfold pyNext
    refine wpAny_bind (wpAny_attempt (wpAny_callSpecial?_slot (name := Str.ofString "__next__") hT PySem.F.slot_enumerate_next (wpAny_call_entry PySem.F.slot_enumerate_next hT PySem.F.entry_enumerate_next ?_ (PySem.F.args_enumerate_next_1 _))))
    show wpAny _ _ (field (.ref e) 2 >>= _) _ _ _
    refine wpAny_bind (wpAny_field he rfl (x := .ref it) rfl ?_)
    refine wpAny_bind (key_next_end hh hit hd (List.getElem?_eq_none (Nat.le_refl _)) fun h' x he' hx' => ?_)
    obtain ⟨o, ho, hc⟩ := hx'
    refine wpAny_bind (wpAny_isInstance (T := "StopIteration") (b := true) ⟨o, ho, hc⟩ isSubtype_stop ?_)
    exact wpAny_pure (hQ h' s.toks fun b o hb y => he' b o (fun e' => hb (by simp [e'])) y)
  self := fun i s Q E hst hQ => by
    obtain ⟨⟨old, he⟩, _, _⟩ := hst
    exact wpAny_pyIter_enum he hQ

end Mine

-- part: FEnu3
set_option maxHeartbeats 4000000
namespace Mine
open PySem PySem.W PyProof.Rows Builtin
variable {prog : Program} {w : World} {A : Around} {E : Value → Shared → Prop}

theorem iter_raw {A : Around} {E : Value → Shared → Prop} {s : Shared} {d : Addr} {o : Obj} {es : Array DictEntry} {ep : Nat} {Q : Value → Shared → Prop} (hds : (d == sysModules) = false) (ho : s.heap.get? d = some o) (hT : o.cls = .type "dict") (hd : o.data = .dict es ep)
    (hQ : Q (.ref s.heap.objs.size) { s with heap := s.heap.push { cls := .type "dict_keyiterator", data := .fields #[.ref d, .int 0 0, .int es.size 0, .int ep 0] } }) : wpAny (model prog w) A (pyIter (.ref d)) Q E s := by
  have hT : s.TypeIs (.ref d) "dict" := ⟨o, ho, hT⟩
  refine wpAny_pyIter_slot hT PySem.F.slot_dict_iter (wpAny_call_entry PySem.F.slot_dict_iter hT PySem.F.entry_dict_iter ?_ (PySem.F.args_dict_iter_1 _))
  unfold Builtin.«dict.__iter__»
  refine wpAny_bind ?_
  unfold Builtin.Dict.dictSlotNone
  refine wpAny_bind (wpAny_notOrdered_dict hT ?_)
  show wpAny _ _ (pure (Value.ref d)) _ _ s
  refine wpAny_pure ?_
  show wpAny _ _ (Builtin.Dict.showsAll d >>= _) _ _ s
  unfold Builtin.Dict.showsAll
  rw [if_neg (by rw [hds]; exact Bool.false_ne_true)]
  refine wpAny_bind (wpAny_pure (wpAny_bind (wpAny_dictEntries ho hd (wpAny_bind (wpAny_dictEpoch ho hd ?_)))))
  refine wpAny_bind (wpAny_newObj_type (wpAny_pure ⟨_, rfl, "dict_keyiterator", _, ⟨_, Heap.get?_push_size _ rfl, rfl⟩, PySem.F.slot_dict_keyiterator_next.lookup, ?_⟩))
  simpa [rawInt] using hQ

theorem meets_enumD (d : Addr) (o : Obj) (es : Array DictEntry) (ep : Nat) (hds : (d == sysModules) = false) (hT : o.cls = .type "dict") (hd : o.data = .dict es ep) :
    Meets (Builtin.«enumerate.__new__» ⟨[.type "enumerate", .ref d], []⟩) (fun _ R s => s.heap.get? d = some o ∧
      R (.ok (.ret (.ref (s.heap.push { cls := .type "dict_keyiterator", data := .fields #[.ref d, .int 0 0, .int es.size 0, .int ep 0] }).objs.size))) { s with heap := (s.heap.push { cls := .type "dict_keyiterator", data := .fields #[.ref d, .int 0 0, .int es.size 0, .int ep 0] }).push { cls := .type "enumerate", data := .fields #[.none, .bool false, .ref s.heap.objs.size, rawInt 0, .none, .none] } }) :=
  .of_wp fun prog w A R s h => by
    obtain ⟨hp, g, dd, tk, os⟩ := s; obtain ⟨hl, h⟩ := h
    have hsub := sub_enumerate
    wp_walk
    refine wpAny_stack_any fun st => wpAny_pure ?_
    split
    · rename_i c _ _ _ _ _
      cases (c == Value.type "enumerate")
      · wp_walk using iter_raw hds hl hT hd
        exact ⟨_, rfl, h⟩
      · wp_walk using iter_raw hds hl hT hd
        exact ⟨_, rfl, h⟩
    · wp_walk using iter_raw hds hl hT hd
      exact ⟨_, rfl, h⟩

/-- enumerate over a dict, ready for lc2 -/
theorem it_enum {s : Shared} {d : Addr} {kvs : List (Str × Value)} (hh : A.handled = none) (hd : s.heap.DictOf (PySem.strKind prog w) d kvs) (hds : (d == sysModules) = false) :
    wpAny (model prog w) A (call (.type "enumerate") [.ref d]) (fun xv s₁ => wpAny (model prog w) A (pyIter xv) (fun it s₂ => ∃ I fp wr Pt St Mid, it = .ref I ∧ WalksT prog w A I fp wr kvs.length Pt St Mid ∧ St 0 s₂.heap ∧ (∀ b ∈ fp, b < s₂.heap.objs.size) ∧
      Keeps s s₂ ∧ (∀ b ∈ wr, s.heap.get? b = none) ∧ ∀ i vals, Pt i vals → ∃ v₁ v₂, vals = #[v₁, v₂] ∧ ∃ t k x u, kvs[i]? = some (k, x) ∧ v₁ = .int (i : Int) t ∧ v₂ = .str k u) E s₁) E s := by
  obtain ⟨ep, hda⟩ := hd.dictAt
  obtain ⟨od, es, hod, hcd, hdd, hkd, hpd, hnd⟩ := id hda
  have hes : es.size = kvs.length := by rw [← hpd.length]; simp
  have hz : (s.heap.push { cls := .type "dict_keyiterator", data := .fields #[.ref d, .int 0 0, .int kvs.length 0, .int ep 0] }).objs.size = s.heap.objs.size + 1 := Heap.size_push ..
  have hlt := hda.lt_size
  refine callType_new PySem.F.called_enumerate (by decide) (PySem.F.typeCall_enumerate_1 _) (PySem.F.newCall_enumerate_1 _) (fun obj => PySem.F.args_object_init_2 obj _) PySem.F.entry_enumerate_new (meets_enumD d od es ep hds (by obtain ⟨o2, e2, c2⟩ := hda.dictOf.typeIs (s := s); rw [hod] at e2; cases e2; exact c2) hdd) ⟨hod, ?_⟩
  rw [hes, hz]
  have he : IsEnum ((s.heap.push { cls := .type "dict_keyiterator", data := .fields #[.ref d, .int 0 0, .int kvs.length 0, .int ep 0] }).push
      { cls := .type "enumerate", data := .fields #[.none, .bool false, .ref s.heap.objs.size, rawInt 0, .none, .none] }) (s.heap.objs.size + 1) s.heap.objs.size 0 .none := by
    have := Heap.get?_push_size (s.heap.push { cls := .type "dict_keyiterator", data := .fields #[.ref d, .int 0 0, .int kvs.length 0, .int ep 0] })
      (o := { cls := .type "enumerate", data := .fields #[.none, .bool false, .ref s.heap.objs.size, rawInt 0, .none, .none] }) rfl
    rw [hz] at this; exact this
  have hk : Le s.heap ((s.heap.push { cls := .type "dict_keyiterator", data := .fields #[.ref d, .int 0 0, .int kvs.length 0, .int ep 0] }).push
      { cls := .type "enumerate", data := .fields #[.none, .bool false, .ref s.heap.objs.size, rawInt 0, .none, .none] }) := (Le.push _ _).trans (Le.push _ _)
  refine ⟨⟨_, he, rfl⟩, wpAny_pyIter_enum (i := 0) (old := .none) he ?_⟩
  refine ⟨_, _, _, _, _, _, rfl, enum_walks hh (s.heap.objs.size + 1) s.heap.objs.size d (Nat.succ_ne_self _) (Nat.ne_of_lt (Nat.lt_succ_of_lt hlt)) (Nat.ne_of_lt hlt) kvs ep, ?_, ?_, keeps_mk s (t := s.toks) hk, ?_, ?_⟩
  · exact ⟨⟨_, he⟩, ⟨_, Heap.get?_push_of_some _ (Heap.get?_push_size _ rfl), rfl, rfl⟩, hda.at' fun o e => hk _ _ e⟩
  · intro b hb
    simp only [List.mem_cons, List.not_mem_nil, or_false] at hb
    show b < Array.size _
    rw [Heap.size_push, hz]
    rcases hb with rfl | rfl | rfl
    · exact Nat.lt_succ_self _
    · exact Nat.lt_succ_of_lt (Nat.lt_succ_self _)
    · exact Nat.lt_succ_of_lt (Nat.lt_succ_of_lt hlt)
  · intro b hb
    simp only [List.mem_cons, List.not_mem_nil, or_false] at hb
    rcases hb with rfl | rfl
    · exact get_ge _ (Nat.le_succ _)
    · exact get_size _
  · rintro i vals ⟨t, k, x, key, h1, h2, rfl⟩
    obtain ⟨u, rfl⟩ := Value.isStrOf_shape h2
    exact ⟨_, _, rfl, t, k, x, u, h1, rfl, rfl⟩
end Mine

-- part: FGet
set_option maxHeartbeats 4000000
namespace Mine
open PySem PySem.W PyProof.Rows Builtin
variable {prog : Program} {w : World} {A : Around} {E : Value → Shared → Prop}

theorem gm_get {s : Shared} {d : Addr} {c : IC} {pl : Sem Bool} {Q : Value × List Value → Shared → Prop} (hd : ID prog w s.heap d c) (h : Q (.builtin "dict.get", [.ref d]) s) : wpAny (model prog w) A (getMethod (.ref d) "get" pl) Q E s := by
  obtain ⟨hs, kvs, hd, ht⟩ := hd
  exact getMethod_builtin hd.typeIs PySem.F.plainAttrs_dict PySem.F.slot_dict_get PySem.F.type_dict_get hd.mapOf.noDict h
theorem gm_extend {s : Shared} {l : Addr} {items : Array Value} {n : Nat} {pl : Sem Bool} {Q : Value × List Value → Shared → Prop} (ho : s.heap.get? l = some (LO items n)) (h : Q (.builtin "list.extend", [.ref l]) s) : wpAny (model prog w) A (getMethod (.ref l) "extend" pl) Q E s :=
  getMethod_builtin (T := "list") ⟨_, ho, rfl⟩ PySem.F.plainAttrs_list PySem.F.slot_list_extend PySem.F.type_list_extend (fun a e => by cases e; exact ⟨_, ho, rfl⟩) h
theorem gm_append {s : Shared} {l : Addr} {items : Array Value} {n : Nat} {pl : Sem Bool} {Q : Value × List Value → Shared → Prop} (ho : s.heap.get? l = some (LO items n)) (h : Q (.builtin "list.append", [.ref l]) s) : wpAny (model prog w) A (getMethod (.ref l) "append" pl) Q E s :=
  getMethod_builtin (T := "list") ⟨_, ho, rfl⟩ PySem.F.plainAttrs_list PySem.F.slot_list_append PySem.F.type_list_append (fun a e => by cases e; exact ⟨_, ho, rfl⟩) h

theorem get_id {s : Shared} {d : Addr} {c : IC} {k : Str} {tk tn : Tok} {n : Int} {Q : Value → Shared → Prop} (hd : ID prog w s.heap d c) (h : ∀ t s', Keeps s s' → Q (.int ((getC c k).getD n) t) s') :
    wpAny (model prog w) A (call (.builtin "dict.get") [.ref d, .str k tk, .int n tn]) Q E s := by
  obtain ⟨hs, kvs, hd, ht⟩ := hd
  refine call_meetsIn PySem.F.slot_dict_get hd.typeIs PySem.F.entry_dict_get (PySem.F.args_dict_get_3 _ _ _) (meets_dict_get_default (PySem.strKind prog w) d (strKind_is prog w k tk) hs (.int n tn)) ⟨_, hd.mapOf, ?_⟩
  rcases ht.at k with ⟨i, t, h1, h2⟩ | ⟨h1, h2⟩
  · have := h t _ (keeps_tok s (s.toks + 1)); rw [h1] at this; rw [h2]; exact this
  · have := h tn _ (keeps_tok s (s.toks + 1)); rw [h1] at this; rw [h2]; exact this
end Mine

-- part: FLess0
set_option maxHeartbeats 4000000
namespace Mine
open PySem PySem.W PyProof.Rows
variable {prog : Program} {w : World} {A : Around} {E : Value → Shared → Prop}

theorem eval_sorted {s : Shared} {env : Env} {vs : List (Str × Value)} {e1 : Expr} {x : Str} {way : Int} {tx tw : Tok} {p3 p4 p5 p6 p7 kp : Pos} {T : List Str} {Q : Value → Shared → Prop} (B : Bs w s.heap) (hh : A.handled = none) (R : Rd env vs s.heap)
    (hw : vs.lookup (strT "way") = some (.int way tw)) (hx : x.length < 64)
    (he : ∀ Q' : Value → Shared → Prop, Q' (.str x tx) s → wpAny (model prog w) A (eval e1 env) Q' E s)
    (hT1 : T.Perm (charsOf x)) (hT2 : sortedS (if decide (way > 0) then T.reverse else T) = true)
    (h : ∀ D s' items, Keeps s s' → s'.heap.IsList D items → StrsAre items.toList T → Q (.ref D) s')
    (hg : env.globals = mainGlobals := by rfl) (hb : env.builtins = builtinsNs := by rfl) (hk : env.scope.kind = .function := by rfl) (hxs : env.kindOf (Str.ofString "sorted") = some .globalImplicit := by rfl)
    (ho : kOk env (strT "way") = true := by rfl) (hse : backTo p7 (starEach [e1] env) = (false, eval e1 env) :: backTo p7 (starEach [] env) := by rfl) (hpl : (backTo p7 (starEach [e1] env)).any (·.1) = false := by rfl)
    (hse' : starEach [e1] env = (false, eval e1 env) :: starEach [] env := by rfl) :
    wpAny (model prog w) A (eval (.Call (.Name (Str.ofString "sorted") p3) [e1] [⟨some "reverse", .Compare (.Name (strT "way") p4) [.Gt] [.Constant (.int 0) 0 p5] p6, kp⟩] p7) env) Q E s := by
  refine wpAny_Call_Name_kw (B.ldB (v := .builtin "sorted") (by rfl) (by rfl) (by decide) ?_ hg hb hk hxs)
  refine callWith_kw (args_cons (he _ (args_nil ?_)) hse') hse hpl
  refine kws_cons ?_
  refine wpAny_Compare1 (R.ld hw (wpAny_Constant_int (PyProof.Rows.gt_int ?_)) hk ho)
  refine kws_nil ?_
  refine sorted_rev (ss := charsOf x) (b := decide (way > 0)) (fun R' hR' => col_str hh hx R' fun vs s' k S => hR' vs s' k S) (by unfold charsOf; rw [List.length_map, Array.length_toList]; exact hx) fun D s' items ss' k n hl hS hp hs => ?_
  have : ss' = T := by
    cases hb : decide (way > 0) with
    | true =>
      rw [hb] at hs hT2
      simp only [if_true] at hs hT2
      have := sorted_uniq hs hT2 (((List.reverse_perm _).trans (hp.trans hT1.symm)).trans (List.reverse_perm _).symm)
      exact List.reverse_inj.mp this
    | false =>
      rw [hb] at hs hT2
      simp only [Bool.false_eq_true, if_false] at hs hT2
      exact sorted_uniq hs hT2 (hp.trans hT1.symm)
  subst this
  exact h D s' items (keeps_trans (keeps_tok _ _) k) hl hS
end Mine

-- part: FSl
set_option maxHeartbeats 4000000
namespace Mine
open PySem PySem.W PyProof.Rows
variable {prog : Program} {w : World} {A : Around} {E : Value → Shared → Prop}

/-- a slice with a step, whatever the base -/
theorem sub_slice {s : Shared} {env : Env} {value st : Expr} {lower upper : Option Expr} {p pos : Pos} {T id : String} {Q : Value → Shared → Prop}
    (hl : typeLookup (.type T) "__getitem__" = pure (some (.builtin id)))
    (h : wpAny (model prog w) A (eval value env) (fun o s₁ => wpAny (model prog w) A (eval (.Slice lower upper (some st) p) env) (fun i s₂ => s₂.TypeIs o T ∧ wpAny (model prog w) A (getItem o i) Q E s₂) E s₁) E s) :
    wpAny (model prog w) A (eval (.Subscript value (.Slice lower upper (some st) p) pos) env) Q E s := by
  rw [eval_Subscript]
  refine wpAny_bind (wpAny_mono h (fun o s₁ h₁ => wpAny_bind (wpAny_holding (wpAny_mono h₁ (fun i s₂ h₂ => wpAny_bind (wpAny_standAt ?_)) fun _ _ x => x)))
    fun _ _ x => x)
  have fin : wpAny (model prog w) A (operate [o, i] (getItem o i)) (fun r s₃ => wpAny (model prog w) A (letTemporaryGo value o r >>= fun _ => pure r) Q E s₃) E s₂ :=
    wpAny_operating (wpAny_mono h₂.2 (fun r s₃ h₃ => wpAny_bind (wpAny_letTemporaryGo (wpAny_pure h₃))) fun _ _ x => x)
  first
    | (refine wpAny_bind ?_
       rw [getitemInPython_of_ne h₂.1.not_modules]
       refine wpAny_bind (wpAny_specialOf h₂.1 hl ?_)
       first
         | exact wpAny_pure (wpAny_bind fin)
         | exact wpAny_bind (wpAny_pure (wpAny_bind fin))
         | exact wpAny_bind fin)
    | (refine wpAny_bind (wpAny_specialOf h₂.1 hl ?_)
       first
         | exact wpAny_bind (wpAny_pure (wpAny_bind fin))
         | exact wpAny_bind fin)

theorem slice_st2 {s : Shared} {env : Env} {value e : Expr} {p pos : Pos} {x : Str} {k : Int} {Q : Value → Shared → Prop} (hsz : (stepS x k).length ≤ sizeLine) (h0 : (k == 0) = false)
    (hv : wpAny (model prog w) A (eval value env) (fun o s₁ => (∃ tx, o = .str x tx) ∧ wpAny (model prog w) A (eval e env) (fun v s₂ => (∃ t, v = .int k t) ∧ ∀ t' s', Keeps s₂ s' → Q (.str (stepS x k) t') s') E s₁) E s) :
    wpAny (model prog w) A (eval (.Subscript value (.Slice none none (some e) p) pos) env) Q E s := by
  refine sub_slice (T := "str") F.slot_str_getitem.lookup (wpAny_mono hv (fun o s₁ h₁ => wpAny_Slice ?_) fun _ _ e => e)
  obtain ⟨⟨tx, rfl⟩, h₁⟩ := h₁
  rw [evalPart_none]
  refine wpAny_pure (wpAny_pure (wpAny_evalPart_some (wpAny_mono h₁ (fun v s₂ h₂ => ?_) fun _ _ e => e)))
  obtain ⟨⟨t, rfl⟩, h₂⟩ := h₂
  refine ⟨typeIs_str _ x tx, wpAny_getItem_str_slice (l := none) (u := none) (st := some (k, t)) ⟨_, Heap.get?_push_size _ rfl, rfl, rfl⟩ h0 ?_⟩
  exact PySem.post_val_or_str ⟨hsz, fun t' k => h₂ t' _ (keeps_mk s₂ (Le.push _ _))⟩

section
variable {s s₀ : Shared} {g : Heap} {env : Env} {vs : List (Str × Value)} {hid : List (Addr × Obj)}
/-- over a list of texts that the loop's own iterable lays -/
theorem for_sl {x : Str} {px pos : Pos} {iter : Expr} {body : List Stmt} {ss : List Str} {Q : Flow → Shared → Prop} {E : Value → Shared → Prop}
    (hh : A.handled = none) (F : Fv env s₀ g hid vs s)
    (ho : ∀ Q' : Value → Shared → Prop, (∀ l s', Keeps s s' → s.heap.get? l = none → SL s'.heap l ss → Q' (.ref l) s') → wpAny (model prog w) A (eval iter env) Q' E s)
    (J : Nat → Heap → List (Addr × Obj) → List (Str × Value) → Prop) (h0 : ∀ g', Le g g' → J 0 g' hid vs)
    (step : ∀ I i k t g₁ hid₁ vs₁ oi s₁ (P : Flow → Shared → Prop), (∀ g₂ hid₂ vs₂ s₂, Le g₁ g₂ → J (i + 1) g₂ hid₂ vs₂ → (∀ p ∈ hid₂, p.1 ≠ I) → Fv env s₀ g₂ (hid₂ ++ [(I, oi)]) vs₂ s₂ → P .next s₂) → (∀ v s₂, Q (.ret v) s₂ → P (.ret v) s₂) → ss[i]? = some k → Le g g₁ → J i g₁ hid₁ vs₁ → (∀ p ∈ hid₁, p.1 ≠ I) → Fv env s₀ g₁ (hid₁ ++ [(I, oi)]) ((x, .str k t) :: vs₁) s₁ →
      wpAny (model prog w) A (execs body env) P (fun _ _ => False) s₁)
    (done : ∀ g₁ hid₁ vs₁ s₁, Le g g₁ → J ss.length g₁ hid₁ vs₁ → Fv env s₀ g₁ hid₁ vs₁ s₁ → Q .next s₁)
    (hk : env.scope.kind = .function := by rfl) (hok : kOk env x = true := by rfl) (hfx : (env.kindOf x == some .free) = false := by rfl)
    (hs : ∀ x, foldedSetIterable iter env x = pure x := by intro _; rfl) :
    wpAny (model prog w) A (exec (.For (.Name x px) iter body [] pos) env) Q E s := by
  refine wpAny_For (ho _ fun l s₁ k₁ hln hsl => ?_) hs
  obtain ⟨g', F₁, lg, nw⟩ := F.new k₁
  obtain ⟨items, hl₁, hp⟩ := hsl
  have hl : g'.IsList l items := list_new hl₁ hln nw
  refine wpAny_pyIter_list hl₁ ?_
  generalize hI : s₁.heap.objs.size = I
  have hIn : s₁.heap.get? I = none := hI ▸ get_size _
  have hne : ∀ p ∈ hid, p.1 ≠ I := fun p hp e => by
    have := (F₁.hid p hp).1
    rw [e, hIn] at this; cases this
  have hlI : l ≠ I := by
    obtain ⟨o, ho, _⟩ := hl₁
    rintro rfl; rw [hIn] at ho; cases ho
  have hgI : (s₁.heap.push { cls := .type "list_iterator", data := .fields #[.ref l, .int 0 0] }).get? I = some { cls := .type "list_iterator", data := .fields #[.ref l, .int 0 0] } := by rw [← hI]; exact Heap.get?_push_size _ rfl
  have F₂ := F₁.hide (keeps_mk s₁ (t := s₁.toks) (Le.push s₁.heap _)) hIn hgI
  have hlen : items.size = ss.length := by have := hp.length; simpa using this.symm
  refine for_walks (Walks.list hh I l hlI items) (fun b hb => ?_) (fun i h st => ?_) (oI := { cls := .type "list_iterator", data := .fields #[.ref l, .int 0 0] }) (F₂.drop fun p hp => ?_) hne ⟨⟨_, hgI, rfl, rfl⟩, hl₁.at fun o e => Heap.get?_push_of_some _ e⟩ J (h0 g' lg)
    (fun i v g₁ hid₁ vs₁ oi s₁ P hPn hPr hi hv hl hJ hn F => ?_) (fun g₁ hid₁ vs₁ s₁ hl hJ F => done g₁ hid₁ vs₁ s₁ (lg.trans hl) (hlen ▸ hJ) F) hk hok hfx
  · simp only [List.mem_cons, List.not_mem_nil, or_false] at hb
    rcases hb with rfl | rfl
    · exact .inl rfl
    · obtain ⟨o, ho, _⟩ := hl; exact .inr ⟨o, ho⟩
  · obtain ⟨⟨o, ho, _⟩, _⟩ := st; exact ⟨o, ho⟩
  · rcases List.mem_append.mp hp with h | h
    · exact List.mem_cons_of_mem _ h
    · rw [List.mem_singleton.mp h]; exact List.mem_cons_self
  · obtain ⟨k, hk', t, rfl⟩ := paired_get hp (by rw [Array.getElem?_toList]; exact hv)
    exact step I i k t g₁ hid₁ vs₁ oi s₁ P hPn hPr hk' (lg.trans hl) hJ hn F
end

theorem rd2 {env : Env} {scope : Scope} {cl : List (Str × Addr)} {C : Addr} {h : Heap} {m : Str → Option Value} {x y : Str} {v u : Value} (hn : h.Ns C m) (h1 : m x = some v) (h2 : m y = some u)
    (hx : scope.names.lookup x = some .local := by rfl) (hy : scope.names.lookup y = some .local := by rfl) : Rd (compEnvC scope cl C env) [(x, v), (y, u)] h := by
  have hkx : (compEnvC scope cl C env).kindOf x = some .local := lookup_relabel_local hx
  have hky : (compEnvC scope cl C env).kindOf y = some .local := lookup_relabel_local hy
  have key : ∀ {z : Str} {q : Value}, [(x, v), (y, u)].lookup z = some q → (z = x ∧ q = v) ∨ (z = y ∧ q = u) := by
    intro z q e
    rw [List.lookup_cons] at e
    cases hb : z == x with
    | true => rw [hb] at e; cases e; exact .inl ⟨by simpa using hb, rfl⟩
    | false =>
      rw [hb] at e
      rw [List.lookup_cons] at e
      cases hb2 : z == y with
      | true => rw [hb2] at e; cases e; exact .inr ⟨by simpa using hb2, rfl⟩
      | false => rw [hb2] at e; cases e
  refine ⟨⟨m, hn, fun z q e _ => ?_⟩, fun z q c e hl _ => ?_⟩
  · rcases key e with ⟨rfl, rfl⟩ | ⟨rfl, rfl⟩
    · exact h1
    · exact h2
  · rcases key e with ⟨rfl, rfl⟩ | ⟨rfl, rfl⟩
    · rw [hkx] at hl; rcases hl with hl | hl <;> cases hl
    · rw [hky] at hl; rcases hl with hl | hl <;> cases hl
end Mine

-- part: FLess
set_option maxHeartbeats 8000000
namespace Mine
open PySem PySem.W PyProof.Rows
variable {prog : Program} {w : World} {A : Around} {E : Value → Shared → Prop}

theorem len3 (a b c : Value) : [a, b, c].length ≤ sizeLine := by rw [sizeLine_eq]; simp
theorem len2 (a b : Value) : [a, b].length ≤ sizeLine := by rw [sizeLine_eq]; simp
theorem len1 (a : Value) : [a].length ≤ sizeLine := by rw [sizeLine_eq]; simp
theorem kp_rul (w : World) : keepIn (KK w) (.ref 113) = true := by rfl
theorem kp_set (w : World) : keepIn (KK w) (.ref 118) = true := by rfl
theorem rl_keys {way : Int} {Rs : List (List Int)} (hl : Rs.length = 3) : (rlOf way Rs).map (·.1) = pairsS.map (leadOf way) := by
  unfold rlOf; exact zip_keys hl
noncomputable def lettersOf (way : Int) : Str := stepS (strT "abc") way
noncomputable def partsOf (way : Int) : List Str := [Txt.slice (lettersOf way) none (some 2), Txt.slice (lettersOf way) (some 1) none, stepS (lettersOf way) 2]
theorem leads_perm {way : Int} (hw : way = 1 ∨ way = -1) : (partsOf way).Perm (pairsS.map (leadOf way)) ∧ (pairsS.map (leadOf way)).all PyData.strOk = true ∧ (∀ k ∈ pairsS.map (leadOf way), k.length ≤ 2) ∧ (lettersOf way).length ≤ 3 ∧ (stepS (lettersOf way) 2).length ≤ 3 ∧ (pairsS.map (leadOf way)).length = 3 := by
  rcases hw with rfl | rfl <;> decide +kernel
noncomputable def agsOf (way : Int) : List Str := strT "*" :: ((pairsS.map (leadOf way)).mapIdx fun i k => if i % 2 = 1 then Txt.upper k else k)

structure WordOk (way : Int) (k t : Str) : Prop where
  ex : ∃ T : List Str, T.Perm (charsOf k) ∧ sortedS (if decide (way > 0) then T.reverse else T) = true ∧ JoinOk (strT "") T = true ∧ Txt.join (strT "") T = t
  len : k.length < 64

noncomputable def diffC (SF SB : IC) : IC := foldC (fun k => k) (fun k => (getC SF k).getD 0 - (getC SB k).getD 0) ((SF.map (·.1) ++ SB.map (·.1)).filter fun k => (getC SF k).getD 0 != (getC SB k).getD 0)

theorem push_app (x : Value) (ys : Array Value) : (#[].push x ++ ys) = (x :: ys.toList).toArray := by apply Array.ext'; simp
theorem eval_lists {s : Shared} {env : Env} {vs : List (Str × Value)} {p1 p2 p3 p4 p5 p6 p7 : Pos} {a b : Addr} {SF SB : IC} {Q : Value → Shared → Prop} (B : Bs w s.heap) (hh : A.handled = none) (ha : ID prog w s.heap a SF) (hb : ID prog w s.heap b SB)
    (hn : SF.length + SB.length ≤ sizeLine) (R : Rd env vs s.heap) (vf : vs.lookup (strT "front") = some (.ref a)) (vb : vs.lookup (strT "back") = some (.ref b))
    (h : ∀ l s', Keeps s s' → s.heap.get? l = none → SL s'.heap l (SF.map (·.1) ++ SB.map (·.1)) → Q (.ref l) s')
    (hg : env.globals = mainGlobals := by rfl) (hbu : env.builtins = builtinsNs := by rfl) (hk : env.scope.kind = .function := by rfl) (hxs : env.kindOf (Str.ofString "list") = some .globalImplicit := by rfl)
    (ho : kOk env (strT "front") = true := by rfl) (ho2 : kOk env (strT "back") = true := by rfl)
    (hse : starEach [Expr.Name (strT "front") p2] env = (false, eval (Expr.Name (strT "front") p2) env) :: starEach [] env := by rfl) (hse2 : starEach [Expr.Name (strT "back") p5] env = (false, eval (Expr.Name (strT "back") p5) env) :: starEach [] env := by rfl) :
    wpAny (model prog w) A (eval (.BinOp (.Call (.Name (Str.ofString "list") p1) [.Name (strT "front") p2] [] p3) .Add (.Call (.Name (Str.ofString "list") p4) [.Name (strT "back") p5] [] p6) p7) env) Q E s := by
  refine wpAny_BinOp (wpAny_Call_NameR (B.ldB (v := .type "list") (by rfl) (by rfl) (by decide) ?_ hg hbu hk hxs))
  refine PyProof.Rows.callWith_type1 (args_cons (R.ld vf (args_nil (list_of_dict hh ha (by omega) fun D1 s₁ k1 n1 hD1 => ?_)) hk ho) hse) hse
  refine wpAny_Call_NameR ((B.le (keeps_le k1)).ldB (v := .type "list") (by rfl) (by rfl) (by decide) ?_ hg hbu hk hxs)
  refine PyProof.Rows.callWith_type1 (args_cons ((R.le (keeps_le k1)).ld vb (args_nil (list_of_dict hh (hb.le (keeps_le k1)) (by omega) fun D2 s₂ k2 n2 hD2 => ?_)) hk ho2) hse2) hse2
  refine add_sl (hD1.le (keeps_le k2)) hD2 (by simpa using hn) fun l s₃ k3 n3 hl => h l s₃ (keeps_trans k1 (keeps_trans k2 k3)) (none_of_keeps (keeps_trans k1 k2) n3) hl

theorem odd_t {i : Nat} (h : i % 2 = 1) : (((i : Int).fmod 2) != 0) = true := by
  rw [Int.fmod_eq_emod_of_nonneg _ (by decide), bne_iff_ne]; omega
theorem odd_f {i : Nat} (h : ¬ i % 2 = 1) : (((i : Int).fmod 2) != 0) = false := by
  rw [Int.fmod_eq_emod_of_nonneg _ (by decide), bne_eq_false_iff_eq]; omega
theorem less_ok {s : Shared} {aRows : Addr} {way : Int} {word top : Str} {tword tw : Tok} {Rs : List (List Int)} {cF cB : Cfg} {SF SB : IC} {Q : Value → Shared → Prop} (B : Bs w s.heap) (hA : Rm A 6) (hw : way = 1 ∨ way = -1)
    (hR : RowsAt s.heap aRows Rs) (hl : Rs.length = 3) (hg : ∀ R ∈ Rs, GoodR R)
    (hcF : OkCfg cF (agsOf way)) (hcB : OkCfg cB (agsOf way)) (hrF : cF.rl = rlOf way Rs) (hrB : cB.rl = rlOf way Rs) (hlF : cF.last = false) (hlB : cB.last = true)
    (hF : run cF 200 [] [] [(word, 1)] = some SF) (hB : run cB 200 [] [] [(word, 1)] = some SB)
    (hkeys : ∀ k ∈ SF.map (·.1) ++ SB.map (·.1), WordOk way k k) (htop : SF.filter (fun p => p.1.length == word.length) = [(top, 1)]) (hwt : WordOk way word top) (hst : PyData.strOk top = true)
    (hlen : SF.length + SB.length ≤ 10000)
    (hQ : ∀ d s', Keeps s s' → s.heap.get? d = none → ID prog w s'.heap d (diffC SF SB) → Q (.ref d) s') :
    wpAny (model prog w) A (call (.ref 123) [.str word tword, .ref aRows, .int way tw]) Q E s := by
  obtain ⟨apF, okF, rlF, laF⟩ := cF
  obtain ⟨apB', okB, rlB, laB⟩ := cB
  simp only at hrF hrB hlF hlB
  subst hrF hrB hlF hlB
  obtain ⟨hperm, hstr, hkl2, hll3, hst2, hk3⟩ := leads_perm hw
  refine enter (binds := [(Str.ofString "word", .str word tword), (Str.ofString "rows", .ref aRows), (Str.ofString "way", .int way tw)]) B hA (by rfl) (by rfl) (by rfl) (by rfl) (fun A' n Q' s₁ hD hq F => ?_)
  have B1 := B.le (keeps_le F.outer)
  -- rules
  refine stm (wpAny_Assign_Name (wpAny_Call_NameR (B1.ld (v := .ref 113) (by rfl) ?_)))
  refine callWith_K B1.K (kp_rul w) (args_cons (F.ld (by rfl) (args_cons (F.ld (by rfl) (args_nil ⟨B1.K, ?_⟩)))))
  refine rules_ok B1 hD hw (hR.le (keeps_le F.outer)) hl hg fun aR s₂ k2 hRN => ?_
  obtain ⟨g1, F2, l1, nw⟩ := F.new k2
  have hRA : RulesAt prog w g1 aR (rlOf way Rs) := hRN.at nw
  refine F2.st fun s₃ F3 => ?_
  -- letters
  refine stm (wpAny_Assign_Name (slice_st2 (k := way) (x := strT "abc") (by rw [sizeLine_eq]; exact Nat.le_trans hll3 (by decide)) (by rcases hw with rfl | rfl <;> rfl)
    (wpAny_Constant_str ⟨⟨_, rfl⟩, (F3.tok).ld (by rfl) ⟨⟨_, rfl⟩, fun t' s₄ k4 => ?_⟩⟩)))
  have F4 := F3.keeps (keeps_trans (keeps_tok s₃ _) k4)
  refine F4.st fun s₅ F5 => ?_
  have B5 := B.le (keeps_le F5.outer)
  -- the test of the leads
  obtain ⟨hRs, kvs, hRd, hRp⟩ := id (hRA.le F5.keep)
  have hks : kvs.map (·.1) = pairsS.map (leadOf way) := by rw [← rl_keys hl]; exact paired_keys hRp fun _ _ h => h.1
  have hk3' : kvs.length = 3 := by rw [← hk3, ← hks, List.length_map]
  refine stm (wpAny_If (wpAny_isTrue_Compare1 (wpAny_Call_NameR (B5.ldB (v := .builtin "sorted") (by rfl) (by rfl) (by decide) ?_))))
  refine PyProof.Rows.callWith_builtin1 (args_cons (F5.ld (by rfl) (args_nil (sorted_plain (ss := kvs.map (·.1)) (fun R' hR' => col_dict hD.hh hRd hRs (by rw [hk3']; size_fits) R' hR') (by rw [List.length_map, hk3']; decide)
    fun D1 s₆ it1 ss1 k6 n6 hl1 hS1 hp1 hs1 => ?_))))
  have F6 := F5.keeps k6
  have B6 := B.le (keeps_le F6.outer)
  have hz5 : (lettersOf way).length ≤ sizeLine := le_line (Nat.le_trans hll3 (by decide))
  refine wpAny_Call_NameR (B6.ldB (v := .builtin "sorted") (by rfl) (by rfl) (by decide) ?_)
  refine PyProof.Rows.callWith_builtin1 (args_cons (PyProof.Rows.List_ (args_cons (slice_ok' (l := none) (u := some 2) (x := lettersOf way) hz5 (fun Q' q => F6.ld (by rfl) (q _ (keeps_refl _)))
    (fun Q' s₁ k₁ q => wpAny_evalPart_none (q _ _ k₁ rfl)) (fun Q' s₁ k₁ q => wpAny_evalPart_some (wpAny_Constant_int (q _ _ (keeps_trans k₁ (keeps_tok _ _)) ⟨_, rfl⟩))) fun t1 s₇ k7 => ?_))))
  have F7 := F6.keeps k7
  refine args_cons (slice_ok' (l := some 1) (u := none) (x := lettersOf way) hz5 (fun Q' q => F7.ld (by rfl) (q _ (keeps_refl _)))
    (fun Q' s₁ k₁ q => wpAny_evalPart_some (wpAny_Constant_int (q _ _ (keeps_trans k₁ (keeps_tok _ _)) ⟨_, rfl⟩))) (fun Q' s₁ k₁ q => wpAny_evalPart_none (q _ _ k₁ rfl)) fun t2 s₈ k8 => ?_)
  have F8 := F7.keeps k8
  refine args_cons (slice_st2 (k := 2) (x := lettersOf way) (le_line (Nat.le_trans hst2 (by decide))) (by rfl) (F8.ld (by rfl) ⟨⟨_, rfl⟩, wpAny_Constant_int ⟨⟨_, rfl⟩, fun t3 s₉ k9 => ?_⟩⟩))
  have k9 := keeps_trans (keeps_tok s₈ _) k9
  have F9 := F8.keeps k9
  refine args_nil (new_lst (len3 _ _ _) fun lP s₁₀ k10 n10 hlP => args_nil ?_)
  refine sorted_list (ss := partsOf way) hlP (.cons _ _ (.cons _ _ (.cons _ _ .nil))) (by show 3 < 64; decide) fun D2 s₁₁ it2 ss2 k11 n11 hl2 hS2 hp2 hs2 => ?_
  have k11 := keeps_trans k10 k11
  have F11 := F9.keeps k11
  have hss : ss2 = ss1 := sorted_uniq hs2 hs1 ((hp2.trans (hks ▸ hperm)).trans hp1.symm)
  subst hss
  refine ne_strs_eq (ss := ss2) (hl1.at fun o e => keeps_le k11 _ _ (keeps_le k9 _ _ (keeps_le k8 _ _ (keeps_le k7 _ _ e)))) hS1 hl2 hS2 (List.all_eq_true.mpr fun x hx => ?_) hD.u64 (wpAny_truthy_bool (ite_f (wpAny_execs_nil ?_)))
  · exact List.all_eq_true.mp hstr x (by rw [← hks]; exact hp1.subset hx)
  -- the book
  have B11 := B.le (keeps_le F11.outer)
  refine stm (wpAny_Assign_Name (wpAny_Call_NameR (B11.ld (v := .ref 59) (by rfl) ?_)))
  refine callWith_K0 B11.K (kp_en w) (ent_make B11 (hD.less (by decide)) fun x dx l es n s₁₂ k12 nx ndx nl hlx hldx hI ho hg1 hg2 => ?_)
  obtain ⟨g2, F12, l2, nw2⟩ := (F11.hide k12 nl ho).grow
  obtain ⟨ax1, ax2, _⟩ := F11.apartFrom nx
  obtain ⟨ad1, ad2, _⟩ := F11.apartFrom ndx
  have hIg : Ins g2 59 x dx es n := ⟨nw2 _ _ hI.x ax1 ax2 (fun p hp => by rw [List.mem_singleton.mp hp]; exact Ne.symm hlx), nw2 _ _ hI.d ad1 ad2 (fun p hp => by rw [List.mem_singleton.mp hp]; exact Ne.symm hldx)⟩
  refine F12.st fun s₁₃ F13 => ?_
  have ho13 : s₁₃.heap.get? l = some (LO #[] 0) := F13.hidAt List.mem_cons_self
  -- append
  obtain ⟨m13, fr13⟩ := F13.fr
  refine stm (wpAny_Expr_any (MethodCall_ (Attribute_Name_ (F13.ld (by rfl) (get_own fr13 B.K (hIg.le F13.keep).inst (pg_ua w) (hd_E w) (fi_ua w) (by rfl) hg1 (by rfl) ?_)))))
  refine gm_append ho13 (callWith_method1 (args_cons (wpAny_Constant_str (args_nil ?_))))
  refine append_hid (items := #[]) (n := 0) ((F13.tok).drop fun p hp => hp) (fun p hp => nomatch hp) (by decide) fun n14 s₁₄ F14 => ?_
  have ho14 := F14.hidAt List.mem_cons_self
  have B14 := B.le (keeps_le F14.outer)
  -- extend
  obtain ⟨m14, fr14⟩ := F14.fr
  refine stm (wpAny_Expr_any (MethodCall_ (Attribute_Name_ (F14.ld (by rfl) (get_own fr14 B.K (hIg.le F14.keep).inst (pg_ua w) (hd_E w) (fi_ua w) (by rfl) hg1 (by rfl) ?_)))))
  have F14' := F14.tok (t := s₁₄.toks + 1)
  have B14' : Bs w ({ s₁₄ with toks := s₁₄.toks + 1 } : Shared).heap := B14
  obtain ⟨hRs', kvs', hRd', hRp'⟩ := id ((hRA.le l2).le F14.keep)
  have hks' : kvs'.map (·.1) = pairsS.map (leadOf way) := by rw [← rl_keys hl]; exact paired_keys hRp' fun _ _ h => h.1
  have hk3'' : kvs'.length = 3 := by rw [← hk3, ← hks', List.length_map]
  refine gm_extend ho14 (callWith_method1 (args_cons (lc2 hD.hh (fun i y => ∃ k t, (kvs'.map (·.1))[i]? = some k ∧ y = .str (if i % 2 = 1 then Txt.upper k else k) t) kvs'.length (by rw [hk3'']; decide)
    (fun i v₁ v₂ => ∃ t k x u, kvs'[i]? = some (k, x) ∧ v₁ = .int (i : Int) t ∧ v₂ = .str k u) (by rfl) ?_ ?_ ?_)))
  · refine wpAny_Call_NameR (B14'.ldB (v := .type "enumerate") (by rfl) (by rfl) (by decide) ?_)
    exact PyProof.Rows.callWith_type1 (args_cons (F14'.ld (by rfl) (args_nil (it_enum hD.hh hRd' hRs'))))
  · rintro i v₁ v₂ C s₃ m₃ E' ⟨t, k, x, u, hkv, rfl, rfl⟩ kk hn hm1 hm2
    have hk : (kvs'.map (·.1))[i]? = some k := by rw [List.getElem?_map, hkv]; rfl
    have hkl : k.length ≤ 2 := hkl2 k (by rw [← hks']; exact List.mem_of_getElem? hk)
    have R : ∀ (sc : Scope) (cl : List (Str × Addr)) (env : Env), sc.names.lookup (strT "k") = some .local → sc.names.lookup (strT "lead") = some .local → Rd (compEnvC sc cl C env) [(strT "k", .int (i : Int) t), (strT "lead", .str k u)] s₃.heap := fun sc cl env h1 h2 => rd2 hn hm1 hm2 h1 h2
    refine wpAny_IfExp (wpAny_isTrue_value (wpAny_BinOp (Rd.ld (R _ _ _ (by rfl) (by rfl)) (by rfl) (wpAny_Constant_int (PyProof.Rows.mod_int (by decide) (PyProof.Rows.truthy_int ?_))))))
    by_cases hi : i % 2 = 1
    · have e := odd_t hi
      rw [e]
      refine ite_t ?_
      refine MethodCall_ (Rd.ld' (R _ _ _ (by rfl) (by rfl)) (by rfl) (GM.upper (callWith_method0 (SCL.upper (Nat.le_trans hkl (by decide)) fun _ => ⟨⟨k, _, hk, by rw [if_pos hi]⟩, keeps_tok _ _⟩))))
    · have e := odd_f hi
      rw [e]
      refine ite_f ?_
      exact Rd.ld' (R _ _ _ (by rfl) (by rfl)) (by rfl) ⟨⟨k, u, hk, by rw [if_neg hi]⟩, keeps_tok _ _⟩
  intro aL s₁₅ ysL k15 n15 hlL hIt
  have F15 := F14'.keeps k15
  refine args_nil (extend_hid F15 (fun p hp => nomatch hp) hlL (by rw [hIt.1, hk3'', Array.size_push]; decide) fun n16 s₁₆ F16 => ?_)
  -- the book is frozen
  have hL16 := F16.hid _ List.mem_cons_self
  obtain ⟨g3, F17, l3, nw3⟩ := (F16.drop (hid' := []) fun p hp => nomatch hp).grow
  have hLg := nw3 l _ hL16.1 hL16.2.2.1 hL16.2.2.2 (fun p hp => nomatch hp)
  have hWd : Wd g3 l (agsOf way) := by
    refine ⟨(.str (strT "*") (s₁₃.toks + 1)) :: ysL.toList, ⟨_, hLg, rfl, n16, by rw [← push_app]; rfl⟩, .cons _ _ (paired_strs (paired_of_get (by simp [hIt.1, hk3'', hk3]) fun i v hv => ?_))⟩
    obtain ⟨k, u, hk, rfl⟩ := hIt.2 i v (by rw [← Array.getElem?_toList]; exact hv)
    refine ⟨if i % 2 = 1 then Txt.upper k else k, ?_, u, rfl⟩
    rw [List.getElem?_mapIdx, ← hks', hk]; rfl
  have hBk : BookAt g3 x l := ⟨⟨_, es, n, (hIg.le l3).inst, hg1, hg2⟩⟩
  have hRA3 : RulesAt prog w g3 aR (rlOf way Rs) := (hRA.le l2).le l3
  -- front
  have B17 := B.le (keeps_le F17.outer)
  refine stm (wpAny_Assign_Name (wpAny_Call_NameR (B17.ld (v := .ref 118) (by rfl) ?_)))
  refine callWith_K B17.K (kp_set w) (args_cons (F17.ld (by rfl) (args_cons (F17.ld (by rfl) (args_cons (F17.ld (by rfl) (args_cons (wpAny_Constant_bool (args_nil ⟨B17.K, ?_⟩)))))))))
  refine settled_ok (c := ⟨apF, okF, rlOf way Rs, false⟩) B17 hD hcF (hRA3.le F17.keep) (hBk.le F17.keep) (hWd.le F17.keep) hF fun aSF s₁₈ k18 n18 hSF => ?_
  obtain ⟨g4, F18, l4, nw4⟩ := F17.new k18
  have hSF := id_new hSF n18 nw4
  refine F18.st fun s₁₉ F19 => ?_
  have B19 := B.le (keeps_le F19.outer)
  have l34 := l4
  refine stm (wpAny_Assign_Name (wpAny_Call_NameR (B19.ld (v := .ref 118) (by rfl) ?_)))
  refine callWith_K B19.K (kp_set w) (args_cons (F19.ld (by rfl) (args_cons (F19.ld (by rfl) (args_cons (F19.ld (by rfl) (args_cons (wpAny_Constant_bool (args_nil ⟨B19.K, ?_⟩)))))))))
  refine settled_ok (c := ⟨apB', okB, rlOf way Rs, true⟩) B19 hD hcB ((hRA3.le l4).le F19.keep) ((hBk.le l4).le F19.keep) ((hWd.le l4).le F19.keep) hB fun aSB s₂₀ k20 n20 hSB => ?_
  obtain ⟨g5, F20, l5, nw5⟩ := F19.new k20
  have hSB := id_new hSB n20 nw5
  have hSF := hSF.le l5
  refine F20.st fun s₂₁ F21 => ?_
  -- neither is none
  refine stm (wpAny_If (wpAny_isTrue_BoolOp (wpAny_allTrue_Or_cons (wpAny_isTrue_Compare1 (F21.ld (by rfl) (wpAny_Constant_none (is_ref_none (wpAny_truthy_bool (ite_f ?_)))))))))
  refine wpAny_allTrue_Or_cons (wpAny_isTrue_Compare1 (F21.ld (by rfl) (wpAny_Constant_none (is_ref_none (wpAny_truthy_bool (ite_f ?_))))))
  refine wpAny_allTrue_Or_nil (ite_f (wpAny_execs_nil ?_))
  -- every word is in order
  have hnFB : SF.length + SB.length ≤ sizeLine := le_line (Nat.le_trans hlen (by decide))
  have hnF : SF.length ≤ sizeLine := Nat.le_trans (Nat.le_add_right _ _) hnFB
  refine stm (for_sl (ss := SF.map (·.1) ++ SB.map (·.1)) hD.hh F21 (fun Q' q => eval_lists (B.le (keeps_le F21.outer)) hD.hh (hSF.le F21.keep) (hSB.le F21.keep) hnFB F21.rd (by rfl) (by rfl) q)
    (fun i g hid vs => hid = [] ∧ vs.lookup (strT "word") = some (.str word tword) ∧ vs.lookup (strT "way") = some (.int way tw) ∧ vs.lookup (strT "front") = some (.ref aSF) ∧ vs.lookup (strT "back") = some (.ref aSB))
    (fun g' _ => ⟨rfl, by rfl, by rfl, by rfl, by rfl⟩) ?_ ?_)
  · rintro I i k t g₁ hid₁ vs₁ oi s₂₂ Pi hPi _ hk hl1 ⟨rfl, vw, vy, vf, vb⟩ hne F22
    obtain ⟨T, hT1, hT2, hT3, hT4⟩ := (hkeys k (List.mem_of_getElem? hk)).ex
    have B22 := B.le (keeps_le F22.outer)
    refine stm (wpAny_If (wpAny_isTrue_Compare1 (MethodCall_ (wpAny_Constant_str (PySem.GM.join (callWith_method1 (args_cons ?_)))))))
    have F22' := F22.tok (t := s₂₂.toks + 1)
    refine eval_sorted (x := k) (way := way) (tx := t) (tw := tw) (T := T) (vs := (strT "some", .str k t) :: vs₁) (B.le (keeps_le F22'.outer)) hD.hh F22'.rd (by exact vy) (hkeys k (List.mem_of_getElem? hk)).len (fun Q' q => F22'.ld (by rfl) q) hT1 hT2 fun DD s₂₃ its k23 hlD hSD => args_nil ?_
    have F23 := F22'.keeps k23
    refine join_ok hlD hSD hT3 fun t' tk => ?_
    have F24 := F23.tok (t := tk)
    refine F24.ld (by rfl) (ne_strB (wpAny_truthy_bool ?_))
    have hT4' : Txt.join (Str.ofString "") T = k := hT4
    exact ite_b (fun e => absurd hT4' (bne_iff_ne.mp e)) (fun _ => wpAny_execs_nil (wpAny_execs_nil (hPi g₁ [] _ _ (Le.refl _) ⟨rfl, by exact vw, by exact vy, by exact vf, by exact vb⟩ hne F24)))
  rintro g₁ hid₁ vs₁ s₂₂ hl1 ⟨rfl, vw, vy, vf, vb⟩ F22
  -- the longest of them
  have B22 := B.le (keeps_le F22.outer)
  have hSF22 := (hSF.le hl1).le F22.keep
  have hSB22 := (hSB.le hl1).le F22.keep
  have hz : ∀ a ∈ SF.map (·.1), ¬ (a.length : Int) ≥ 2 ^ 63 := fun a ha => short63 (Nat.le_trans (Nat.le_of_lt (hkeys a (List.mem_append_left _ ha)).len) (by decide))
  have hzw : ¬ (word.length : Int) ≥ 2 ^ 63 := short63 (Nat.le_trans (Nat.le_of_lt hwt.len) (by decide))
  refine stm (wpAny_If (wpAny_isTrue_Compare1 (lcL (SF.map (·.1)) (fun k v => ∃ t, v = .str k t) (fun k => k.length == word.length) (fun g k y => ∃ a t u, y = .ref a ∧ g.IsTuple a #[.str k t, .int ((getC SF k).getD 0) u])
    [(strT "front", .ref aSF), (strT "word", .str word tword)] F22.rd (by rfl) (.cons (by exact vf) (by rfl) (by rfl) (by rfl) (.cons (by exact vw) (by rfl) (by rfl) (by rfl) .nil))
    (F22.ld (by exact vf) (src_id hD.hh (keeps_refl _) hSF22 hnF)) ?_ ?_ ?_)))
  · rintro a ha C v s₃ E' ⟨t, rfl⟩ k R
    refine wpAny_tests_one (wpAny_isTrue_Compare1 (wpAny_Call_NameR ((B22.le k).ldB (v := .builtin "len") (by rfl) (by rfl) (by decide) (PyProof.Rows.callWith_builtin1 (args_cons (R.ld (by rfl) (args_nil (PyProof.Rows.len_str (hz a ha) ?_))))))))
    have B3 : Bs w ({ s₃ with toks := s₃.toks + 1 + 1 } : Shared).heap := B22.le k
    refine wpAny_Call_NameR (B3.ldB (v := .builtin "len") (by rfl) (by rfl) (by decide) ?_)
    refine PyProof.Rows.callWith_builtin1 (args_cons (R.ld' (by rfl) (args_nil (PyProof.Rows.len_str hzw ?_))))
    refine PyProof.Rows.eq_int (wpAny_truthy_bool ⟨beq_cast _ _, keeps_tok _ _⟩)
  · rintro a ha _ C v s₃ E' ⟨t, rfl⟩ k R
    refine PyProof.Rows.Tuple_ (args_cons (R.ld (by rfl) (args_cons (Subscript_ (R.ld (by rfl) (R.ld (by rfl) (sub_id (hSF22.le k) (getC_key ha) fun u s₄ k₄ => args_nil (new_tup (len2 _ _) fun aT s₅ k₅ n₅ hT => ?_))))))))
    exact ⟨keeps_trans k₄ k₅, fun g hg => ⟨aT, t, u, rfl, tuple_mv hT fun o e => hg _ _ (none_of_keeps k₄ n₅) e⟩⟩
  intro D s₂₃ ys k23 n23 hlD hFr
  have F23 := F22.keeps k23
  refine PyProof.Rows.List_ (args_cons (PyProof.Rows.Tuple_ (args_cons (MethodCall_ (wpAny_Constant_str (PySem.GM.join (callWith_method1 (args_cons ?_)))))))) 
  obtain ⟨T, hT1, hT2, hT3, hT4⟩ := hwt.ex
  have F23' := F23.tok (t := s₂₃.toks + 1)
  refine eval_sorted (x := word) (way := way) (tx := tword) (tw := tw) (T := T) (vs := vs₁) (B.le (keeps_le F23'.outer)) hD.hh F23'.rd (by exact vy) hwt.len (fun Q' q => F23'.ld (by exact vw) q) hT1 hT2 fun DD s₂₄ its k24 hlD2 hSD => args_nil ?_
  refine join_ok hlD2 hSD hT3 fun t' tk => args_cons (wpAny_Constant_int (args_nil (new_tup (len2 _ _) fun aT s₂₅ k25 n25 hT => args_nil (new_lst (len1 _) fun lR s₂₆ k26 n26 hlR => ?_))))
  have kk : Keeps s₂₃ s₂₆ := keeps_trans (keeps_tok s₂₃ _) (keeps_trans k24 (keeps_trans (keeps_tok s₂₄ _) (keeps_trans k25 k26)))
  have hP := hFr s₂₆.heap fun b o _ e => keeps_le kk _ _ e
  have hft : (SF.map (·.1)).filter (fun k => k.length == word.length) = [top] := by
    have := congrArg (List.map (·.1)) htop
    rw [List.filter_map]; exact this
  rw [hft] at hP
  have hg1 : (getC SF top).getD 0 = 1 := by
    have : (top, (1 : Int)) ∈ SF := by
      have : (top, (1 : Int)) ∈ SF.filter (fun p => p.1.length == word.length) := by rw [htop]; exact List.mem_singleton_self _
      exact (List.mem_filter.mp this).1
    rw [getC_of_mem hSF22.nodup this]; rfl
  obtain ⟨p, tp, up, hys, hTp⟩ : ∃ p t u, ys = #[.ref p] ∧ s₂₆.heap.IsTuple p #[.str top t, .int 1 u] := by
    cases hy : ys.toList with
    | nil => rw [hy] at hP; cases hP
    | cons y r =>
      rw [hy] at hP
      cases hP with
      | cons h hr =>
        cases hr
        obtain ⟨a, t, u, rfl, hT⟩ := h
        rw [hg1] at hT
        exact ⟨a, t, u, Array.toList_inj.mp (by rw [hy]), hT⟩
  subst hys
  have hT4' : Txt.join (Str.ofString "") T = top := hT4
  rw [hT4'] at hT
  refine ne_pair_eq (hlD.at fun o e => keeps_le kk _ _ e) hTp hlR (tuple_mv hT fun o e => keeps_le k26 _ _ e) hst hD.u64 (wpAny_truthy_bool (ite_f (wpAny_execs_nil ?_)))
  -- the difference
  have F26 := F23.keeps kk
  have B26 := B.le (keeps_le F26.outer)
  have hSF26 := (hSF.le hl1).le F26.keep
  have hSB26 := (hSB.le hl1).le F26.keep
  refine stm (wpAny_Return_some (dc B26 (SF.map (·.1) ++ SB.map (·.1)) (fun k v => ∃ t, v = .str k t) (fun k => (getC SF k).getD 0 != (getC SB k).getD 0) (fun k => k) (fun k => (getC SF k).getD 0 - (getC SB k).getD 0)
    [(strT "back", .ref aSB), (strT "front", .ref aSF)] F26.rd (keys_inj _) (by rfl) (.cons (by exact vb) (by rfl) (by rfl) (by rfl) (.cons (by exact vf) (by rfl) (by rfl) (by rfl) .nil))
    (eval_lists B26 hD.hh hSF26 hSB26 hnFB F26.rd (by exact vf) (by exact vb) (fun l s' k n hSL => ?_)) ?_ ?_ ?_ ?_))
  · obtain ⟨items, hli, hpi⟩ := hSL
    exact src_list hD.hh k hli hpi (by rw [← Array.length_toList, ← hpi.length, List.length_append, List.length_map, List.length_map]; exact hnFB)
  · rintro a ha C v s₃ E' ⟨t, rfl⟩ k R
    refine wpAny_tests_one (wpAny_isTrue_Compare1 (MethodCall_ (R.ld (by rfl) (gm_get (hSF26.le k) (callWith_method1 (args_cons (R.ld (by rfl) (args_cons (wpAny_Constant_int (args_nil (get_id (hSF26.le k) fun t1 s₄ k₄ => ?_)))))))))))
    have k₄ := keeps_trans (keeps_tok s₃ _) k₄
    have R4 := R.le (keeps_le k₄)
    have hb4 := (hSB26.le k).le (keeps_le k₄)
    refine MethodCall_ (R4.ld (by rfl) (gm_get hb4 (callWith_method1 (args_cons (R4.ld (by rfl) (args_cons (wpAny_Constant_int (args_nil (get_id hb4 fun t2 s₅ k₅ => ?_)))))))))
    exact PyProof.Rows.ne_int (wpAny_truthy_bool ⟨rfl, keeps_trans k₄ (keeps_trans (keeps_tok s₄ _) k₅)⟩)
  · rintro a ha _ C v s₃ E' ⟨t, rfl⟩ k R
    exact R.ld (by rfl) ⟨⟨t, rfl⟩, keeps_refl _⟩
  · rintro a ha _ C v s₃ E' ⟨t, rfl⟩ k R
    refine wpAny_BinOp (MethodCall_ (R.ld (by rfl) (gm_get (hSF26.le k) (callWith_method1 (args_cons (R.ld (by rfl) (args_cons (wpAny_Constant_int (args_nil (get_id (hSF26.le k) fun t1 s₄ k₄ => ?_))))))))))
    have k₄ := keeps_trans (keeps_tok s₃ _) k₄
    have R4 := R.le (keeps_le k₄)
    have hb4 := (hSB26.le k).le (keeps_le k₄)
    refine MethodCall_ (R4.ld (by rfl) (gm_get hb4 (callWith_method1 (args_cons (R4.ld (by rfl) (args_cons (wpAny_Constant_int (args_nil (get_id hb4 fun t2 s₅ k₅ => ?_)))))))))
    exact PyProof.Rows.sub_int ⟨⟨_, rfl⟩, keeps_trans k₄ (keeps_trans (keeps_tok s₄ _) (keeps_trans k₅ (keeps_tok _ _)))⟩
  intro Dd s₂₇ k27 n27 hID
  exact hq _ _ (hQ Dd s₂₇ (keeps_trans F26.outer k27) (none_of_keeps F26.outer n27) hID)
end Mine

-- part: FRow
set_option maxHeartbeats 4000000
namespace Mine
open PySem PySem.W PyProof.Rows
variable {prog : Program} {w : World} {A : Around} {E : Value → Shared → Prop}

/-- a slice without a step, whatever the base -/
theorem sub_slice0 {s : Shared} {env : Env} {value : Expr} {lower upper : Option Expr} {p pos : Pos} {T id : String} {Q : Value → Shared → Prop}
    (hl : typeLookup (.type T) "__getitem__" = pure (some (.builtin id)))
    (h : wpAny (model prog w) A (eval value env) (fun o s₁ => wpAny (model prog w) A (eval (.Slice lower upper none p) env) (fun i s₂ => s₂.TypeIs o T ∧ wpAny (model prog w) A (getItem o i) Q E s₂) E s₁) E s) :
    wpAny (model prog w) A (eval (.Subscript value (.Slice lower upper none p) pos) env) Q E s := by
  rw [eval_Subscript]
  refine wpAny_bind (wpAny_mono h (fun o s₁ h₁ => wpAny_bind (wpAny_holding (wpAny_mono h₁ (fun i s₂ h₂ => wpAny_bind (wpAny_standAt ?_)) fun _ _ x => x)))
    fun _ _ x => x)
  have fin : wpAny (model prog w) A (operate [i, o] (getItem o i)) (fun r s₃ => wpAny (model prog w) A (letTemporaryGo value o r >>= fun _ => pure r) Q E s₃) E s₂ :=
    wpAny_operating (wpAny_mono h₂.2 (fun r s₃ h₃ => wpAny_bind (wpAny_letTemporaryGo (wpAny_pure h₃))) fun _ _ x => x)
  first
    | (refine wpAny_bind ?_
       rw [getitemInPython_of_ne h₂.1.not_modules]
       refine wpAny_bind (wpAny_specialOf h₂.1 hl ?_)
       first
         | exact wpAny_pure (wpAny_bind fin)
         | exact wpAny_bind (wpAny_pure (wpAny_bind fin))
         | exact wpAny_bind fin)
    | (refine wpAny_bind (wpAny_specialOf h₂.1 hl ?_)
       first
         | exact wpAny_bind (wpAny_pure (wpAny_bind fin))
         | exact wpAny_bind fin)

theorem slice_l {s : Shared} {env : Env} {value : Expr} {lower upper : Option Expr} {p pos : Pos} {l : Addr} {items : Array Value} {lo hi : Option Int} {Q : Value → Shared → Prop} (hl : s.heap.IsList l items) (hsz : items.size ≤ 1000)
    (hv : ∀ Q', (∀ s', Keeps s s' → Q' (.ref l) s') → wpAny (model prog w) A (eval value env) Q' E s)
    (hlo : ∀ Q' s₁, Keeps s s₁ → (∀ v s', Keeps s s' → IsPart v lo → Q' v s') → wpAny (model prog w) A (evalPart lower env) Q' E s₁)
    (hhi : ∀ Q' s₁, Keeps s s₁ → (∀ v s', Keeps s s' → IsPart v hi → Q' v s') → wpAny (model prog w) A (evalPart upper env) Q' E s₁)
    (h : ∀ D s', Keeps s s' → s.heap.get? D = none → s'.heap.IsList D (slicePick items lo hi none) → Q (.ref D) s') :
    wpAny (model prog w) A (eval (.Subscript value (.Slice lower upper none p) pos) env) Q E s := by
  refine sub_slice0 (T := "list") list_getitem_lookup (hv _ fun s₁ k₁ => wpAny_Slice (hlo _ s₁ k₁ fun v₁ s₂ k₂ p₂ => hhi _ s₂ k₂ fun v₂ s₃ k₃ p₃ => wpAny_pure ⟨((hl.at fun o e => keeps_le k₃ _ _ e).push _).typeIs,
    wpAny_getItem_list_slice ((hl.at fun o e => keeps_le k₃ _ _ e).push _) (Heap.IsSliceOf.new ..) p₂ p₃ .none (by simp) ?_ (by rw [sizeLine_eq]; omega)⟩))
  exact h _ _ (keeps_trans k₃ (keeps_mk s₃ (t := s₃.toks) ((Le.push _ _).trans (Le.push _ _)))) (none_of_keeps k₃ (get_ge _ (by show _ ≤ (s₃.heap.push _).objs.size; rw [Heap.size_push]; exact Nat.le_succ _))) ⟨_, Heap.get?_push_size _ rfl, rfl, _, rfl⟩

theorem slice_l3 {s : Shared} {env : Env} {value st : Expr} {lower upper : Option Expr} {p pos : Pos} {l : Addr} {items : Array Value} {lo hi : Option Int} {k : Int} {Q : Value → Shared → Prop} (hl : s.heap.IsList l items) (hsz : items.size ≤ 1000) (hk : k ≠ 0)
    (hv : ∀ Q', (∀ s', Keeps s s' → Q' (.ref l) s') → wpAny (model prog w) A (eval value env) Q' E s)
    (hlo : ∀ Q' s₁, Keeps s s₁ → (∀ v s', Keeps s s' → IsPart v lo → Q' v s') → wpAny (model prog w) A (evalPart lower env) Q' E s₁)
    (hhi : ∀ Q' s₁, Keeps s s₁ → (∀ v s', Keeps s s' → IsPart v hi → Q' v s') → wpAny (model prog w) A (evalPart upper env) Q' E s₁)
    (hst : ∀ Q' s₁, Keeps s s₁ → (∀ v s', Keeps s s' → IsPart v (some k) → Q' v s') → wpAny (model prog w) A (eval st env) Q' E s₁)
    (h : ∀ D s', Keeps s s' → s.heap.get? D = none → s'.heap.IsList D (slicePick items lo hi (some k)) → Q (.ref D) s') :
    wpAny (model prog w) A (eval (.Subscript value (.Slice lower upper (some st) p) pos) env) Q E s := by
  refine sub_slice (T := "list") list_getitem_lookup (hv _ fun s₁ k₁ => wpAny_Slice (hlo _ s₁ k₁ fun v₁ s₂ k₂ p₂ => hhi _ s₂ k₂ fun v₂ s₃ k₃ p₃ => wpAny_evalPart_some (hst _ s₃ k₃ fun v₃ s₄ k₄ p₄ => ⟨((hl.at fun o e => keeps_le k₄ _ _ e).push _).typeIs,
    wpAny_getItem_list_slice ((hl.at fun o e => keeps_le k₄ _ _ e).push _) (Heap.IsSliceOf.new ..) p₂ p₃ p₄ (by simpa using hk) ?_ (by rw [sizeLine_eq]; omega)⟩)))
  exact h _ _ (keeps_trans k₄ (keeps_mk s₄ (t := s₄.toks) ((Le.push _ _).trans (Le.push _ _)))) (none_of_keeps k₄ (get_ge _ (by show _ ≤ (s₄.heap.push _).objs.size; rw [Heap.size_push]; exact Nat.le_succ _))) ⟨_, Heap.get?_push_size _ rfl, rfl, _, rfl⟩

theorem sum_l {s : Shared} {l : Addr} {items : Array Value} {ns : List Int} {Q : Value → Shared → Prop} (hh : A.handled = none) (hl : s.heap.IsList l items) (hi : IntsAre items.toList ns)
    (h : ∀ t s', Keeps s s' → Q (.int ns.sum t) s') : wpAny (model prog w) A (call (.builtin "sum") [.ref l]) Q E s := by
  obtain ⟨xs, e⟩ := hi.allInts.items
  have e : items = intItems xs := by simpa using e
  subst e
  refine sum_intListG hh hl fun h' tk t' hk => ?_
  have := h t' { s with heap := h', toks := tk } (keeps_mk s hk)
  rw [preSum_eq, List.take_of_length_le (by simp)]
  have e2 : ns = xs.toList.map (·.1) := by rw [← hi.numsOf, ← nums_intItems]
  rw [← e2]; exact this
end Mine

-- part: FRow2
set_option maxHeartbeats 1000000
namespace Mine
open PySem PySem.W PyProof.Rows
variable {prog : Program} {w : World} {A : Around} {E : Value → Shared → Prop}

theorem sub_il2 {s : Shared} {value slice : Expr} {r : Addr} {R : List Int} {j : Nat} {tk : Tok} {Q : Value → Shared → Prop} (x : IL s.heap r R) (hj : j < R.length) (hj4 : j ≤ 1000)
    (h : ∀ t, Q (.int (R.getD j 0) t) s) (hs : subscripted slice false (.ref r) (.int (j : Int) tk) = operate [.ref r, .int (j : Int) tk] (getItem (.ref r) (.int (j : Int) tk)) := by with_unfolding_all rfl) :
    wpAny (model prog w) A (subscriptTail value slice (.ref r) (.int (j : Int) tk)) Q E s := by
  obtain ⟨items, t, hl, hi⟩ := il_at x hj
  have h0 : (0 : Int) ≤ (j : Int) := Int.natCast_nonneg j
  have h63 : (j : Int) < 2 ^ 63 := Int.lt_of_le_of_lt (Int.ofNat_le.mpr hj4) (by decide)
  exact tail_any hl.typeIs slot_list_getitem.lookup (wpAny_getItem_list hl h0 h63 (x := .int (R.getD j 0) t) (by simpa using hi) (h t)) hs

theorem paired_take {α β : Type} {F : α → β → Prop} {xs : List α} {ys : List β} (n : Nat) (h : Paired F xs ys) : Paired F (xs.take n) (ys.take n) := by
  induction h generalizing n with
  | nil => rw [List.take_nil, List.take_nil]; exact .nil
  | cons h _ ih =>
    cases n with
    | zero => exact .nil
    | succ n => exact .cons h (ih n)
theorem paired_drop {α β : Type} {F : α → β → Prop} {xs : List α} {ys : List β} (n : Nat) (h : Paired F xs ys) : Paired F (xs.drop n) (ys.drop n) := by
  induction h generalizing n with
  | nil => rw [List.drop_nil, List.drop_nil]; exact .nil
  | cons h t ih =>
    cases n with
    | zero => exact .cons h t
    | succ n => exact ih n
theorem paired_choose {α : Type} {P : Int → Prop} {xs : List α} {vs : List Value} (h : Paired (fun (_ : α) v => ∃ i t, v = .int i t ∧ P i) xs vs) :
    ∃ cs : List Int, Paired (fun i v => ∃ t, v = .int i t) cs vs ∧ cs.length = xs.length ∧ ∀ c ∈ cs, P c := by
  induction h with
  | nil => exact ⟨[], .nil, rfl, fun _ h => nomatch h⟩
  | cons h _ ih =>
    obtain ⟨i, u, rfl, hp⟩ := h
    obtain ⟨cs, h1, h2, h3⟩ := ih
    exact ⟨i :: cs, .cons ⟨u, rfl⟩ h1, congrArg (· + 1) h2, List.forall_mem_cons.mpr ⟨hp, h3⟩⟩
theorem spl_ints {M : Model} {env : Env} {pos : Pos} : ∀ (l : List (Int × Nat × Pos)) {s : Shared} {Q : List Value → Shared → Prop},
    (∀ vs tk, Paired (fun (i : Int) v => ∃ t, v = Value.int i t) (l.map (·.1)) vs → Q vs { s with toks := tk }) → wpAny M A (spliced (backTo pos (starEach (l.map fun p => Expr.Constant (.int p.1) p.2.1 p.2.2) env))) Q E s
  | [], s, Q, h => args_nil (h [] s.toks .nil)
  | p :: r, s, Q, h => args_cons (wpAny_Constant_int (spl_ints r fun vs tk hv => h _ tk (.cons ⟨_, rfl⟩ hv)))
theorem trit_of (x : Int) : Trit (x.fmod 3 - 1) := by
  rw [Int.fmod_eq_emod_of_nonneg _ (by decide)]
  unfold Trit
  omega

theorem list_at {g h : Heap} {l : Addr} {items : Array Value} {h₀ : Heap} (hl : h.IsList l items) (n : h₀.get? l = none) (F : Fresh h₀ h g) : g.IsList l items := hl.at fun o e => F l o n e

theorem lawrows_ok {s : Shared} {aS : Addr} {items : Array Value} {ns : List Int} {Q : Value → Shared → Prop} (B : Bs w s.heap) (hA : Rm A 2) (hS : s.heap.IsList aS items) (hi : IntsAre items.toList ns) (h63 : items.size ≤ 63)
    (hQ : ∀ a Rs s', Keeps s s' → s.heap.get? a = none → Rs.length = 3 → (∀ R ∈ Rs, GoodR R) → (∀ g, Fresh s.heap s'.heap g → RowsAt g a Rs) → Q (.ref a) s') : wpAny (model prog w) A (call (.ref 103) [.ref aS]) Q E s := by
  refine enter (binds := [(Str.ofString "script", .ref aS)]) B hA (by rfl) (by rfl) (by rfl) (by rfl) (fun A' n Q' s₁ hD hq F => ?_)
  refine stm ?_
  refine wpAny_Assign_Name ?_
  refine PyProof.Rows.List_ ?_
  refine spl_ints [(2, 0, ⟨73, 13, 73, 14⟩), (1, 0, ⟨73, 16, 73, 17⟩), (1, 0, ⟨73, 19, 73, 20⟩), (2, 0, ⟨73, 22, 73, 23⟩), (1, 0, ⟨73, 25, 73, 26⟩), (1, 0, ⟨73, 28, 73, 29⟩), (2, 0, ⟨73, 31, 73, 32⟩), (1, 0, ⟨73, 34, 73, 35⟩),
    (2, 0, ⟨73, 37, 73, 38⟩), (1, 0, ⟨73, 40, 73, 41⟩), (1, 0, ⟨73, 43, 73, 44⟩), (1, 0, ⟨73, 46, 73, 47⟩)] fun vsG tk hvG => ?_
  refine new_lst (by rw [← hvG.length]; exact le_line (by decide)) fun lG s₂ k2 n2 hlG => ?_
  have k2 := keeps_trans (keeps_tok s₁ _) k2
  obtain ⟨g1, F2, l1, nw⟩ := F.new k2
  have hG : IL g1 lG [2, 1, 1, 2, 1, 1, 2, 1, 2, 1, 1, 1] := ⟨_, list_new hlG n2 nw, hvG⟩
  refine F2.st fun s₃ F3 => ?_
  have B3 := B.le (keeps_le F3.outer)
  have hS3 : s₃.heap.IsList aS items := hS.at fun o e => keeps_le F3.outer _ _ e
  refine stm (lcA F3 (List.range 12) (fun (i : Nat) v => ∃ t, v = .int (i : Int) t) (fun _ => true) (fun _ v => ∃ (i : Int) (t : Tok), v = .int i t ∧ Trit i) [(strT "given", .ref lG), (strT "script", .ref aS)] (nats_inj _) (by rfl)
    (.cons (by rfl) (by rfl) (by rfl) (by rfl) (.cons (by rfl) (by rfl) (by rfl) (by rfl) .nil)) (it_range B3 hD.hh (by decide) fun Q' q => wpAny_Constant_int (q _ _ (keeps_tok _ _))) ?_ ?_ ?_)
  · intros; exact no_test
  · rintro k hk _ C v s₄ E' ⟨t, rfl⟩ kk R
    have hk12 : k < 12 := List.mem_range.mp hk
    have B4 := B3.le kk
    refine wpAny_BinOp (wpAny_BinOp (wpAny_BinOp (Subscript_ (R.ld (by rfl) (R.ld (by rfl) (sub_il2 (j := k) ((hG.le F3.keep).le kk) hk12 (Nat.le_trans (Nat.le_of_lt hk12) (by decide)) fun t1 => ?_))))))
    refine wpAny_Call_NameR (B4.ldB (v := .builtin "sum") (by rfl) (by rfl) (by decide) ?_)
    refine PyProof.Rows.callWith_builtin1 (args_cons (slice_l3 (l := aS) (items := items) (lo := some (k : Int)) (hi := none) (k := 12) (hS3.at fun o e => kk _ _ e) (Nat.le_trans h63 (by decide)) (by decide) (fun Q' q => R.ld (by rfl) (q _ (keeps_refl _)))
      (fun Q' s₁ k₁ q => wpAny_evalPart_some ((R.le (keeps_le k₁)).ld (by rfl) (q _ _ k₁ (.int _ _)))) (fun Q' s₁ k₁ q => wpAny_evalPart_none (q _ _ k₁ .none)) (fun Q' s₁ k₁ q => wpAny_Constant_int (q _ _ (keeps_trans k₁ (keeps_tok _ _)) (.int _ _))) fun D s₅ k5 n5 hlD => args_nil ?_))
    have hpk := hi.pick (some (k : Int)) none (some 12)
    rw [show items.toList.toArray = items by simp] at hpk
    refine sum_l hD.hh hlD hpk fun t2 s₆ k6 => wpAny_add_int (wpAny_Constant_int (PyProof.Rows.mod_int (by decide) (wpAny_Constant_int (PyProof.Rows.sub_int ⟨⟨_, _, rfl, trit_of _⟩, keeps_trans (keeps_trans k5 k6) (keeps_tok _ _)⟩))))
  intro lC s₄ ys g2 F4 l2 hlC hpC
  obtain ⟨cs, hp1, hp2, hp3⟩ := paired_choose hpC
  have hcl : cs.length = 12 := by rw [hp2]; rfl
  have hysz : ys.size = 12 := by have := hp1.length; rw [hcl] at this; simpa using this.symm
  have hlC4 : s₄.heap.IsList lC ys := hlC.at fun o e => F4.keep _ o e
  refine stm (wpAny_Return_some (PyProof.Rows.List_ (args_cons (slice_l (l := lC) (items := ys) (lo := none) (hi := some 4) hlC4 (by rw [hysz]; decide) (fun Q' q => F4.ld (by rfl) (q _ (keeps_refl _)))
    (fun Q' s₁ k₁ q => wpAny_evalPart_none (q _ _ k₁ .none)) (fun Q' s₁ k₁ q => wpAny_evalPart_some (wpAny_Constant_int (q _ _ (keeps_trans k₁ (keeps_tok _ _)) (.int _ _)))) fun D1 s₅ k5 n5 hl1 => ?_))))
  have F5 := F4.keeps k5
  refine args_cons (slice_l (l := lC) (items := ys) (lo := some 4) (hi := some 8) (hlC4.at fun o e => keeps_le k5 _ _ e) (by rw [hysz]; decide) (fun Q' q => F5.ld (by rfl) (q _ (keeps_refl _)))
    (fun Q' s₁ k₁ q => wpAny_evalPart_some (wpAny_Constant_int (q _ _ (keeps_trans k₁ (keeps_tok _ _)) (.int _ _)))) (fun Q' s₁ k₁ q => wpAny_evalPart_some (wpAny_Constant_int (q _ _ (keeps_trans k₁ (keeps_tok _ _)) (.int _ _)))) fun D2 s₆ k6 n6 hl2 => ?_)
  have F6 := F5.keeps k6
  refine args_cons (slice_l (l := lC) (items := ys) (lo := some 8) (hi := none) (hlC4.at fun o e => keeps_le k6 _ _ (keeps_le k5 _ _ e)) (by rw [hysz]; decide) (fun Q' q => F6.ld (by rfl) (q _ (keeps_refl _)))
    (fun Q' s₁ k₁ q => wpAny_evalPart_some (wpAny_Constant_int (q _ _ (keeps_trans k₁ (keeps_tok _ _)) (.int _ _)))) (fun Q' s₁ k₁ q => wpAny_evalPart_none (q _ _ k₁ .none)) fun D3 s₇ k7 n7 hl3 => args_nil (new_lst (len3 _ _ _) fun aR s₈ k8 n8 hlR => ?_))
  have F7 := F6.keeps k7
  rw [show slicePick ys none (some 4) none = (ys.toList.take 4).toArray from slicePick_upto' ys 4] at hl1
  rw [show slicePick ys (some 4) (some 8) none = ((ys.toList.drop 4).take 4).toArray from slicePick_run ys 4 8 (by rw [hysz]; decide) (by decide)] at hl2
  rw [show slicePick ys (some 8) none none = (ys.toList.drop 8).toArray from slicePick_from' ys 8] at hl3
  have K58 : Keeps s₅ s₈ := keeps_trans k6 (keeps_trans k7 k8)
  have K68 : Keeps s₆ s₈ := keeps_trans k7 k8
  refine hq _ _ (hQ aR [cs.take 4, (cs.drop 4).take 4, cs.drop 8] s₈ (F7.keeps k8).outer (none_of_keeps F7.outer n8) rfl ?_ fun g hg => ?_)
  · intro R hR
    simp only [List.mem_cons, List.not_mem_nil, or_false] at hR
    rcases hR with rfl | rfl | rfl
    · exact ⟨by simp [hcl], fun v hv => hp3 v (List.mem_of_mem_take hv)⟩
    · exact ⟨by simp [hcl], fun v hv => hp3 v (List.mem_of_mem_drop (List.mem_of_mem_take hv))⟩
    · exact ⟨by simp [hcl], fun v hv => hp3 v (List.mem_of_mem_drop hv)⟩
  · refine ⟨_, list_at hlR (none_of_keeps F7.outer n8) hg, .cons ⟨D1, rfl, _, list_at (hl1.at fun o e => keeps_le K58 _ _ e) (none_of_keeps F4.outer n5) hg, ?_⟩ (.cons ⟨D2, rfl, _, list_at (hl2.at fun o e => keeps_le K68 _ _ e) (none_of_keeps F5.outer n6) hg, ?_⟩
      (.cons ⟨D3, rfl, _, list_at (hl3.at fun o e => keeps_le k8 _ _ e) (none_of_keeps F6.outer n7) hg, ?_⟩ .nil))⟩
    · exact paired_take 4 hp1
    · exact paired_take 4 (paired_drop 4 hp1)
    · exact paired_drop 8 hp1
end Mine

-- part: FMend
set_option maxHeartbeats 1000000
namespace Mine
open PySem PySem.W PyProof.Rows Builtin PySem.AutoSeq1
variable {prog : Program} {w : World} {A : Around} {E : Value → Shared → Prop}

theorem add_any {s : Shared} {a b : Addr} {i1 i2 : Array Value} {Q : Value → Shared → Prop} (l1 : s.heap.IsList a i1) (l2 : s.heap.IsList b i2) (hz : i1.size + i2.size ≤ 1000)
    (h : ∀ D s', Keeps s s' → s.heap.get? D = none → s'.heap.IsList D (i1 ++ i2) → Q (.ref D) s') : wpAny (model prog w) A (binaryOp .Add (.ref a) (.ref b)) Q E s := by
  obtain ⟨⟨cls, dd, data, sl⟩, ho, hc, n, hd⟩ := id l1
  obtain ⟨⟨cls2, dd2, data2, sl2⟩, ho2, hc2, n2, hd2⟩ := id l2
  simp only at hc hd hc2 hd2
  subst hc hd hc2 hd2
  have hz : i1.size + i2.size ≤ sizeLine := by rw [sizeLine_eq]; omega
  refine concat_meets ⟨_, ho, rfl⟩ ⟨_, ho2, rfl⟩ noFill_list_add seq_list_add PySem.F.slot_list_add PySem.F.entry_list_add (PySem.F.args_list_add_2 _ _) (list_addW a b i1 i2 n n2 dd dd2 sl sl2 hz) ⟨ho, ho2, ?_⟩
  exact h _ _ (keeps_mk s (t := s.toks) (Le.push _ _)) (get_size _) ⟨_, Heap.get?_push_size _ rfl, rfl, _, rfl⟩

theorem paired_app {α β : Type} {F : α → β → Prop} {xs xs' : List α} {ys ys' : List β} (h : Paired F xs ys) (h' : Paired F xs' ys') : Paired F (xs ++ xs') (ys ++ ys') := by
  induction h with
  | nil => exact h'
  | cons h _ ih => exact .cons h ih

theorem rows_get {h : Heap} {a : Addr} {Rs : List (List Int)} (x : RowsAt h a Rs) {m : Nat} (hm : m < Rs.length) : ∃ items r, h.IsList a items ∧ items[m]? = some (.ref r) ∧ IL h r (Rs.getD m []) := by
  obtain ⟨items, hl, hp⟩ := x
  obtain ⟨v, hv⟩ : ∃ v, items.toList[m]? = some v := ⟨_, List.getElem?_eq_getElem (by rw [← hp.length]; exact hm)⟩
  obtain ⟨R, hR, r, rfl, hi⟩ := paired_get hp hv
  refine ⟨items, r, hl, by rw [← Array.getElem?_toList]; exact hv, ?_⟩
  rw [List.getD_eq_getElem?_getD, hR]; exact hi
theorem sub_ref {s : Shared} {value slice : Expr} {a r : Addr} {items : Array Value} {m : Nat} {tk : Tok} {Q : Value → Shared → Prop} (hl : s.heap.IsList a items) (hi : items[m]? = some (.ref r)) (hm : m ≤ 1000)
    (h : Q (.ref r) s) (hs : subscripted slice false (.ref a) (.int (m : Int) tk) = operate [.ref a, .int (m : Int) tk] (getItem (.ref a) (.int (m : Int) tk)) := by with_unfolding_all rfl) :
    wpAny (model prog w) A (subscriptTail value slice (.ref a) (.int (m : Int) tk)) Q E s := by
  have h0 : (0 : Int) ≤ (m : Int) := Int.natCast_nonneg m
  have h63 : (m : Int) < 2 ^ 63 := Int.lt_of_le_of_lt (Int.ofNat_le.mpr hm) (by decide)
  exact tail_any hl.typeIs slot_list_getitem.lookup (wpAny_getItem_list hl h0 h63 (x := .ref r) (by simpa using hi) h) hs

theorem min_nat {s : Shared} {a b : Nat} {t u : Tok} {Q : Value → Shared → Prop} (hh : A.handled = none) (h : ∀ v s', Keeps s s' → (∃ z, v = .int ((min a b : Nat) : Int) z) → Q v s') : wpAny (model prog w) A (call (.builtin "min") [.int (a : Int) t, .int (b : Int) u]) Q E s := by
  refine min_two_ints hh fun h' tk hk => h _ _ (keeps_mk s hk) ?_
  by_cases hab : (b : Int) < (a : Int)
  · rw [if_pos hab]; exact ⟨u, by rw [Nat.min_eq_right (by omega)]⟩
  · rw [if_neg hab]; exact ⟨t, by rw [Nat.min_eq_left (by omega)]⟩
theorem max_nat {s : Shared} {a b : Nat} {t u : Tok} {Q : Value → Shared → Prop} (hh : A.handled = none) (h : ∀ v s', Keeps s s' → (∃ z, v = .int ((max a b : Nat) : Int) z) → Q v s') : wpAny (model prog w) A (call (.builtin "max") [.int (a : Int) t, .int (b : Int) u]) Q E s := by
  refine max_two_ints hh fun h' tk hk => h _ _ (keeps_mk s hk) ?_
  by_cases hab : (b : Int) > (a : Int)
  · rw [if_pos hab]; exact ⟨u, by rw [Nat.max_eq_right (by omega)]⟩
  · rw [if_neg hab]; exact ⟨t, by rw [Nat.max_eq_left (by omega)]⟩

noncomputable def mend0 (Rs : List (List Int)) : List (List Int) := (List.range 3).map fun i => ((List.range 3).map fun j => (Rs.getD (min i j) []).getD (max i j) 0) ++ (Rs.getD i []).drop 3
noncomputable def mend1 (Rs : List (List Int)) : List (List Int) := ((Rs.take 2).map fun R => R.take 2 ++ [0] ++ R.drop 3) ++ [[0, 0, 0, 0]]
noncomputable def mendOf (kind : Int) (Rs : List (List Int)) : List (List Int) := if kind = 0 then mend0 Rs else mend1 Rs



theorem mended_ok {s : Shared} {aRows : Addr} {kind : Int} {tk : Tok} {Rs : List (List Int)} {Q : Value → Shared → Prop} (B : Bs w s.heap) (hA : Rm A 2) (hR : RowsAt s.heap aRows Rs) (hl : Rs.length = 3) (hg : ∀ R ∈ Rs, GoodR R)
    (hQ : ∀ a s', Keeps s s' → s.heap.get? a = none → (∀ g, Fresh s.heap s'.heap g → RowsAt g a (mendOf kind Rs)) → Q (.ref a) s') : wpAny (model prog w) A (call (.ref 108) [.ref aRows, .int kind tk]) Q E s := by
  have hgl : ∀ m, m < 3 → (Rs.getD m []).length = 4 := fun m hm => by
    have : Rs.getD m [] ∈ Rs := by rw [List.getD_eq_getElem?_getD, List.getElem?_eq_getElem (hl ▸ hm)]; exact List.getElem_mem _
    exact (hg _ this).1
  refine enter (binds := [(Str.ofString "rows", .ref aRows), (Str.ofString "kind", .int kind tk)]) B hA (by rfl) (by rfl) (by rfl) (by rfl) (fun A' n Q' s₁ hD hq F => ?_)
  have B1 := B.le (keeps_le F.outer)
  refine stm (wpAny_If (wpAny_isTrue_Compare1 (F.ld (by rfl) (wpAny_Constant_int (PyProof.Rows.eq_int (wpAny_truthy_bool ?_))))))
  have F1 := F.tok (t := s₁.toks + 1)
  have B1' := B.le (keeps_le F1.outer)
  have hR1 : RowsAt ({ s₁ with toks := s₁.toks + 1 } : Shared).heap aRows Rs := hR.le (keeps_le F1.outer)
  by_cases hk0 : kind = 0
  · have e : (kind == 0) = true := by simpa using hk0
    rw [e]
    refine ite_t (stm (wpAny_Return_some ?_))
    refine lcC (List.range 3) (fun (i : Nat) v => ∃ t, v = .int (i : Int) t) (fun _ => true) (fun g i y => ∃ a, y = .ref a ∧ IL g a (((List.range 3).map fun j => (Rs.getD (min i j) []).getD (max i j) 0) ++ (Rs.getD i []).drop 3)) [(strT "rows", .ref aRows)] F1.rd (by rfl)
      (.cons (by rfl) (by rfl) (by rfl) (by rfl) .nil) (it_range B1' hD.hh (by decide) fun Q' q => wpAny_Constant_int (q _ _ (keeps_tok _ _))) ?_ ?_ ?_
    · intros; exact no_test
    · rintro i hi _ C c v s₃ E' ⟨t, rfl⟩ kk R
      have hi3 : i < 3 := List.mem_range.mp hi
      have B3 := B1'.le kk
      have hR3 := hR1.le kk
      refine wpAny_BinOp (lc (List.range 3) (fun (j : Nat) v => ∃ t, v = .int (j : Int) t) (fun _ => true) (fun j y => ∃ t, y = .int ((Rs.getD (min i j) []).getD (max i j) 0) t) [(strT "i", .int (i : Int) t), (strT "rows", .ref aRows)] R (nats_inj _) (by rfl)
        (.cons (by rfl) (by rfl) (by rfl) (by rfl) (.cons (by rfl) (by rfl) (by rfl) (by rfl) .nil)) (it_range B3 hD.hh (by decide) fun Q' q => wpAny_Constant_int (q _ _ (keeps_tok _ _))) ?_ ?_ ?_)
      · intros; exact no_test
      · rintro j hj _ C' v' s₄ E'' ⟨t', rfl⟩ kk' R'
        have hj3 : j < 3 := List.mem_range.mp hj
        have B4 := B3.le kk'
        have hmin : min i j < 3 := Nat.lt_of_le_of_lt (Nat.min_le_left _ _) hi3
        have hmax : max i j < 3 := Nat.max_lt.mpr ⟨hi3, hj3⟩
        obtain ⟨items, r, hli, hri, hIL⟩ := rows_get (hR3.le kk') (m := min i j) (hl ▸ hmin)
        refine Subscript_ (Subscript_ (R'.ld (by rfl) (wpAny_Call_NameR (B4.ldB (v := .builtin "min") (by rfl) (by rfl) (by decide) ?_))))
        refine PyProof.Rows.callWith_builtin1 (args_cons (R'.ld (by rfl) (args_cons (R'.ld (by rfl) (args_nil (min_nat hD.hh fun v1 s₅ k5 hv1 => ?_))))))
        obtain ⟨z1, rfl⟩ := hv1
        refine sub_ref (hli.at fun o e => keeps_le k5 _ _ e) hri (Nat.le_trans (Nat.le_of_lt hmin) (by decide)) ?_
        have B5 := B4.le (keeps_le k5)
        have R5 := R'.le (keeps_le k5)
        refine wpAny_Call_NameR (B5.ldB (v := .builtin "max") (by rfl) (by rfl) (by decide) ?_)
        refine PyProof.Rows.callWith_builtin1 (args_cons (R5.ld (by rfl) (args_cons (R5.ld (by rfl) (args_nil (max_nat hD.hh fun v2 s₆ k6 hv2 => ?_))))))
        obtain ⟨z2, rfl⟩ := hv2
        refine sub_il2 (hIL.le ((keeps_le k5).trans (keeps_le k6))) (by rw [hgl _ hmin]; exact Nat.lt_succ_of_lt hmax) (Nat.le_trans (Nat.le_of_lt hmax) (by decide)) fun t3 => ⟨⟨t3, rfl⟩, keeps_trans k5 k6⟩
      intro D s₄ ys k4 n4 hlD hpD
      have R4 := R.le (keeps_le k4)
      obtain ⟨items, r, hli, hri, hIL⟩ := rows_get (hR3.le (keeps_le k4)) (m := i) (hl ▸ hi3)
      obtain ⟨rit, hrl, hrp⟩ := id hIL
      have hrs : rit.size = 4 := by have := hrp.length; rw [hgl i hi3] at this; simpa using this.symm
      refine slice_l (l := r) (items := rit) (lo := some 3) (hi := none) hrl (by rw [hrs]; decide) (fun Q' q => Subscript_ (R4.ld (by rfl) (R4.ld (by rfl) (sub_ref hli hri (Nat.le_trans (Nat.le_of_lt hi3) (by decide)) (q _ (keeps_refl _))))))
        (fun Q' s₁ k₁ q => wpAny_evalPart_some (wpAny_Constant_int (q _ _ (keeps_trans k₁ (keeps_tok _ _)) (.int _ _)))) (fun Q' s₁ k₁ q => wpAny_evalPart_none (q _ _ k₁ .none)) fun D2 s₅ k5 n5 hl2 => ?_
      rw [show slicePick rit (some 3) none none = (rit.toList.drop 3).toArray from slicePick_from' rit 3] at hl2
      have hys : ys.size = 3 := by
        have h := hpD.length
        rw [show (List.range 3).filter (fun _ => true) = List.range 3 from List.filter_eq_self.mpr (by simp), List.length_range, Array.length_toList] at h
        exact h.symm
      refine add_any (hlD.at fun o e => keeps_le k5 _ _ e) hl2 (by rw [List.size_toArray, List.size_toArray, List.length_drop, Array.length_toList, Array.length_toList, hys, hrs]; decide) fun D3 s₆ k6 n6 hl3 => ⟨keeps_trans k4 (keeps_trans k5 k6), fun g hg => ⟨D3, rfl, _, list_at hl3 (none_of_keeps (keeps_trans k4 k5) n6) hg, ?_⟩⟩
      rw [Array.toList_append]
      refine paired_app (paired_map ?_) (paired_drop 3 hrp)
      have : (List.range 3).filter (fun _ => true) = List.range 3 := List.filter_eq_self.mpr (by simp)
      rw [this] at hpD; exact hpD
    intro D s₂ ys k2 n2 hlD hF
    refine hq _ _ (hQ D s₂ (F1.keeps k2).outer (none_of_keeps F1.outer n2) fun g hg => ⟨ys, list_at hlD (none_of_keeps F1.outer n2) hg, ?_⟩)
    have e1 : mendOf kind Rs = mend0 Rs := by unfold mendOf; rw [if_pos hk0]
    rw [e1]
    unfold mend0
    refine paired_map ?_
    have h1 := hF g fun b o hb e => hg b o (none_of_keeps F1.outer hb) e
    have : (List.range 3).filter (fun _ => true) = List.range 3 := List.filter_eq_self.mpr (by simp)
    rw [this] at h1; exact h1
  · have e : (kind == 0) = false := by simpa using hk0
    rw [e]
    refine ite_f (wpAny_execs_nil ?_)
    obtain ⟨items, hli, hpi⟩ := id hR1
    have hsz : items.size = 3 := by have := hpi.length; rw [hl] at this; simpa using this.symm
    refine stm (wpAny_Return_some (wpAny_BinOp ?_))
    refine lcL (Rs.take 2) (fun R v => ∃ r, v = .ref r ∧ IL ({ s₁ with toks := s₁.toks + 1 } : Shared).heap r R) (fun _ => true) (fun g R y => ∃ a, y = .ref a ∧ IL g a (R.take 2 ++ [0] ++ R.drop 3)) [] F1.rd (by rfl) .nil
      (slice_l (l := aRows) (items := items) (lo := none) (hi := some 2) hli (by rw [hsz]; decide) (fun Q' q => F1.ld (by rfl) (q _ (keeps_refl _))) (fun Q' s₁ k₁ q => wpAny_evalPart_none (q _ _ k₁ .none))
        (fun Q' s₁ k₁ q => wpAny_evalPart_some (wpAny_Constant_int (q _ _ (keeps_trans k₁ (keeps_tok _ _)) (.int _ _)))) fun D s₂ k2 n2 hl2 => ?_) ?_ ?_ ?_
    · rw [show slicePick items none (some 2) none = (items.toList.take 2).toArray from slicePick_upto' items 2] at hl2
      exact src_list hD.hh k2 hl2 (paired_take 2 hpi) (by rw [List.size_toArray, List.length_take, Array.length_toList, hsz]; exact le_line (by decide))
    · intros; exact no_test
    · rintro R hRm _ C v s₃ E' ⟨r, rfl, hIL⟩ kk R'
      obtain ⟨rit, hrl, hrp⟩ := hIL.le kk
      have hr4 : rit.size = 4 := by
        have := hrp.length; rw [(hg R (List.mem_of_mem_take hRm)).1] at this; simpa using this.symm
      refine wpAny_BinOp (wpAny_BinOp ?_)
      refine slice_l (l := r) (items := rit) (lo := none) (hi := some 2) hrl (by rw [hr4]; decide) (fun Q' q => R'.ld (by rfl) (q _ (keeps_refl _))) (fun Q' s₁ k₁ q => wpAny_evalPart_none (q _ _ k₁ .none))
        (fun Q' s₁ k₁ q => wpAny_evalPart_some (wpAny_Constant_int (q _ _ (keeps_trans k₁ (keeps_tok _ _)) (.int _ _)))) fun D1 s₄ k4 n4 hl4 => ?_
      rw [show slicePick rit none (some 2) none = (rit.toList.take 2).toArray from slicePick_upto' rit 2] at hl4
      refine PyProof.Rows.List_ (args_cons (wpAny_Constant_int (args_nil (new_lst (len1 _) fun lZ s₅ k5 n5 hlZ => ?_))))
      have k5 := keeps_trans (keeps_tok s₄ _) k5
      refine add_any (hl4.at fun o e => keeps_le k5 _ _ e) hlZ (by rw [List.size_toArray, List.length_take, Array.length_toList, hr4]; exact Nat.le_of_ble_eq_true rfl) fun D2 s₆ k6 n6 hl6 => ?_
      have k46 := keeps_trans k4 (keeps_trans k5 k6)
      have R6 := R'.le (keeps_le k46)
      refine slice_l (l := r) (items := rit) (lo := some 3) (hi := none) (hrl.at fun o e => keeps_le k46 _ _ e) (by rw [hr4]; decide) (fun Q' q => R6.ld (by rfl) (q _ (keeps_refl _)))
        (fun Q' s₁ k₁ q => wpAny_evalPart_some (wpAny_Constant_int (q _ _ (keeps_trans k₁ (keeps_tok _ _)) (.int _ _)))) (fun Q' s₁ k₁ q => wpAny_evalPart_none (q _ _ k₁ .none)) fun D3 s₇ k7 n7 hl7 => ?_
      rw [show slicePick rit (some 3) none none = (rit.toList.drop 3).toArray from slicePick_from' rit 3] at hl7
      refine add_any (hl6.at fun o e => keeps_le k7 _ _ e) hl7 (by rw [Array.size_append, List.size_toArray, List.size_toArray, List.size_toArray, List.length_take, List.length_drop, Array.length_toList, hr4]; exact Nat.le_of_ble_eq_true rfl) fun D4 s₈ k8 n8 hl8 => ⟨keeps_trans k46 (keeps_trans k7 k8), fun g hg => ⟨D4, rfl, _, list_at hl8 (none_of_keeps (keeps_trans k46 k7) n8) hg, ?_⟩⟩
      rw [Array.toList_append, Array.toList_append]
      exact paired_app (paired_app (paired_take 2 hrp) (.cons ⟨_, rfl⟩ .nil)) (paired_drop 3 hrp)
    intro D s₂ ys k2 n2 hlD hF
    have F2 := F1.keeps k2
    refine PyProof.Rows.List_ (args_cons (PyProof.Rows.List_ ?_))
    refine spl_ints [(0, 0, ⟨79, 61, 79, 62⟩), (0, 0, ⟨79, 64, 79, 65⟩), (0, 0, ⟨79, 67, 79, 68⟩), (0, 0, ⟨79, 70, 79, 71⟩)] fun vsZ tkZ hvZ => ?_
    refine new_lst (by rw [← hvZ.length]; exact le_line (by decide)) fun lZ s₃ k3 n3 hlZ => args_nil (new_lst (len1 _) fun lY s₄ k4 n4 hlY => ?_)
    have k3 := keeps_trans (keeps_tok s₂ _) k3
    have hys : ys.size = 2 := by
      have h := (hF s₂.heap fun b o _ e => e).length
      rw [show (Rs.take 2).filter (fun _ => true) = Rs.take 2 from List.filter_eq_self.mpr (by simp), List.length_take, hl, Array.length_toList] at h
      exact h.symm
    refine add_any (hlD.at fun o e => keeps_le k4 _ _ (keeps_le k3 _ _ e)) hlY (by rw [hys]; exact Nat.le_of_ble_eq_true rfl) fun Df s₅ k5 n5 hl5 => ?_
    have k35 := keeps_trans k3 (keeps_trans k4 k5)
    refine hq _ _ (hQ Df s₅ (F2.keeps k35).outer (none_of_keeps (F2.keeps (keeps_trans k3 k4)).outer n5) fun g hg => ⟨_, list_at hl5 (none_of_keeps (F2.keeps (keeps_trans k3 k4)).outer n5) hg, ?_⟩)
    have e1 : mendOf kind Rs = mend1 Rs := by unfold mendOf; rw [if_neg hk0]
    rw [e1, Array.toList_append]
    unfold mend1
    refine paired_app (paired_map ?_) (.cons ⟨lZ, rfl, _, list_at (hlZ.at fun o e => keeps_le k5 _ _ (keeps_le k4 _ _ e)) (none_of_keeps F2.outer n3) hg, hvZ⟩ .nil)
    have h1 := hF g fun b o hb e => hg b o (none_of_keeps F1.outer hb) (keeps_le k35 _ _ e)
    have : (Rs.take 2).filter (fun _ => true) = Rs.take 2 := List.filter_eq_self.mpr (by simp)
    rw [this] at h1; exact h1
end Mine

-- part: FDc2
set_option maxHeartbeats 1000000
namespace Mine
open PySem PySem.W PyProof.Rows
variable {prog : Program} {w : World} {A : Around} {E : Value → Shared → Prop}

theorem nodup_sub_len : ∀ {l m : List Str}, l.Nodup → (∀ x ∈ l, x ∈ m) → l.length ≤ m.length
  | [], _, _, _ => Nat.zero_le _
  | x :: r, m, hn, hs => by
    rw [List.nodup_cons] at hn
    have hx := hs x List.mem_cons_self
    have : r.length ≤ (m.erase x).length := nodup_sub_len hn.2 fun y hy => (List.mem_erase_of_ne (by rintro rfl; exact hn.1 hy)).mpr (hs y (List.mem_cons_of_mem _ hy))
    rw [List.length_erase_of_mem hx] at this
    have hp : 0 < m.length := List.length_pos_of_mem hx
    rw [List.length_cons]; omega

theorem getC_mem {c : IC} {k : Str} {v : Int} (h : getC c k = some v) : k ∈ c.map (·.1) := by
  unfold getC at h
  cases e : c.find? fun p => decide (p.1 = k) with
  | none => rw [e] at h; cases h
  | some p =>
    have h1 := List.mem_of_find?_eq_some e
    have h2 := List.find?_some e
    simp at h2
    exact h2 ▸ List.mem_map.mpr ⟨p, h1, rfl⟩

theorem id_ne {s : Shared} {a b : Addr} {c c' : IC} {Q : Value → Shared → Prop} (ha : ID prog w s.heap a c) (hb : ID prog w s.heap b c') (same : ∀ k, getC c k = getC c' k) (hu : A.units < cLine) (h : Q (.bool false) s) :
    wpAny (model prog w) A (compareOp .NotEq (.ref a) (.ref b)) Q E s := by
  have hn := ha.nodup
  have hn' := hb.nodup
  have hlen : c.length = c'.length := by
    refine Nat.le_antisymm ?_ ?_
    · have := nodup_sub_len hn (m := c'.map (·.1)) fun x hx => getC_mem (v := (getC c x).getD 0) (by rw [← same]; exact getC_key hx)
      simpa using this
    · have := nodup_sub_len hn' (m := c.map (·.1)) fun x hx => getC_mem (v := (getC c' x).getD 0) (by rw [same]; exact getC_key hx)
      simpa using this
  obtain ⟨hs1, ka, da, ta⟩ := ha
  obtain ⟨hs2, kb, db, tb⟩ := hb
  have hits : ∀ (l : List (Str × Value)) (d : IC), Tied l d → (∀ p ∈ d, p ∈ c) → KeqHits A.in1 s kb l true := by
    intro l d t
    induction t with
    | nil => intro _; exact .nil
    | @cons kv p l1 l2 h _ ih =>
      intro hm
      obtain ⟨k, v⟩ := kv
      obtain ⟨h1, t1, h2⟩ := h
      dsimp only at h1 h2
      subst h1 h2
      have hp := hm p List.mem_cons_self
      have hg : getC c' p.1 = some p.2 := by rw [← same]; exact getC_of_mem hn (v := p.2) hp
      rcases tb.at p.1 with ⟨i, t2, e1, e2⟩ | ⟨e1, _⟩
      · rw [hg] at e1; cases e1
        have := KeqHits.hit (A := A.in1) (s := s) e2 (PySem.SeqAt.EqAt.int_int p.2 t1 p.2 t2) (ih fun q hq => hm q (List.mem_cons_of_mem _ hq))
        simpa using this
      · rw [hg] at e1; cases e1
  refine keq_ne (knd := strKind prog w) (r := true) hs1 hs2 da db hu (fun _ => hits ka c ta fun _ h => h) ?_
  have e : (!(ka.length == kb.length && true)) = false := by
    rw [ta.length, tb.length, hlen]; simp
  rw [e]; exact h

section
variable {R : Result → Shared → Prop}
theorem loop_pairD {kx vx iter : Expr} {elts : List Expr} {x1} {tp : Pos} {ifs : List Expr} {scope : Scope} {pos : Pos} {it : Value} {D : Addr} {env : Env} {s : Shared} (I : Nat → Shared → Prop)
    (turn : ∀ n s, I n s → wpAny (model prog w) A (pyNext it) (fun r s₁ => match r with
      | none => R (.ok .next) s₁
      | some v => wpAny (model prog w) A (letOwnedTupleGo (.Tuple elts x1 tp) it v) (fun _ s₁' => wpAny (model prog w) A (assign (.Tuple elts x1 tp) env v) (fun _ s₂ =>
          Tests prog w A ifs env (fun ok s₃ =>
            if ok = true then wpAny (model prog w) A (eval kx env) (fun kv s₄ => wpAny (model prog w) A (eval vx env) (fun vv s₅ =>
              wpAny (model prog w) A (dictSet D kv vv) (fun _ s₆ => ∃ m, m < n ∧ I m s₆) (notedBy (model prog w) A env fun e s' => R (.error e) s') s₅) (notedBy (model prog w) A env fun e s' => R (.error e) s') s₄) (notedBy (model prog w) A env fun e s' => R (.error e) s') s₃
            else ∃ m, m < n ∧ I m s₃) (notedBy (model prog w) A env fun e s' => R (.error e) s') s₂) (notedBy (model prog w) A env fun e s' => R (.error e) s') s₁') (notedBy (model prog w) A env fun e s' => R (.error e) s') s₁) (notedBy (model prog w) A env fun e s' => R (.error e) s') s)
    (n : Nat) (h : I n s) :
    codeAny (model prog w) A (.compLoop (.DictComp kx vx [⟨.Tuple elts x1 tp, iter, ifs, 0⟩] scope pos) 0 it (.ref D) env) R s := by
  refine codeAny_loop rfl I (fun n s hI => ?_) n h
  show wpAny _ A ((compTurn (.DictComp kx vx [⟨.Tuple elts x1 tp, iter, ifs, 0⟩] scope pos) 0 it (.ref D) env).onRaise (fun x => do noteFrame x env; theTreesLotGoes x)) _ _ s
  refine wpAny_noted ?_
  rw [compTurn_dict]
  refine wpAny_bind (wpAny_standAt (wpAny_bind (wpAny_mono (turn n s hI) (fun r s₁ h₁ => ?_) fun _ _ h' => h')))
  cases r with
  | none => exact wpAny_pure h₁
  | some v =>
    refine wpAny_bind (wpAny_mono h₁ (fun _ s₁' h₁' => ?_) fun _ _ h' => h')
    refine wpAny_bind (wpAny_mono h₁' (fun _ s₂ h₂ => wpAny_bind (wpAny_mono h₂ (fun ok s₃ h₃ => ?_) fun _ _ h' => h')) fun _ _ h' => h')
    cases ok with
    | false => exact wpAny_pure ⟨rfl, h₃⟩
    | true =>
      exact wpAny_bind (wpAny_bind (wpAny_mono h₃ (fun kv s₄ h₄ => wpAny_bind (wpAny_holding (wpAny_mono h₄ (fun vv s₅ h₅ => wpAny_bind (wpAny_standAt (wpAny_holding (wpAny_mono h₅ (fun _ s₆ h₆ => wpAny_pure ⟨rfl, h₆⟩) fun _ _ h' => h')))) fun _ _ h' => h'))) fun _ _ h' => h'))
end

inductive DInv (prog : Program) (w : World) (s₂ s : Shared) (D C : Addr) (n : Nat) (St : Nat → Heap → Prop) (pr : Nat → Bool) (fk : Nat → Str) (fv : Nat → Int) (k : Nat) (s' : Shared) : Prop
  | mk (i : Nat) (kvs : List (Str × Value)) (m : Str → Option Value) (h' : Heap) (t' : Nat) (e : s' = { s₂ with heap := h', toks := t' }) (st : St i h') (d : h'.DictOf (strKind prog w) D kvs) (ns : h'.Ns C m) (le : Le s.heap h')
    (ti : Tied kvs (foldC fk fv ((List.range i).filter pr))) (len : kvs.length ≤ i) (hi : i ≤ n) (hk : k = n + 1 - i)

/-- a dict comprehension whose target is a pair -/
theorem dc2 {s : Shared} {env : Env} {kx vx iter : Expr} {x x₂ : Str} {px px₂ tp : Pos} {tk} {ifs : List Expr} {scope : Scope} {cl : List (Str × Addr)} {pos : Pos} {Q : Value → Shared → Prop} (B : Bs w s.heap) (hh : A.handled = none)
    (pr : Nat → Bool) (fk : Nat → Str) (fv : Nat → Int) (n : Nat) (hn : n ≤ 1000) (Pr : Nat → Value → Value → Prop)
    (hclos : closureFor scope env = pure cl)
    (h : wpAny (model prog w) A (eval iter env) (fun xv s₁ => wpAny (model prog w) A (pyIter xv) (fun it s₂ => ∃ I fp wr Pt St Mid, it = .ref I ∧ WalksT prog w A I fp wr n Pt St Mid ∧ St 0 s₂.heap ∧ (∀ b ∈ fp, b < s₂.heap.objs.size) ∧
      Keeps s s₂ ∧ (∀ b ∈ wr, s.heap.get? b = none) ∧ ∀ i vals, Pt i vals → ∃ v₁ v₂, vals = #[v₁, v₂] ∧ Pr i v₁ v₂) E s₁) E s)
    (tests : ∀ i v₁ v₂ C s₃ E', Pr i v₁ v₂ → Le s.heap s₃.heap → Rd (compEnvC scope cl C env) [(x, v₁), (x₂, v₂)] s₃.heap → Tests prog w A ifs (compEnvC scope cl C env) (fun ok s₄ => ok = pr i ∧ Keeps s₃ s₄) E' s₃)
    (keys : ∀ i v₁ v₂ C s₃ E', pr i = true → Pr i v₁ v₂ → Le s.heap s₃.heap → Rd (compEnvC scope cl C env) [(x, v₁), (x₂, v₂)] s₃.heap → wpAny (model prog w) A (eval kx (compEnvC scope cl C env)) (fun y s₄ => (∃ t, y = .str (fk i) t) ∧ Keeps s₃ s₄) E' s₃)
    (vals : ∀ i v₁ v₂ C s₃ E', pr i = true → Pr i v₁ v₂ → Le s.heap s₃.heap → Rd (compEnvC scope cl C env) [(x, v₁), (x₂, v₂)] s₃.heap → wpAny (model prog w) A (eval vx (compEnvC scope cl C env)) (fun y s₄ => (∃ t, y = .int (fv i) t) ∧ Keeps s₃ s₄) E' s₃)
    (hQ : ∀ D s', Keeps s s' → s.heap.get? D = none → ID prog w s'.heap D (foldC fk fv ((List.range n).filter pr)) → Q (.ref D) s')
    (hcell' : (scope.names.all fun y => y.2 != .cell) = true := by rfl) (hkind : scope.kind = .function := by rfl)
    (hnames' : (scope.names.all fun y => y.2 != .local || scope.names.lookup y.1 == some .local) = true := by rfl) (hx : scope.names.lookup x = some .local := by rfl) (hx₂ : scope.names.lookup x₂ = some .local := by rfl) (hxx : (x == x₂) = false := by rfl)
    (hs : ∀ x, foldedSetIterable iter env x = pure x := by intro _; rfl) :
    wpAny (model prog w) A (eval (.DictComp kx vx [⟨.Tuple [.Name x px, .Name x₂ px₂] tk tp, iter, ifs, 0⟩] scope pos) env) Q E s := by
  have hcell : ∀ y ∈ scope.names, y.2 ≠ .cell := fun y hy => by have := List.all_eq_true.mp hcell' y hy; simpa using this
  have hnames : ∀ y ∈ scope.names, y.2 = .local → scope.names.lookup y.1 = some .local := fun y hy e => by have := List.all_eq_true.mp hnames' y hy; simpa [e] using this
  rw [arm_eval_DictComp]
  refine wpAny_comprehension_free (use := none) rfl hs hclos hkind hnames (wpAny_mono h (fun xv s₁ h₁ => wpAny_mono h₁ (fun it s₂ h₂ => ?_) fun _ _ e => e) fun _ _ e => e)
  obtain ⟨I, fp, wr, Pt, St, Mid, rfl, W, hst, hfp, k₂, hwr, hPt⟩ := h₂
  refine wpAny_newObj_type (wpAny_newFunctionEnv hcell (by intro y hy; simp at hy) (fun h₁ hns₁ hsb₁ => ?_) hkind)
  dsimp only at hns₁ hsb₁ ⊢
  have hnew : (s₂.heap.push { cls := .type "dict", dict := none, data := .dict #[] }).DictOf (strKind prog w) s₂.heap.objs.size [] := Heap.DictOf.new s₂.heap
  generalize hH2 : s₂.heap.push { cls := .type "dict", dict := none, data := .dict #[] } = H2 at hns₁ hsb₁ hnew ⊢
  have hC : H2.objs.size = s₂.heap.objs.size + 1 := by rw [← hH2, Heap.size_push]
  generalize hDe : s₂.heap.objs.size = D at hC hnew ⊢
  generalize hCe : H2.objs.size = C at hC hns₁ hsb₁ ⊢
  have hDn : s₂.heap.get? D = none := hDe ▸ get_size _
  have hCn : s₂.heap.get? C = none := get_ge _ (by rw [hDe, hC]; exact Nat.le_succ _)
  have hDC : D ≠ C := by rw [hC]; exact Nat.ne_of_lt (Nat.lt_succ_self _)
  have hDf : ∀ b ∈ fp, b ≠ D ∧ b ≠ C := fun b hb => by
    have := hfp b hb
    rw [hDe] at this
    exact ⟨Nat.ne_of_lt this, by rw [hC]; exact Nat.ne_of_lt (Nat.lt_succ_of_lt this)⟩
  have old : Le s₂.heap h₁ := fun b o e => hsb₁.extBut b o (by rintro rfl; rw [hCn] at e; cases e) (Heap.get?_push_of_some _ (hH2 ▸ Heap.get?_push_of_some _ e))
  have hD₁ : h₁.DictOf (strKind prog w) D [] := hnew.at fun o e => hsb₁.extBut _ _ hDC (Heap.get?_push_of_some _ e)
  have sC : ∀ b o, s.heap.get? b = some o → b ≠ C ∧ b ≠ D := fun b o e => ⟨(by rintro rfl; rw [keeps_le k₂ _ _ e] at hCn; cases hCn), (by rintro rfl; rw [keeps_le k₂ _ _ e] at hDn; cases hDn)⟩
  have sW : ∀ b o, s.heap.get? b = some o → b ∉ wr := fun b o e hm => by rw [hwr b hm] at e; cases e
  have kx' : ∀ {y : Str}, scope.names.lookup y = some .local → (compEnvC scope cl C env).kindOf y = some .local := fun h => lookup_relabel_local h
  have kk : ((compEnvC scope cl C env).scope.kind == .class || ((compEnvC scope cl C env).scope.kind == .module && (compEnvC scope cl C env).locals != (compEnvC scope cl C env).globals)) = false := by
    have e : (compEnvC scope cl C env).scope.kind = .function := hkind
    rw [e]; rfl
  have hst₁ : St 0 h₁ := W.frame _ _ _ hst fun b _ o e => old b o e
  have hwD : D ∉ wr := fun hm => (hDf D (W.sub _ hm)).1 rfl
  have hwC : C ∉ wr := fun hm => (hDf C (W.sub _ hm)).2 rfl
  have hne : x ≠ x₂ := by simpa using hxx
  have loop : ∀ s₃ : Shared, s₃ = { s₂ with heap := h₁, toks := s₂.toks + ([] : List (Str × Value)).length } →
      codeAny (model prog w) A (.compLoop (.DictComp kx vx [⟨.Tuple [.Name x px, .Name x₂ px₂] tk tp, iter, ifs, 0⟩] scope pos) 0 (.ref I) (.ref D) (compEnvC scope cl C env)) (compPost (model prog w) A E none Q (.ref D) C) s₃ := by
    rintro s₃ rfl
    refine loop_pairD (DInv prog w s₂ s D C n St pr fk fv) ?_ (n + 1)
      ⟨0, [], _, _, _, rfl, hst₁, hD₁, hns₁, (keeps_le k₂).trans old, .nil, Nat.le_refl _, Nat.zero_le _, rfl⟩
    rintro k s' ⟨i, kvs, m, h', t', rfl, hSt, hD, hN, hLe, hT, hkl, hi, rfl⟩
    by_cases hlt : i < n
    · refine W.item i _ _ _ hlt hSt fun T vals' h₂ tk₂ hP hTs hT' hM hk₂ => ?_
      obtain ⟨v₁, v₂, rfl, hPr⟩ := hPt i vals' hP
      refine W.go _ _ _ i T _ _ _ hM fun h₃ hSt₃ hk₃ => ?_
      have hk : ∀ b o, b ∉ wr → h'.get? b = some o → h₃.get? b = some o := fun b o hb e => hk₃ b o hb (hk₂ b o hb e)
      have hT₃ : h₃.IsTuple T #[v₁, v₂] := tuple_mv hT' fun o e => hk₃ _ _ (W.apart _ _ _ hM) e
      have hD₃ : h₃.DictOf (strKind prog w) D kvs := hD.at fun o e => hk _ o hwD e
      have hN₃ : h₃.Ns C m := hN.at fun o e => hk _ o hwC e
      have hLe₃ : Le s.heap h₃ := fun b o e => hk b o (sW b o e) (hLe b o e)
      refine wpAny_assign_Tuple hh hT₃ rfl rfl fun h₄ hx₄ => ?_
      have k₄ : Le h₃ h₄ := fun b o e => hx₄ b o (Nat.ne_of_lt (Heap.lt_size e)) e
      show wpAny _ _ (do holding [v₂] (assign (.Name x px) _ v₁); do holding [] (assign (.Name x₂ px₂) _ v₂); pure ()) _ _ _
      refine wpAny_bind (wpAny_holding (wpAny_assign_Name (wpAny_storeName_local (kx' hx) (hN₃.keeps k₄) (fun h₅ hN₅ hs₅ => ?_) kk)))
      refine wpAny_bind (wpAny_holding (wpAny_assign_Name (wpAny_storeName_local (kx' hx₂) hN₅ (fun h₆ hN₆ hs₆ => wpAny_pure ?_) kk)))
      have k₆ : ∀ b o, b ≠ C → h₃.get? b = some o → h₆.get? b = some o := fun b o hb e => hs₆.extBut b o hb (hs₅.extBut b o hb (k₄ b o e))
      have hLe₆ : Le s.heap h₆ := fun b o e => k₆ b o (sC b o e).1 (hLe₃ b o e)
      have rd : ∀ {h'' : Heap} {mm : Str → Option Value}, h''.Ns C mm → mm x = some v₁ → mm x₂ = some v₂ → Rd (compEnvC scope cl C env) [(x, v₁), (x₂, v₂)] h'' := fun hn e1 e2 => rd2 hn e1 e2 hx hx₂
      refine wpAny_mono (tests i v₁ v₂ C _ _ hPr hLe₆ (rd hN₆ (by simp [hne]) (by simp))) (fun ok s₇ h₇ => ?_) fun _ _ e => e
      obtain ⟨rfl, h₇, t₇, rfl, k₇⟩ := h₇
      have hSt₇ : St (i + 1) h₇ := W.frame _ _ _ hSt₃ fun b hb o e => k₇ _ _ (k₆ b o (hDf b hb).2 e)
      have hD₇ : h₇.DictOf (strKind prog w) D kvs := hD₃.at fun o e => k₇ _ _ (k₆ _ _ hDC e)
      have hrs : List.range (i + 1) = List.range i ++ [i] := List.range_succ
      cases hpi : pr i with
      | false =>
        simp only [Bool.false_eq_true, if_false]
        refine ⟨n + 1 - (i + 1), sub_dec hlt, i + 1, kvs, _, h₇, t₇, rfl, hSt₇, hD₇, hN₆.keeps k₇, hLe₆.trans k₇, ?_, Nat.le_succ_of_le hkl, hlt, rfl⟩
        rw [hrs, List.filter_append]
        simpa [hpi] using hT
      | true =>
        simp only [if_true]
        refine wpAny_mono (keys i v₁ v₂ C _ _ hpi hPr (hLe₆.trans k₇) (rd (hN₆.keeps k₇) (by simp [hne]) (by simp))) (fun y s₈ h₈ => ?_) fun _ _ e => e
        obtain ⟨⟨u₁, rfl⟩, h₈, t₈, rfl, k₈⟩ := h₈
        refine wpAny_mono (vals i v₁ v₂ C _ _ hpi hPr ((hLe₆.trans k₇).trans k₈) (rd ((hN₆.keeps k₇).keeps k₈) (by simp [hne]) (by simp))) (fun z s₉ h₉ => ?_) fun _ _ e => e
        obtain ⟨⟨u₂, rfl⟩, h₉, t₉, rfl, k₉⟩ := h₉
        refine wpAny_dictSet_pairs (strKind_is _ _ _ _) (hD₇.at fun o e => k₉ _ o (k₈ _ o e)) (fun h₁₀ hD₁₀ hs₁₀ => ?_) (by rw [sizeLine_eq]; omega)
        have up : ∀ b o, b ≠ D → h₇.get? b = some o → h₁₀.get? b = some o := fun b o hb e => hs₁₀.extBut b o hb (k₉ _ _ (k₈ _ _ e))
        refine ⟨n + 1 - (i + 1), sub_dec hlt, i + 1, _, _, h₁₀, _, rfl, W.frame _ _ _ hSt₇ fun b hb o e => up b o (hDf b hb).1 e, hD₁₀, (((hN₆.keeps k₇).keeps k₈).keeps k₉).sameBut hs₁₀ (Ne.symm hDC), fun b o e => up b o (sC b o e).2 (k₇ _ _ (hLe₆ _ _ e)), ?_, ?_, hlt, rfl⟩
        · rw [hrs, List.filter_append]
          have e1 : [i].filter pr = [i] := by simp [hpi]
          rw [e1]
          unfold foldC
          rw [List.foldl_append]
          exact hT.put (fk i) (fv i) u₂
        · unfold stored
          split
          · rw [List.length_map]; omega
          · rw [List.length_append, List.length_singleton]; omega
    · have hin : i = n := Nat.le_antisymm hi (Nat.not_lt.mp hlt)
      subst hin
      refine W.done _ _ _ hSt fun h₂ tk₂ hk₂ => ?_
      have hD₂ : h₂.DictOf (strKind prog w) D kvs := hD.at fun o e => hk₂ _ o hwD e
      refine ⟨m, hN.at fun o e => hk₂ _ o hwC e, fun h'' hs'' => hQ D _ ?_ (none_of_keeps k₂ hDn) ⟨B.notMods (none_of_keeps k₂ hDn), kvs, hD₂.at fun o e => hs''.extBut _ o hDC e, hT⟩⟩
      obtain ⟨h0, t0, e0, _⟩ := k₂
      exact ⟨h'', tk₂, by rw [e0], fun b o e => hs''.extBut b o (sC b o e).1 (hk₂ b o (sW b o e) (hLe b o e))⟩
  exact codeAny_compStart_dict (loop _ rfl) (W.self 0 _ _ _ hst₁ (loop _ rfl))

/-- zip of two lists, ready for dc2 -/
theorem it_zip {s s₀ : Shared} {l1 l2 : Addr} {xs ys : Array Value} (k₀ : Keeps s₀ s) (hh : A.handled = none) (hl1 : s.heap.IsList l1 xs) (hl2 : s.heap.IsList l2 ys) (hsz : xs.size = ys.size) :
    wpAny (model prog w) A (call (.type "zip") [.ref l1, .ref l2]) (fun xv s₁ => wpAny (model prog w) A (pyIter xv) (fun it s₂ => ∃ I fp wr Pt St Mid, it = .ref I ∧ WalksT prog w A I fp wr xs.size Pt St Mid ∧ St 0 s₂.heap ∧ (∀ b ∈ fp, b < s₂.heap.objs.size) ∧
      Keeps s₀ s₂ ∧ (∀ b ∈ wr, s₀.heap.get? b = none) ∧ ∀ i vals, Pt i vals → ∃ v₁ v₂, vals = #[v₁, v₂] ∧ (xs[i]? = some v₁ ∧ ys[i]? = some v₂)) E s₁) E s := by
  refine call_zip_2 hl1 hl2 fun H hz hTI hTO hi1 hi2 hHs hkH => ?_
  have hl1N : l1 < s.heap.objs.size := by obtain ⟨o, ho, _⟩ := hl1; exact Heap.lt_size ho
  have hl2N : l2 < s.heap.objs.size := by obtain ⟨o, ho, _⟩ := hl2; exact Heap.lt_size ho
  refine wpAny_pyIter_zip hz ?_
  have W := WalksT.zip2 (prog := prog) (w := w) (A := A) hh (s.heap.objs.size + 4) (s.heap.objs.size + 2) (s.heap.objs.size + 3) s.heap.objs.size (s.heap.objs.size + 1) l1 l2 (zapart hl1N hl2N) xs ys
  rw [show min xs.size ys.size = xs.size by omega] at W
  refine ⟨_, _, _, _, _, _, rfl, W, ⟨hz, hTI, ⟨_, _, hTO⟩, hi1, hi2, hl1.at fun o e => hkH _ _ e, hl2.at fun o e => hkH _ _ e⟩, fun b hb => ?_, keeps_trans k₀ (keeps_mk s (t := s.toks) hkH), fun b hb => ?_, ?_⟩
  · show b < H.objs.size
    rw [hHs]
    simp only [List.mem_cons, List.not_mem_nil, or_false] at hb
    rcases hb with rfl | rfl | rfl | rfl | rfl | rfl | rfl
    · exact Nat.lt_succ_self _
    · exact Nat.add_lt_add_left (by decide) _
    · exact Nat.add_lt_add_left (by decide) _
    · exact Nat.lt_add_of_pos_right (by decide)
    · exact Nat.add_lt_add_left (by decide) _
    · exact Nat.lt_of_lt_of_le hl1N (Nat.le_add_right _ _)
    · exact Nat.lt_of_lt_of_le hl2N (Nat.le_add_right _ _)
  · refine none_of_keeps k₀ (get_ge _ ?_)
    simp only [List.mem_cons, List.not_mem_nil, or_false] at hb
    rcases hb with rfl | rfl | rfl | rfl
    · exact Nat.le_add_right _ _
    · exact Nat.le_add_right _ _
    · exact Nat.le_refl _
    · exact Nat.le_add_right _ _
  · rintro i vals ⟨x, y, hx, hy, rfl⟩
    exact ⟨x, y, rfl, hx, hy⟩
end Mine

-- part: FLaw
set_option maxHeartbeats 1000000
namespace Mine
open PySem PySem.W PyProof.Rows
variable {prog : Program} {w : World} {A : Around} {E : Value → Shared → Prop}

noncomputable def cellOf (Rs : List (List Int)) (i j : Nat) : Int := (Rs.getD i []).getD j 0
noncomputable def leanOf (Rs : List (List Int)) : List Int := [cellOf Rs 2 1 - cellOf Rs 1 2, cellOf Rs 0 2 - cellOf Rs 2 0, cellOf Rs 1 0 - cellOf Rs 0 1]
noncomputable def dueJ (way : Int) (Rs : List (List Int)) (j : Nat) : Int := way * ((List.range 3).map fun i => (leanOf Rs).getD i 0 * cellOf Rs i j).sum
noncomputable def dueW : List Str := [strT "a", strT "b", strT "c", strT ""]
noncomputable def dueAt (way : Int) (Rs : List (List Int)) (k : Str) : Int :=
  if k = strT "a" then dueJ way Rs 0 else if k = strT "b" then dueJ way Rs 1 else if k = strT "c" then dueJ way Rs 2 else if k = strT "" then dueJ way Rs 3 else 0
noncomputable def longerOf (way : Int) (spot x : Nat) : Str := Txt.slice (lettersOf way) none (some (spot : Int)) ++ Txt.item (strT "abc") (x : Int) ++ Txt.slice (lettersOf way) (some (spot : Int)) none

inductive Settles (way : Int) (Rs : List (List Int)) (word : Str) (SF SB : IC) : Prop
  | mk (top : Str) (cF cB : Cfg) (_ : OkCfg cF (agsOf way)) (_ : OkCfg cB (agsOf way)) (_ : cF.rl = rlOf way Rs) (_ : cB.rl = rlOf way Rs) (_ : cF.last = false) (_ : cB.last = true)
    (_ : run cF 200 [] [] [(word, 1)] = some SF) (_ : run cB 200 [] [] [(word, 1)] = some SB) (_ : ∀ k ∈ SF.map (·.1) ++ SB.map (·.1), WordOk way k k) (_ : SF.filter (fun p => p.1.length == word.length) = [(top, 1)])
    (_ : WordOk way word top) (_ : PyData.strOk top = true) (_ : SF.length + SB.length ≤ 10000)

theorem less_ok2 {s : Shared} {aRows : Addr} {way : Int} {word : Str} {tword tw : Tok} {Rs : List (List Int)} {SF SB : IC} {Q : Value → Shared → Prop} (B : Bs w s.heap) (hA : Rm A 6) (hw : way = 1 ∨ way = -1)
    (hR : RowsAt s.heap aRows Rs) (hl : Rs.length = 3) (hg : ∀ R ∈ Rs, GoodR R) (hS : Settles way Rs word SF SB)
    (hQ : ∀ d s', Keeps s s' → s.heap.get? d = none → ID prog w s'.heap d (diffC SF SB) → Q (.ref d) s') :
    wpAny (model prog w) A (call (.ref 123) [.str word tword, .ref aRows, .int way tw]) Q E s := by
  obtain ⟨top, cF, cB, h1, h2, h3, h4, h5, h6, h7, h8, h9, h10, h11, h12, h13⟩ := hS
  exact less_ok B hA hw hR hl hg h1 h2 h3 h4 h5 h6 h7 h8 h9 h10 h11 h12 h13 hQ

theorem getC_put (c : IC) (k k' : Str) (v : Int) : getC (putC c k v) k' = if k = k' then some v else getC c k' := by
  unfold putC
  split
  · rename_i h
    unfold getC
    induction c with
    | nil => simp at h
    | cons p c ih =>
      rw [List.map_cons, List.find?_cons, List.find?_cons]
      by_cases e : p.1 = k
      · simp only [e, if_true]
        by_cases e2 : k = k'
        · simp [e2]
        · simp only [e2, decide_false, if_false]
          by_cases h2 : (c.any fun p => decide (p.1 = k)) = true
          · have := ih h2
            rw [if_neg e2] at this; exact this
          · have hm : c.map (fun p => if p.1 = k then (p.1, v) else p) = c := by
              refine (List.map_congr_left (g := fun p => p) fun q hq => ?_).trans (List.map_id' c)
              rw [if_neg]; intro e3; exact h2 (List.any_eq_true.mpr ⟨q, hq, by simpa using e3⟩)
            rw [hm]
      · simp only [e, if_false]
        have h2 : (c.any fun p => decide (p.1 = k)) = true := by simpa [e] using h
        by_cases e2 : p.1 = k'
        · have : k ≠ k' := fun q => e (e2.trans q.symm)
          simp [e2, this]
        · simp only [e2, decide_false]; exact ih h2
  · rename_i h
    unfold getC
    rw [List.find?_append]
    cases hf : c.find? fun p => decide (p.1 = k') with
    | none => by_cases e : k = k' <;> simp [e]
    | some p =>
      have h1 := List.mem_of_find?_eq_some hf
      have h2 := List.find?_some hf
      simp at h2
      have : k ≠ k' := by
        rintro rfl
        exact h (List.any_eq_true.mpr ⟨p, h1, by simpa using h2⟩)
      simp [this]

theorem getC_fold {α : Type} (fk : α → Str) (fv : α → Int) (k : Str) (v : Int) : ∀ (l : List α), (∀ a ∈ l, fk a = k → fv a = v) → getC (foldC fk fv l) k = if (∃ a ∈ l, fk a = k) then some v else none := by
  have key : ∀ (l : List α) (acc : IC), (∀ a ∈ l, fk a = k → fv a = v) → getC (l.foldl (fun acc a => putC acc (fk a) (fv a)) acc) k = if (∃ a ∈ l, fk a = k) then some v else getC acc k := by
    intro l
    induction l with
    | nil => intro acc _; simp
    | cons a l ih =>
      intro acc h
      rw [List.foldl_cons, ih _ fun b hb => h b (List.mem_cons_of_mem _ hb), getC_put]
      by_cases e1 : ∃ b ∈ l, fk b = k
      · rw [if_pos e1, if_pos]; obtain ⟨b, hb, e⟩ := e1; exact ⟨b, List.mem_cons_of_mem _ hb, e⟩
      · rw [if_neg e1]
        by_cases e2 : fk a = k
        · rw [if_pos e2, if_pos ⟨a, List.mem_cons_self, e2⟩, h a List.mem_cons_self e2]
        · rw [if_neg e2, if_neg]
          rintro ⟨b, hb, e⟩
          rcases List.mem_cons.mp hb with rfl | hb
          · exact e2 e
          · exact e1 ⟨b, hb, e⟩
  intro l h
  exact key l [] h

theorem diff_at (SF SB : IC) (k : Str) : getC (diffC SF SB) k = if (getC SF k).getD 0 - (getC SB k).getD 0 ≠ 0 then some ((getC SF k).getD 0 - (getC SB k).getD 0) else none := by
  unfold diffC
  rw [getC_fold (fun k => k) _ k ((getC SF k).getD 0 - (getC SB k).getD 0) _ (by rintro a _ rfl; rfl)]
  by_cases h : (getC SF k).getD 0 - (getC SB k).getD 0 ≠ 0
  · rw [if_pos h, if_pos]
    refine ⟨k, List.mem_filter.mpr ⟨?_, by simp only [bne_iff_ne]; omega⟩, rfl⟩
    by_cases h1 : getC SF k = none
    · by_cases h2 : getC SB k = none
      · rw [h1, h2] at h; simp at h
      · obtain ⟨v, hv⟩ := Option.ne_none_iff_exists'.mp h2
        exact List.mem_append_right _ (getC_mem hv)
    · obtain ⟨v, hv⟩ := Option.ne_none_iff_exists'.mp h1
      exact List.mem_append_left _ (getC_mem hv)
  · rw [if_neg h, if_neg]
    rintro ⟨a, ha, rfl⟩
    have := (List.mem_filter.mp ha).2
    simp only [bne_iff_ne] at this
    omega

theorem due_same {way : Int} {Rs : List (List Int)} {SF SB : IC} (h : ∀ k, (getC SF k).getD 0 - (getC SB k).getD 0 = dueAt way Rs k) (k : Str) :
    getC (diffC SF SB) k = getC (foldC (fun i => dueW.getD i (strT "")) (dueJ way Rs) ((List.range 4).filter fun i => dueJ way Rs i != 0)) k := by
  rw [diff_at, h k]
  have hw : ∀ i ∈ (List.range 4).filter (fun i => dueJ way Rs i != 0), i < 4 ∧ dueJ way Rs i ≠ 0 := fun i hi => by
    obtain ⟨h1, h2⟩ := List.mem_filter.mp hi
    exact ⟨List.mem_range.mp h1, by simpa using h2⟩
  have ex : ∀ i, i < 4 → dueAt way Rs (dueW.getD i (strT "")) = dueJ way Rs i := by
    have n1 : strT "b" ≠ strT "a" := by decide
    have n2 : strT "c" ≠ strT "a" := by decide
    have n3 : strT "c" ≠ strT "b" := by decide
    have n4 : strT "" ≠ strT "a" := by decide
    have n5 : strT "" ≠ strT "b" := by decide
    have n6 : strT "" ≠ strT "c" := by decide
    refine lt4 ?_ ?_ ?_ ?_
    · show dueAt way Rs (strT "a") = _; unfold dueAt; rw [if_pos rfl]
    · show dueAt way Rs (strT "b") = _; unfold dueAt; rw [if_neg n1, if_pos rfl]
    · show dueAt way Rs (strT "c") = _; unfold dueAt; rw [if_neg n2, if_neg n3, if_pos rfl]
    · show dueAt way Rs (strT "") = _; unfold dueAt; rw [if_neg n4, if_neg n5, if_neg n6, if_pos rfl]
  rw [getC_fold _ _ k (dueAt way Rs k) _ (fun i hi e => by rw [← e, ex i (hw i hi).1])]
  by_cases hd : dueAt way Rs k ≠ 0
  · rw [if_pos hd, if_pos]
    have hk : k = strT "a" ∨ k = strT "b" ∨ k = strT "c" ∨ k = strT "" := by
      unfold dueAt at hd
      by_cases h1 : k = strT "a"
      · exact .inl h1
      · by_cases h2 : k = strT "b"
        · exact .inr (.inl h2)
        · by_cases h3 : k = strT "c"
          · exact .inr (.inr (.inl h3))
          · by_cases h4 : k = strT ""
            · exact .inr (.inr (.inr h4))
            · rw [if_neg h1, if_neg h2, if_neg h3, if_neg h4] at hd; exact absurd rfl hd
    have fin : ∀ i, i < 4 → dueW.getD i (strT "") = k → ∃ a ∈ (List.range 4).filter (fun i => dueJ way Rs i != 0), dueW.getD a (strT "") = k := fun i hi e =>
      ⟨i, List.mem_filter.mpr ⟨List.mem_range.mpr hi, by rw [← ex i hi, e]; simpa using hd⟩, e⟩
    rcases hk with rfl | rfl | rfl | rfl
    · exact fin 0 (by decide) rfl
    · exact fin 1 (by decide) rfl
    · exact fin 2 (by decide) rfl
    · exact fin 3 (by decide) rfl
  · rw [if_neg hd, if_neg]
    rintro ⟨i, hi, e⟩
    have := hw i hi
    rw [← ex i this.1, e] at this
    exact hd this.2

theorem mend_good {kind : Int} {Rs : List (List Int)} (hl : Rs.length = 3) (hg : ∀ R ∈ Rs, GoodR R) : (mendOf kind Rs).length = 3 ∧ ∀ R ∈ mendOf kind Rs, GoodR R := by
  have hz : Trit 0 := .inr (.inl rfl)
  have hgd : ∀ i, i < 3 → Rs.getD i [] ∈ Rs := fun i hi => by
    rw [List.getD_eq_getElem?_getD, List.getElem?_eq_getElem (by omega)]; exact List.getElem_mem _
  have htr : ∀ i j, Trit ((Rs.getD i []).getD j 0) := fun i j => by
    by_cases hi : i < 3
    · exact getD_trit (hg _ (hgd i hi)) j
    · rw [List.getD_eq_getElem?_getD (l := Rs), List.getElem?_eq_none (by omega)]; simpa using hz
  unfold mendOf
  split
  · refine ⟨by simp [mend0], fun R hR => ?_⟩
    obtain ⟨i, hi, rfl⟩ := List.mem_map.mp hR
    have hi := List.mem_range.mp hi
    refine ⟨by rw [List.length_append, List.length_map, List.length_range, List.length_drop, (hg _ (hgd i hi)).1], fun v hv => ?_⟩
    rcases List.mem_append.mp hv with hv | hv
    · obtain ⟨j, _, rfl⟩ := List.mem_map.mp hv; exact htr _ _
    · exact (hg _ (hgd i hi)).2 v (List.mem_of_mem_drop hv)
  · refine ⟨by simp [mend1, hl], fun R hR => ?_⟩
    rcases List.mem_append.mp hR with hR | hR
    · obtain ⟨R', hR', rfl⟩ := List.mem_map.mp hR
      have hm := List.mem_of_mem_take hR'
      refine ⟨by simp [(hg _ hm).1], fun v hv => ?_⟩
      rcases List.mem_append.mp hv with hv | hv
      · rcases List.mem_append.mp hv with hv | hv
        · exact (hg _ hm).2 v (List.mem_of_mem_take hv)
        · rw [List.mem_singleton.mp hv]; exact hz
      · exact (hg _ hm).2 v (List.mem_of_mem_drop hv)
    · rw [List.mem_singleton.mp hR]
      refine ⟨rfl, fun v hv => ?_⟩
      simp at hv; rw [hv]; exact hz

/-- rows[i][j], both places literals or names -/
theorem eval_cell {s : Shared} {env : Env} {e1 e2 e3 : Expr} {p3 p5 : Pos} {i j : Nat} {a : Addr} {Rs : List (List Int)} {Q : Value → Shared → Prop} (hR : RowsAt s.heap a Rs) (hi : i < Rs.length) (hi9 : i ≤ 1000) (hg : ∀ R ∈ Rs, GoodR R) (hj : j < 4)
    (h1 : ∀ Q' : Value → Shared → Prop, Q' (.ref a) s → wpAny (model prog w) A (eval e1 env) Q' E s)
    (h2 : ∀ Q' : Value → Shared → Prop, (∀ t s', Keeps s s' → Q' (.int (i : Int) t) s') → wpAny (model prog w) A (eval e2 env) Q' E s)
    (h3 : ∀ s₁ (Q' : Value → Shared → Prop), Keeps s s₁ → (∀ t s', Keeps s₁ s' → Q' (.int (j : Int) t) s') → wpAny (model prog w) A (eval e3 env) Q' E s₁)
    (h : ∀ t s', Keeps s s' → Q (.int (cellOf Rs i j) t) s')
    (hs1 : ∀ {t : Tok}, subscripted e2 false (.ref a) (.int (i : Int) t) = operate [.ref a, .int (i : Int) t] (getItem (.ref a) (.int (i : Int) t)) := by intro _; with_unfolding_all rfl)
    (hs2 : ∀ {r : Addr} {t : Tok}, subscripted e3 false (.ref r) (.int (j : Int) t) = operate [.ref r, .int (j : Int) t] (getItem (.ref r) (.int (j : Int) t)) := by intro _ _; with_unfolding_all rfl) :
    wpAny (model prog w) A (eval (.Subscript (.Subscript e1 e2 p3) e3 p5) env) Q E s := by
  obtain ⟨items, r, hli, hri, hIL⟩ := rows_get hR hi
  have hgi : Rs.getD i [] ∈ Rs := by rw [List.getD_eq_getElem?_getD, List.getElem?_eq_getElem hi]; exact List.getElem_mem _
  refine Subscript_ (Subscript_ (h1 _ (h2 _ fun t1 s₁ k1 => ?_)))
  refine sub_ref (hli.at fun o e => keeps_le k1 _ _ e) hri hi9 ?_ hs1
  refine h3 s₁ _ k1 fun t2 s₂ k2 => ?_
  exact sub_il2 (hIL.le ((keeps_le k1).trans (keeps_le k2))) (by rw [(hg _ hgi).1]; omega) (by omega) (fun t3 => h t3 s₂ (keeps_trans k1 k2)) hs2

theorem fv_three {env : Env} {s : Shared} {h₁ : Heap} {tk : Nat} {m : Str → Option Value} {x : Str} {v : Value} {n1 n2 n3 : Str} {o1 o2 o3 : Obj} {v1 v2 v3 : Option Value} (F : Fr s.heap s.heap.objs.size h₁ m) (hL : env.locals = s.heap.objs.size)
    (hc : env.cells = [(n1, s.heap.objs.size + 1 + 1 + 1), (n2, s.heap.objs.size + 1 + 1), (n3, s.heap.objs.size + 1)])
    (N : News s.heap s.heap.objs.size h₁ [(s.heap.objs.size + 1 + 1 + 1, o1), (s.heap.objs.size + 1 + 1, o2), (s.heap.objs.size + 1, o3)]) (d1 : o1.data = .cell v1) (d2 : o2.data = .cell v2) (d3 : o3.data = .cell v3)
    (hm : m x = some v) (hn : ndB [n1, n2, n3, x] = true) (hk1 : env.kindOf n1 ≠ some .local) (hk2 : env.kindOf n2 ≠ some .local) (hk3 : env.kindOf n3 ≠ some .local) :
    Fv env s s.heap [] [(x, v)] { s with heap := h₁, toks := tk } := by
  have nd := ndB_nodup hn
  simp only [List.nodup_cons, List.mem_cons, List.not_mem_nil, or_false, not_or, not_false_eq_true, List.nodup_nil, and_true] at nd
  obtain ⟨⟨a1, a2, a3⟩, ⟨a4, a5⟩, a6⟩ := nd
  have cases3 : ∀ {n : Str} {c : Addr}, (n, c) ∈ env.cells → (n = n1 ∧ c = s.heap.objs.size + 1 + 1 + 1) ∨ (n = n2 ∧ c = s.heap.objs.size + 1 + 1) ∨ (n = n3 ∧ c = s.heap.objs.size + 1) := by
    intro n c h
    rw [hc] at h
    simpa using h
  have g1 := N _ List.mem_cons_self
  have g2 := N _ (List.mem_cons_of_mem _ List.mem_cons_self)
  have g3 := N _ (List.mem_cons_of_mem _ (List.mem_cons_of_mem _ List.mem_cons_self))
  have lk : ∀ {n : Str} {q : Value}, [(x, v)].lookup n = some q → n = x ∧ q = v := by
    intro n q e
    rw [List.lookup_cons] at e
    cases hb : n == x with
    | true => rw [hb] at e; cases e; exact ⟨by simpa using hb, rfl⟩
    | false => rw [hb] at e; cases e
  refine ⟨⟨h₁, tk, rfl⟩, ⟨m, hL ▸ F.ns, fun y q e _ => ?_⟩, fun n c e => ?_, ?_, ?_, fun n c hmem => ?_, fun n c hmem => ?_, Le.refl _, F.keep, by rw [hL]; exact Nat.le_refl _, by rw [hL]; exact get_size _, fun n c hmem => ?_, fun p hp => nomatch hp⟩
  · obtain ⟨rfl, rfl⟩ := lk e; exact hm
  · rcases cases3 (mem_of_lookup e) with ⟨rfl, rfl⟩ | ⟨rfl, rfl⟩ | ⟨rfl, rfl⟩
    · exact ⟨v1, ⟨_, g1.1, d1⟩, fun q eq => absurd (lk eq).1 a3⟩
    · exact ⟨v2, ⟨_, g2.1, d2⟩, fun q eq => absurd (lk eq).1 a5⟩
    · exact ⟨v3, ⟨_, g3.1, d3⟩, fun q eq => absurd (lk eq).1 a6⟩
  · rw [hc]; simp
    exact fun e => by have e : (s.heap.objs.size : Nat) + 2 = s.heap.objs.size := e; omega
  · rw [hc]; simp [a1, a2, a4]
  · rcases cases3 hmem with ⟨rfl, rfl⟩ | ⟨rfl, rfl⟩ | ⟨rfl, rfl⟩
    · exact hk1
    · exact hk2
    · exact hk3
  · rw [hL]
    rcases cases3 hmem with ⟨rfl, rfl⟩ | ⟨rfl, rfl⟩ | ⟨rfl, rfl⟩
    · exact Nat.lt_succ_of_lt (Nat.lt_succ_of_lt (Nat.lt_succ_self _))
    · exact Nat.lt_succ_of_lt (Nat.lt_succ_self _)
    · exact Nat.lt_succ_self _
  · rcases cases3 hmem with ⟨rfl, rfl⟩ | ⟨rfl, rfl⟩ | ⟨rfl, rfl⟩
    · exact g1.2.2
    · exact g2.2.2
    · exact g3.2.2
end Mine

-- part: M0
set_option maxHeartbeats 1000000
namespace Mine
open PySem PySem.W PyProof.Rows

noncomputable def wsum (φ : Str → Int) (c : IC) : Int := (c.map fun p => p.2 * φ p.1).sum
noncomputable def meas (μ : Str → Nat) (c : IC) : Nat := (c.map fun p => μ p.1).sum

theorem wsum_nil (φ : Str → Int) : wsum φ [] = 0 := rfl
theorem wsum_cons (φ : Str → Int) (p : Str × Int) (c : IC) : wsum φ (p :: c) = p.2 * φ p.1 + wsum φ c := by simp [wsum]
theorem wsum_app (φ : Str → Int) (c d : IC) : wsum φ (c ++ d) = wsum φ c + wsum φ d := by simp [wsum, List.sum_append]
theorem meas_cons (μ : Str → Nat) (p : Str × Int) (c : IC) : meas μ (p :: c) = μ p.1 + meas μ c := by simp [meas]
theorem meas_app (μ : Str → Nat) (c d : IC) : meas μ (c ++ d) = meas μ c + meas μ d := by simp [meas, List.sum_append]

theorem any_keys {c : IC} {k : Str} : (c.any fun p => decide (p.1 = k)) = true ↔ k ∈ c.map (·.1) := by
  rw [List.any_eq_true, List.mem_map]
  constructor
  · rintro ⟨p, hp, e⟩; exact ⟨p, hp, by simpa using e⟩
  · rintro ⟨p, hp, e⟩; exact ⟨p, hp, by simpa using e⟩

theorem put_there {c : IC} {k : Str} {v : Int} (hn : (c.map (·.1)).Nodup) (hk : k ∈ c.map (·.1)) (φ : Str → Int) (μ : Str → Nat) :
    (putC c k v).map (·.1) = c.map (·.1) ∧ wsum φ (putC c k v) = wsum φ c - (getC c k).getD 0 * φ k + v * φ k ∧ meas μ (putC c k v) = meas μ c := by
  unfold putC
  rw [if_pos (any_keys.mpr hk)]
  induction c with
  | nil => cases hk
  | cons p c ih =>
    rw [List.map_cons, List.nodup_cons] at hn
    rw [List.map_cons, List.map_cons, List.map_cons]
    by_cases e : p.1 = k
    · have hk' : k ∉ c.map (·.1) := e ▸ hn.1
      have hm : c.map (fun p => if p.1 = k then (p.1, v) else p) = c := by
        refine (List.map_congr_left (g := fun p => p) fun q hq => ?_).trans (List.map_id' c)
        rw [if_neg]; rintro rfl; exact hk' (List.mem_map.mpr ⟨q, hq, rfl⟩)
      rw [hm, if_pos e, wsum_cons, wsum_cons, meas_cons, meas_cons]
      have hg : getC (p :: c) k = some p.2 := by unfold getC; simp [e]
      rw [hg]
      refine ⟨rfl, ?_, rfl⟩
      simp only [Option.getD_some]
      rw [e]; omega
    · have hk' : k ∈ c.map (·.1) := by
        rw [List.map_cons] at hk
        rcases List.mem_cons.mp hk with h | h
        · exact absurd h.symm e
        · exact h
      obtain ⟨h1, h2, h3⟩ := ih hn.2 hk'
      have hg : getC (p :: c) k = getC c k := by unfold getC; simp [e]
      rw [if_neg e, h1, wsum_cons, wsum_cons, meas_cons, meas_cons, h2, h3, hg]
      exact ⟨rfl, by omega, rfl⟩

theorem put_new {c : IC} {k : Str} {v : Int} (hk : k ∉ c.map (·.1)) (φ : Str → Int) (μ : Str → Nat) :
    (putC c k v).map (·.1) = c.map (·.1) ++ [k] ∧ wsum φ (putC c k v) = wsum φ c + v * φ k ∧ meas μ (putC c k v) = meas μ c + μ k := by
  rw [putC_fresh hk, List.map_append, wsum_app, meas_app]
  exact ⟨rfl, by simp [wsum], by simp [meas]⟩

theorem get_none {c : IC} {k : Str} (hk : k ∉ c.map (·.1)) : getC c k = none := by
  cases h : getC c k with
  | none => rfl
  | some v => exact absurd (getC_mem h) hk

theorem addStep_ok {c : IC} {p : Str × Int} (hn : (c.map (·.1)).Nodup) (φ : Str → Int) (μ : Str → Nat) :
    ((addStep c p).map (·.1)).Nodup ∧ wsum φ (addStep c p) = wsum φ c + p.2 * φ p.1 ∧ meas μ (addStep c p) ≤ meas μ c + μ p.1 := by
  unfold addStep
  by_cases hk : p.1 ∈ c.map (·.1)
  · have hg := getC_key hk
    obtain ⟨h1, h2, h3⟩ := put_there (v := addVal c p.1 p.2) hn hk φ μ
    have e : addVal c p.1 p.2 = (getC c p.1).getD 0 + p.2 := by
      unfold addVal; rw [hg]; rfl
    rw [h1, h2, h3, e]
    refine ⟨hn, ?_, Nat.le_add_right _ _⟩
    rw [Int.add_mul]; omega
  · obtain ⟨h1, h2, h3⟩ := put_new (v := addVal c p.1 p.2) hk φ μ
    have e : addVal c p.1 p.2 = p.2 := by
      unfold addVal; rw [get_none hk]
    rw [h1, h2, h3, e]
    refine ⟨?_, rfl, Nat.le_refl _⟩
    exact List.nodup_append.mpr ⟨hn, List.nodup_cons.mpr ⟨List.not_mem_nil, List.nodup_nil⟩, fun a ha b hb => by rw [List.mem_singleton.mp hb]; rintro rfl; exact hk ha⟩

theorem addC_ok {t u : IC} (hn : (t.map (·.1)).Nodup) (φ : Str → Int) (μ : Str → Nat) :
    ((addC t u).map (·.1)).Nodup ∧ wsum φ (addC t u) = wsum φ t + wsum φ u ∧ meas μ (addC t u) ≤ meas μ t + meas μ u := by
  have h0 : t.foldl putP [] = t := by
    have := foldC_nodup (fun p : Str × Int => p.1) (fun p => p.2) t hn
    unfold foldC at this
    have e : t.foldl putP [] = t.foldl (fun acc a => putC acc a.1 a.2) [] := rfl
    rw [e, this]; simp
  unfold addC
  rw [h0]
  have key : ∀ (u c : IC), (c.map (·.1)).Nodup → ((u.foldl addStep c).map (·.1)).Nodup ∧ wsum φ (u.foldl addStep c) = wsum φ c + wsum φ u ∧ meas μ (u.foldl addStep c) ≤ meas μ c + meas μ u := by
    intro u
    induction u with
    | nil => intro c hc; exact ⟨hc, by simp [wsum_nil], by simp [meas]⟩
    | cons p u ih =>
      intro c hc
      obtain ⟨h1, h2, h3⟩ := addStep_ok (p := p) hc φ μ
      obtain ⟨h4, h5, h6⟩ := ih _ h1
      rw [List.foldl_cons]
      refine ⟨h4, ?_, ?_⟩
      · rw [h5, h2, wsum_cons]; omega
      · rw [meas_cons]; omega
  exact key u t hn

theorem filter_key (φ : Str → Int) (μ : Str → Nat) (q : Str → Bool) : ∀ (c : IC), wsum φ c = wsum φ (c.filter fun p => q p.1) + wsum φ (c.filter fun p => !q p.1) ∧ meas μ c = meas μ (c.filter fun p => q p.1) + meas μ (c.filter fun p => !q p.1)
  | [] => ⟨rfl, rfl⟩
  | p :: c => by
    obtain ⟨h1, h2⟩ := filter_key φ μ q c
    cases hq : q p.1 with
    | true => simp only [List.filter_cons, hq, if_true, Bool.not_true, Bool.false_eq_true, if_false, wsum_cons, meas_cons]; exact ⟨by rw [h1, Int.add_assoc], by rw [h2, Nat.add_assoc]⟩
    | false => simp only [List.filter_cons, hq, Bool.not_false, if_true, Bool.false_eq_true, if_false, wsum_cons, meas_cons]; exact ⟨by rw [h1, Int.add_left_comm], by rw [h2, Nat.add_left_comm]⟩

theorem only_key {c : IC} {k : Str} {v : Int} (hn : (c.map (·.1)).Nodup) (h : getC c k = some v) : (c.filter fun p => !(p.1 != k)) = [(k, v)] := by
  induction c with
  | nil => cases h
  | cons p c ih =>
    rw [List.map_cons, List.nodup_cons] at hn
    by_cases e : p.1 = k
    · have hg : getC (p :: c) k = some p.2 := by unfold getC; simp [e]
      rw [hg] at h; cases h
      have : (c.filter fun p => !(p.1 != k)) = [] := List.filter_eq_nil_iff.mpr fun q hq => by
        have : q.1 ≠ k := by rintro rfl; exact hn.1 (e ▸ List.mem_map.mpr ⟨q, hq, rfl⟩)
        simp [this]
      rw [List.filter_cons, this]
      have e2 : (!(p.1 != k)) = true := by simp [e]
      rw [if_pos e2, ← e]
    · have hg : getC (p :: c) k = getC c k := by unfold getC; simp [e]
      rw [hg] at h
      have e2 : ¬ (!(p.1 != k)) = true := by simp [e]
      rw [List.filter_cons, if_neg e2]; exact ih hn.2 h

/-- where a word gives way, and to what -/
inductive StepAt (c : Cfg) (U : Str → Prop) (μ : Str → Nat) (φ : Str → Str → Int) (w : Str) : Prop
  | mk (place : Nat) (rule : IC) (_ : (if c.last then ((List.range (w.length - 1)).filter fun (k : Nat) => (lookR c.rl (Txt.slice w (some (k : Int)) (some ((k : Int) + 2)))).isSome).getLast?
      else ((List.range (w.length - 1)).filter fun (k : Nat) => (lookR c.rl (Txt.slice w (some (k : Int)) (some ((k : Int) + 2)))).isSome).head?) = some place)
    (_ : lookR c.rl (Txt.slice w (some (place : Int)) (some ((place : Int) + 2))) = some rule) (_ : 1 ≤ w.length)
    (_ : (rule.map fun p => Txt.slice w none (some (place : Int)) ++ p.1 ++ Txt.slice w (some ((place : Int) + 2)) none).Nodup)
    (_ : ∀ p ∈ rule, U (Txt.slice w none (some (place : Int)) ++ p.1 ++ Txt.slice w (some ((place : Int) + 2)) none))
    (_ : 1 + (rule.map fun p => μ (Txt.slice w none (some (place : Int)) ++ p.1 ++ Txt.slice w (some ((place : Int) + 2)) none)).sum ≤ μ w)
    (_ : ∀ t, φ t w = (rule.map fun p => p.2 * φ t (Txt.slice w none (some (place : Int)) ++ p.1 ++ Txt.slice w (some ((place : Int) + 2)) none)).sum)

theorem lin1 {w s s1 f f1 f2 : Int} (h1 : 0 = w + f1) (h2 : s1 = s + f2) (hk : f = f1 + f2) : s1 = w + s + f := by omega
theorem lin2 {mW mF n f1 f2 mW1 x mu sm o : Nat} (hm : mW + mF < n + 1) (km : mF = f1 + f2) (haw : mW1 ≤ mW + f1) (hm1 : mW1 = x + o) (hmo : o = mu) (hmu : 1 + sm ≤ mu) : x + sm < n := by omega
theorem lin3 {w f s s1 w1 x o r q f1 f2 : Int} (h1 : w1 = w + f1) (h2 : s1 = s + f2) (h3 : w1 = x + o) (h4 : o = q) (h5 : r = q) (hk : f = f1 + f2) : x + s1 + r = w + s + f := by omega
theorem run_ok {c : Cfg} {U : Str → Prop} {μ : Str → Nat} {φ : Str → Str → Int} (hok : ∀ w, U w → c.okW w = true) (hst : ∀ w, U w → c.apW w = true → StepAt c U μ φ w) (hfin : ∀ ks : List Str, ks.Nodup → (∀ k ∈ ks, U k) → ks.length ≤ 1000) :
    ∀ (n : Nat) (W S F : IC), (W.map (·.1)).Nodup → (S.map (·.1)).Nodup → (F.map (·.1)).Nodup → (∀ k ∈ W.map (·.1), U k ∧ c.apW k = true) → (∀ k ∈ S.map (·.1), U k ∧ c.apW k = false) → (∀ k ∈ F.map (·.1), U k) → meas μ W + meas μ F < n →
      ∃ S', run c n W S F = some S' ∧ (S'.map (·.1)).Nodup ∧ (∀ k ∈ S'.map (·.1), U k ∧ c.apW k = false) ∧ ∀ t, wsum (φ t) S' = wsum (φ t) W + wsum (φ t) S + wsum (φ t) F := by
  intro n
  induction n with
  | zero => intro W S F _ _ _ _ _ _ h; exact absurd h (Nat.not_lt_zero _)
  | succ n ih =>
    intro W S F hW hS hF uW uS uF hm
    have hgd : gd c W S F = true := by
      unfold gd
      simp only [Bool.and_eq_true, List.all_eq_true, decide_eq_true_eq]
      refine ⟨⟨fun p hp => hok _ (uF _ (List.mem_map.mpr ⟨p, hp, rfl⟩)), fun p hp => hok _ (uW _ (List.mem_map.mpr ⟨p, hp, rfl⟩)).1⟩, ?_⟩
      have h1 := hfin _ hW fun k hk => (uW k hk).1
      have h2 := hfin _ hS fun k hk => (uS k hk).1
      have h3 := hfin _ hF uF
      rw [List.length_map] at h1 h2 h3
      exact Nat.le_trans (Nat.add_le_add (Nat.add_le_add h1 h2) h3) (by decide)
    have hcg : ∀ p ∈ F, isIn (caughtL c S F) p.1 = c.apW p.1 := by
      intro p hp
      have hpm : p.1 ∈ F.map (·.1) := List.mem_map.mpr ⟨p, hp, rfl⟩
      unfold isIn caughtL
      cases ha : c.apW p.1 with
      | true =>
        rw [List.any_eq_true]
        refine ⟨p.1, List.mem_filter.mpr ⟨hpm, ?_⟩, by simp⟩
        have : hasC S p.1 = false := by
          cases hs : hasC S p.1 with
          | false => rfl
          | true =>
            have := (uS p.1 (any_keys.mp hs)).2
            rw [ha] at this; cases this
        rw [this, ha]; rfl
      | false =>
        rw [List.any_eq_false]
        intro k hk
        have := (List.mem_filter.mp hk).2
        simp only [beq_iff_eq]
        rintro rfl
        rw [ha] at this; simp at this
    have f1 : (F.filter fun p => isIn (caughtL c S F) p.1) = F.filter fun p => c.apW p.1 := List.filter_congr hcg
    have f2 : (F.filter fun p => !isIn (caughtL c S F) p.1) = F.filter fun p => !c.apW p.1 := List.filter_congr fun p hp => by rw [hcg p hp]
    unfold run
    rw [if_pos hgd, f1, f2]
    dsimp only
    have kk : ∀ t, wsum (φ t) F = wsum (φ t) (F.filter fun p => c.apW p.1) + wsum (φ t) (F.filter fun p => !c.apW p.1) := fun t => (filter_key (φ t) μ c.apW F).1
    have km := (filter_key (φ (strT "")) μ c.apW F).2
    have uW1 : ∀ k ∈ (addC W (F.filter fun p => c.apW p.1)).map (·.1), U k ∧ c.apW k = true := fun k hk => by
      rcases keys_addC hk with h | h
      · exact uW k h
      · obtain ⟨p, hp, rfl⟩ := List.mem_map.mp h
        obtain ⟨h1, h2⟩ := List.mem_filter.mp hp
        exact ⟨uF _ (List.mem_map.mpr ⟨p, h1, rfl⟩), by simpa using h2⟩
    have uS1 : ∀ k ∈ (addC S (F.filter fun p => !c.apW p.1)).map (·.1), U k ∧ c.apW k = false := fun k hk => by
      rcases keys_addC hk with h | h
      · exact uS k h
      · obtain ⟨p, hp, rfl⟩ := List.mem_map.mp h
        obtain ⟨h1, h2⟩ := List.mem_filter.mp hp
        exact ⟨uF _ (List.mem_map.mpr ⟨p, h1, rfl⟩), by simpa using h2⟩
    have aW := fun φ' => addC_ok (u := F.filter fun p => c.apW p.1) hW φ' μ
    have aS := fun φ' => addC_ok (u := F.filter fun p => !c.apW p.1) hS φ' μ
    generalize addC W (F.filter fun p => c.apW p.1) = W1 at uW1 aW ⊢
    generalize addC S (F.filter fun p => !c.apW p.1) = S1 at uS1 aS ⊢
    have hW1 := (aW (φ (strT ""))).1
    have hS1 := (aS (φ (strT ""))).1
    by_cases he : W1 = []
    · rw [if_pos he]
      refine ⟨S1, rfl, hS1, uS1, fun t => ?_⟩
      have h1 := (aW (φ t)).2.1
      have h2 := (aS (φ t)).2.1
      rw [he, wsum_nil] at h1
      exact lin1 h1 h2 (kk t)
    rw [if_neg he]
    obtain ⟨k0, hk0⟩ : ∃ k, k ∈ W1.map (·.1) := by
      cases W1 with
      | nil => exact absurd rfl he
      | cons p r => exact ⟨p.1, List.mem_cons_self⟩
    have hlenW : ∀ k ∈ W1.map (·.1), 1 ≤ k.length := fun k hk => by
      obtain ⟨_, _, _, _, h, _, _, _, _⟩ := hst k (uW1 k hk).1 (uW1 k hk).2; exact h
    have hpos : 1 ≤ maxLen (W1.map (·.1)) := by
      have h1 := (le_maxLen (W1.map (·.1)) 0).2 k0 hk0
      have h2 := hlenW k0 hk0
      exact Nat.le_trans h2 h1
    rw [if_pos hpos]
    obtain ⟨k1, hk1, hk1l⟩ : ∃ k ∈ W1.map (·.1), k.length = maxLen (W1.map (·.1)) := by
      rcases maxLen_mem (W1.map (·.1)) 0 with h | h
      · rw [show maxLen (W1.map (·.1)) = 0 from h] at hpos; cases hpos
      · exact h
    cases hfl : (W1.map (·.1)).filter fun k => k.length == maxLen (W1.map (·.1)) with
    | nil =>
      have : k1 ∈ (W1.map (·.1)).filter fun k => k.length == maxLen (W1.map (·.1)) := List.mem_filter.mpr ⟨hk1, by simp [hk1l]⟩
      rw [hfl] at this; cases this
    | cons first rest =>
      have hfm : first ∈ W1.map (·.1) ∧ first.length = maxLen (W1.map (·.1)) := by
        have : first ∈ (W1.map (·.1)).filter fun k => k.length == maxLen (W1.map (·.1)) := by rw [hfl]; exact List.mem_cons_self
        obtain ⟨h1, h2⟩ := List.mem_filter.mp this
        exact ⟨h1, by simpa using h2⟩
      dsimp only
      rw [← hfm.2]
      obtain ⟨place, rule, hp, hr, _, hnd, hu, hmu, hphi⟩ := hst first (uW1 first hfm.1).1 (uW1 first hfm.1).2
      simp only [hp, hr]
      have hg := getC_key hfm.1
      generalize hv : (getC W1 first).getD 0 = v at hg ⊢
      have hfold : foldC (fun p : Str × Int => Txt.slice first none (some (place : Int)) ++ p.1 ++ Txt.slice first (some ((place : Int) + 2)) none) (fun p => v * p.2) rule =
          rule.map fun p => (Txt.slice first none (some (place : Int)) ++ p.1 ++ Txt.slice first (some ((place : Int) + 2)) none, v * p.2) := foldC_nodup _ _ _ hnd
      rw [hfold]
      have hmF : meas μ (rule.map fun p => (Txt.slice first none (some (place : Int)) ++ p.1 ++ Txt.slice first (some ((place : Int) + 2)) none, v * p.2)) = (rule.map fun p => μ (Txt.slice first none (some (place : Int)) ++ p.1 ++ Txt.slice first (some ((place : Int) + 2)) none)).sum := by
        unfold meas; rw [List.map_map]; rfl
      have hfil := fun φ' => filter_key φ' μ (fun k => k != first) W1
      have honly := only_key hW1 hg
      have hm1 := (hfil (φ (strT ""))).2
      have haw := (aW (φ (strT ""))).2.2
      rw [honly] at hm1
      have hmo : meas μ [(first, v)] = μ first := by simp [meas]
      obtain ⟨S', e1, e2, e3, e4⟩ := ih (W1.filter fun p => p.1 != first) S1 (rule.map fun p => (Txt.slice first none (some (place : Int)) ++ p.1 ++ Txt.slice first (some ((place : Int) + 2)) none, v * p.2))
        ((List.filter_sublist.map _).nodup hW1) hS1 (by rw [List.map_map]; exact hnd) (fun k hk => uW1 k ((List.filter_sublist.map _).subset hk)) uS1 (fun k hk => by
          rw [List.map_map] at hk
          obtain ⟨p, hp, rfl⟩ := List.mem_map.mp hk
          exact hu p hp) (by rw [hmF]; exact lin2 hm km haw hm1 hmo hmu)
      refine ⟨S', e1, e2, e3, fun t => ?_⟩
      rw [e4 t]
      have h1 := (aW (φ t)).2.1
      have h2 := (aS (φ t)).2.1
      have h3 := (hfil (φ t)).1
      rw [honly] at h3
      have h4 : wsum (φ t) [(first, v)] = v * φ t first := by simp [wsum]
      have h5 : wsum (φ t) (rule.map fun p => (Txt.slice first none (some (place : Int)) ++ p.1 ++ Txt.slice first (some ((place : Int) + 2)) none, v * p.2)) = v * φ t first := by
        rw [hphi t]
        unfold wsum
        rw [List.map_map]
        generalize rule = rr
        induction rr with
        | nil => simp
        | cons q rr ihh => simp only [List.map_cons, List.sum_cons, ihh, Function.comp, Int.mul_add, Int.mul_assoc]
      exact lin3 h1 h2 h3 h4 h5 (kk t)
end Mine

-- part: MTab
set_option maxHeartbeats 1000000
namespace Mine
open PySem PySem.W PyProof.Rows

noncomputable def wdsP : List (List Nat) := [[97, 97, 98, 99], [97, 98, 98, 99], [97, 98, 99, 99], [97, 97, 99, 98], [97, 98, 97, 99], [97, 98, 99, 98], [97, 99, 98, 99], [98, 97, 98, 99], [98, 97, 99, 99], [97, 98, 99, 97], [97, 99, 97, 98], [97, 99, 98, 98], [97, 99, 99, 98], [98, 97, 97, 99], [98, 97, 99, 98], [98, 98, 97, 99], [98, 99, 97, 99], [99, 97, 98, 99], [97, 99, 98, 97], [98, 97, 99, 97], [98, 98, 99, 97], [98, 99, 97, 98], [98, 99, 99, 97], [99, 97, 97, 98], [99, 97, 98, 98], [99, 97, 99, 98], [99, 98, 97, 99], [98, 99, 97, 97], [98, 99, 98, 97], [99, 97, 98, 97], [99, 98, 97, 98], [99, 98, 99, 97], [99, 99, 97, 98], [99, 98, 97, 97], [99, 98, 98, 97], [99, 99, 98, 97], [97, 98, 99], [97, 97, 98], [97, 97, 99], [97, 98, 98], [97, 99, 98], [97, 99, 99], [98, 97, 99], [98, 98, 99], [98, 99, 99], [97, 98, 97], [97, 99, 97], [98, 97, 98], [98, 99, 97], [98, 99, 98], [99, 97, 98], [99, 97, 99], [99, 98, 99], [97, 97, 97], [98, 97, 97], [98, 98, 97], [98, 98, 98], [99, 97, 97], [99, 98, 97], [99, 98, 98], [99, 99, 97], [99, 99, 98], [99, 99, 99], [97, 98], [97, 99], [98, 99], [97, 97], [98, 97], [98, 98], [99, 97], [99, 98], [99, 99], [97], [98], [99], []]
noncomputable def wdsM : List (List Nat) := [[99, 98, 97, 97], [99, 98, 98, 97], [99, 99, 98, 97], [98, 99, 97, 97], [98, 99, 98, 97], [99, 97, 98, 97], [99, 98, 97, 98], [99, 98, 99, 97], [99, 99, 97, 98], [97, 99, 98, 97], [98, 97, 99, 97], [98, 98, 99, 97], [98, 99, 97, 98], [98, 99, 99, 97], [99, 97, 97, 98], [99, 97, 98, 98], [99, 97, 99, 98], [99, 98, 97, 99], [97, 98, 99, 97], [97, 99, 97, 98], [97, 99, 98, 98], [97, 99, 99, 98], [98, 97, 97, 99], [98, 97, 99, 98], [98, 98, 97, 99], [98, 99, 97, 99], [99, 97, 98, 99], [97, 97, 99, 98], [97, 98, 97, 99], [97, 98, 99, 98], [97, 99, 98, 99], [98, 97, 98, 99], [98, 97, 99, 99], [97, 97, 98, 99], [97, 98, 98, 99], [97, 98, 99, 99], [99, 98, 97], [98, 97, 97], [98, 98, 97], [98, 99, 97], [99, 97, 97], [99, 97, 98], [99, 98, 98], [99, 99, 97], [99, 99, 98], [97, 98, 97], [97, 99, 97], [97, 99, 98], [98, 97, 98], [98, 97, 99], [98, 99, 98], [99, 97, 99], [99, 98, 99], [97, 97, 97], [97, 97, 98], [97, 97, 99], [97, 98, 98], [97, 98, 99], [97, 99, 99], [98, 98, 98], [98, 98, 99], [98, 99, 99], [99, 99, 99], [98, 97], [99, 97], [99, 98], [97, 97], [97, 98], [97, 99], [98, 98], [98, 99], [99, 99], [97], [98], [99], []]
noncomputable def tabPF : List (Option (Nat × Nat × List Nat)) := [some (1, 2, [4, 38, 36, 41, 64]), some (0, 2, [7, 36, 43, 52, 65]), some (0, 2, [8, 41, 44, 62, 71]), some (1, 1, [10, 37, 39, 40, 63]), some (0, 2, [13, 38, 42, 51, 64]), some (0, 2, [14, 40, 49, 61, 70]), some (0, 1, [17, 36, 43, 52, 65]), some (1, 2, [15, 42, 43, 44, 65]), some (1, 1, [16, 42, 43, 44, 65]), some (0, 2, [19, 46, 48, 60, 69]), some (0, 1, [23, 37, 47, 50, 63]), some (0, 1, [24, 39, 56, 59, 68]), some (0, 1, [25, 40, 49, 61, 70]), some (2, 1, [19, 54, 47, 42, 67]), some (1, 1, [21, 47, 56, 49, 68]), some (2, 1, [20, 55, 56, 43, 68]), some (0, 0, [26, 38, 42, 51, 64]), some (1, 2, [26, 51, 52, 62, 71]), some (0, 1, [29, 45, 55, 58, 67]), some (1, 1, [27, 54, 55, 48, 67]), some (1, 0, [28, 54, 55, 48, 67]), some (0, 0, [30, 37, 47, 50, 63]), some (0, 0, [31, 46, 48, 60, 69]), some (2, 2, [29, 57, 50, 51, 69]), some (1, 2, [30, 50, 59, 61, 70]), some (1, 1, [32, 50, 59, 61, 70]), some (2, 1, [31, 58, 59, 52, 70]), some (0, 0, [33, 53, 54, 57, 66]), some (0, 0, [34, 45, 55, 58, 67]), some (1, 2, [33, 57, 58, 60, 69]), some (2, 2, [34, 58, 59, 52, 70]), some (1, 0, [35, 57, 58, 60, 69]), some (2, 2, [35, 60, 61, 62, 71]), none, none, none, some (0, 2, [42, 64, 65, 71, 74]), some (1, 2, [45, 66, 63, 64, 72]), some (1, 1, [46, 66, 63, 64, 72]), some (0, 2, [47, 63, 68, 70, 73]), some (0, 1, [50, 63, 68, 70, 73]), some (0, 1, [51, 64, 65, 71, 74]), some (1, 1, [48, 67, 68, 65, 73]), some (1, 0, [49, 67, 68, 65, 73]), some (0, 0, [52, 64, 65, 71, 74]), some (0, 2, [54, 66, 67, 69, 72]), some (0, 1, [57, 66, 67, 69, 72]), some (1, 2, [55, 67, 68, 65, 73]), some (0, 0, [58, 66, 67, 69, 72]), some (0, 0, [59, 63, 68, 70, 73]), some (1, 2, [58, 69, 70, 71, 74]), some (1, 1, [60, 69, 70, 71, 74]), some (1, 0, [61, 69, 70, 71, 74]), none, none, none, none, none, none, none, none, none, none, some (0, 2, [67, 72, 73, 74, 75]), some (0, 1, [69, 72, 73, 74, 75]), some (0, 0, [70, 72, 73, 74, 75]), none, none, none, none, none, none, none, none, none, none]
noncomputable def muPF : List Nat := [35, 35, 35, 26, 19, 22, 19, 22, 26, 6, 13, 9, 9, 9, 16, 9, 13, 6, 3, 3, 4, 11, 4, 4, 4, 3, 3, 1, 2, 1, 2, 1, 1, 0, 0, 0, 6, 4, 4, 4, 3, 4, 3, 4, 4, 1, 1, 2, 1, 2, 1, 1, 1, 0, 0, 0, 0, 0, 0, 0, 0, 0, 0, 1, 1, 1, 0, 0, 0, 0, 0, 0, 0, 0, 0, 0]
noncomputable def tabPB : List (Option (Nat × Nat × List Nat)) := [some (2, 0, [3, 53, 37, 38, 66]), some (2, 0, [5, 45, 39, 36, 63]), some (1, 0, [6, 38, 36, 41, 64]), some (1, 1, [10, 37, 39, 40, 63]), some (2, 1, [9, 45, 39, 36, 63]), some (1, 0, [11, 37, 39, 40, 63]), some (2, 0, [12, 46, 40, 41, 64]), some (2, 0, [14, 54, 47, 42, 67]), some (1, 1, [16, 42, 43, 44, 65]), some (1, 0, [18, 53, 45, 46, 66]), some (2, 2, [18, 46, 40, 41, 64]), some (0, 1, [24, 39, 56, 59, 68]), some (0, 1, [25, 40, 49, 61, 70]), some (2, 1, [19, 54, 47, 42, 67]), some (1, 1, [21, 47, 56, 49, 68]), some (2, 1, [20, 55, 56, 43, 68]), some (2, 1, [22, 48, 49, 44, 65]), some (2, 0, [25, 57, 50, 51, 69]), some (0, 1, [29, 45, 55, 58, 67]), some (1, 1, [27, 54, 55, 48, 67]), some (1, 0, [28, 54, 55, 48, 67]), some (2, 2, [28, 48, 49, 44, 65]), some (0, 0, [31, 46, 48, 60, 69]), some (2, 2, [29, 57, 50, 51, 69]), some (1, 2, [30, 50, 59, 61, 70]), some (1, 1, [32, 50, 59, 61, 70]), some (2, 1, [31, 58, 59, 52, 70]), some (0, 0, [33, 53, 54, 57, 66]), some (0, 0, [34, 45, 55, 58, 67]), some (1, 2, [33, 57, 58, 60, 69]), some (2, 2, [34, 58, 59, 52, 70]), some (1, 0, [35, 57, 58, 60, 69]), some (2, 2, [35, 60, 61, 62, 71]), none, none, none, some (1, 0, [40, 66, 63, 64, 72]), some (1, 2, [45, 66, 63, 64, 72]), some (1, 1, [46, 66, 63, 64, 72]), some (0, 2, [47, 63, 68, 70, 73]), some (0, 1, [50, 63, 68, 70, 73]), some (0, 1, [51, 64, 65, 71, 74]), some (1, 1, [48, 67, 68, 65, 73]), some (1, 0, [49, 67, 68, 65, 73]), some (0, 0, [52, 64, 65, 71, 74]), some (0, 2, [54, 66, 67, 69, 72]), some (0, 1, [57, 66, 67, 69, 72]), some (1, 2, [55, 67, 68, 65, 73]), some (0, 0, [58, 66, 67, 69, 72]), some (0, 0, [59, 63, 68, 70, 73]), some (1, 2, [58, 69, 70, 71, 74]), some (1, 1, [60, 69, 70, 71, 74]), some (1, 0, [61, 69, 70, 71, 74]), none, none, none, none, none, none, none, none, none, none, some (0, 2, [67, 72, 73, 74, 75]), some (0, 1, [69, 72, 73, 74, 75]), some (0, 0, [70, 72, 73, 74, 75]), none, none, none, none, none, none, none, none, none, none]
noncomputable def muPB : List Nat := [35, 35, 35, 26, 19, 22, 19, 22, 26, 6, 13, 9, 9, 9, 16, 9, 13, 6, 3, 3, 4, 11, 4, 4, 4, 3, 3, 1, 2, 1, 2, 1, 1, 0, 0, 0, 6, 4, 4, 4, 3, 4, 3, 4, 4, 1, 1, 2, 1, 2, 1, 1, 1, 0, 0, 0, 0, 0, 0, 0, 0, 0, 0, 1, 1, 1, 0, 0, 0, 0, 0, 0, 0, 0, 0, 0]
noncomputable def tabMF : List (Option (Nat × Nat × List Nat)) := [some (0, 0, [3, 53, 37, 40, 66]), some (0, 0, [4, 45, 38, 36, 63]), some (1, 0, [7, 40, 36, 43, 64]), some (1, 1, [10, 37, 38, 39, 63]), some (1, 0, [11, 37, 38, 39, 63]), some (0, 1, [9, 45, 38, 36, 63]), some (0, 0, [12, 54, 48, 41, 67]), some (0, 0, [13, 46, 39, 43, 64]), some (1, 1, [16, 41, 42, 44, 65]), some (1, 0, [18, 53, 45, 46, 66]), some (0, 2, [18, 46, 39, 43, 64]), some (2, 1, [24, 38, 59, 60, 69]), some (1, 1, [23, 48, 59, 50, 69]), some (2, 1, [25, 39, 50, 61, 70]), some (0, 1, [19, 54, 48, 41, 67]), some (0, 1, [20, 56, 59, 42, 69]), some (0, 1, [21, 47, 50, 44, 65]), some (0, 0, [25, 55, 49, 51, 68]), some (2, 1, [28, 45, 56, 57, 67]), some (1, 1, [27, 54, 56, 47, 67]), some (1, 0, [29, 54, 56, 47, 67]), some (2, 0, [30, 46, 47, 58, 68]), some (0, 2, [28, 55, 49, 51, 68]), some (0, 2, [29, 47, 50, 44, 65]), some (1, 2, [31, 49, 60, 61, 70]), some (1, 1, [32, 49, 60, 61, 70]), some (0, 1, [30, 57, 60, 52, 70]), some (2, 0, [33, 53, 54, 55, 66]), some (1, 2, [33, 55, 57, 58, 68]), some (2, 0, [34, 45, 56, 57, 67]), some (1, 0, [35, 55, 57, 58, 68]), some (0, 2, [34, 57, 60, 52, 70]), some (0, 2, [35, 58, 61, 62, 71]), none, none, none, some (0, 0, [39, 66, 63, 64, 72]), some (0, 2, [45, 66, 63, 64, 72]), some (1, 2, [48, 63, 69, 70, 73]), some (1, 1, [49, 63, 69, 70, 73]), some (0, 1, [46, 66, 63, 64, 72]), some (0, 1, [47, 67, 69, 65, 73]), some (0, 0, [50, 67, 69, 65, 73]), some (1, 1, [51, 64, 65, 71, 74]), some (1, 0, [52, 64, 65, 71, 74]), some (1, 2, [54, 66, 67, 68, 72]), some (1, 1, [55, 66, 67, 68, 72]), some (1, 0, [57, 66, 67, 68, 72]), some (0, 2, [56, 67, 69, 65, 73]), some (0, 2, [57, 68, 70, 71, 74]), some (1, 0, [60, 63, 69, 70, 73]), some (0, 1, [58, 68, 70, 71, 74]), some (0, 0, [61, 68, 70, 71, 74]), none, none, none, none, none, none, none, none, none, none, some (0, 2, [67, 72, 73, 74, 75]), some (0, 1, [68, 72, 73, 74, 75]), some (0, 0, [70, 72, 73, 74, 75]), none, none, none, none, none, none, none, none, none, none]
noncomputable def muMF : List Nat := [35, 35, 35, 26, 22, 19, 22, 19, 26, 6, 13, 9, 16, 9, 9, 9, 13, 6, 3, 3, 4, 4, 4, 11, 4, 3, 3, 1, 1, 2, 1, 2, 1, 0, 0, 0, 6, 4, 4, 3, 4, 3, 4, 4, 4, 1, 1, 1, 2, 1, 2, 1, 1, 0, 0, 0, 0, 0, 0, 0, 0, 0, 0, 1, 1, 1, 0, 0, 0, 0, 0, 0, 0, 0, 0, 0]
noncomputable def tabMB : List (Option (Nat × Nat × List Nat)) := [some (1, 2, [5, 40, 36, 43, 64]), some (2, 2, [6, 36, 42, 52, 65]), some (2, 2, [8, 43, 44, 62, 71]), some (1, 1, [10, 37, 38, 39, 63]), some (2, 2, [12, 39, 50, 61, 70]), some (2, 2, [14, 40, 41, 51, 64]), some (1, 2, [15, 41, 42, 44, 65]), some (2, 1, [17, 36, 42, 52, 65]), some (1, 1, [16, 41, 42, 44, 65]), some (2, 2, [19, 46, 47, 58, 68]), some (2, 1, [22, 37, 48, 49, 63]), some (2, 1, [24, 38, 59, 60, 69]), some (1, 1, [23, 48, 59, 50, 69]), some (2, 1, [25, 39, 50, 61, 70]), some (0, 1, [19, 54, 48, 41, 67]), some (0, 1, [20, 56, 59, 42, 69]), some (2, 0, [26, 40, 41, 51, 64]), some (1, 2, [26, 51, 52, 62, 71]), some (2, 1, [28, 45, 56, 57, 67]), some (1, 1, [27, 54, 56, 47, 67]), some (1, 0, [29, 54, 56, 47, 67]), some (2, 0, [30, 46, 47, 58, 68]), some (0, 2, [28, 55, 49, 51, 68]), some (2, 0, [31, 37, 48, 49, 63]), some (1, 2, [31, 49, 60, 61, 70]), some (1, 1, [32, 49, 60, 61, 70]), some (0, 1, [30, 57, 60, 52, 70]), some (2, 0, [33, 53, 54, 55, 66]), some (1, 2, [33, 55, 57, 58, 68]), some (2, 0, [34, 45, 56, 57, 67]), some (1, 0, [35, 55, 57, 58, 68]), some (0, 2, [34, 57, 60, 52, 70]), some (0, 2, [35, 58, 61, 62, 71]), none, none, none, some (1, 2, [41, 64, 65, 71, 74]), some (0, 2, [45, 66, 63, 64, 72]), some (1, 2, [48, 63, 69, 70, 73]), some (1, 1, [49, 63, 69, 70, 73]), some (0, 1, [46, 66, 63, 64, 72]), some (0, 1, [47, 67, 69, 65, 73]), some (0, 0, [50, 67, 69, 65, 73]), some (1, 1, [51, 64, 65, 71, 74]), some (1, 0, [52, 64, 65, 71, 74]), some (1, 2, [54, 66, 67, 68, 72]), some (1, 1, [55, 66, 67, 68, 72]), some (1, 0, [57, 66, 67, 68, 72]), some (0, 2, [56, 67, 69, 65, 73]), some (0, 2, [57, 68, 70, 71, 74]), some (1, 0, [60, 63, 69, 70, 73]), some (0, 1, [58, 68, 70, 71, 74]), some (0, 0, [61, 68, 70, 71, 74]), none, none, none, none, none, none, none, none, none, none, some (0, 2, [67, 72, 73, 74, 75]), some (0, 1, [68, 72, 73, 74, 75]), some (0, 0, [70, 72, 73, 74, 75]), none, none, none, none, none, none, none, none, none, none]
noncomputable def muMB : List Nat := [35, 35, 35, 26, 22, 19, 22, 19, 26, 6, 13, 9, 16, 9, 9, 9, 13, 6, 3, 3, 4, 4, 4, 11, 4, 3, 3, 1, 1, 2, 1, 2, 1, 0, 0, 0, 6, 4, 4, 3, 4, 3, 4, 4, 4, 1, 1, 1, 2, 1, 2, 1, 1, 0, 0, 0, 0, 0, 0, 0, 0, 0, 0, 1, 1, 1, 0, 0, 0, 0, 0, 0, 0, 0, 0, 0]
end Mine

-- part: M1
set_option maxHeartbeats 1000000
namespace Mine
open PySem PySem.W PyProof.Rows

noncomputable def wd (l : List Nat) : Str := ⟨l.toArray⟩
noncomputable def wayOf (b : Bool) : Int := if b then 1 else -1
noncomputable def wds (b : Bool) : List (List Nat) := if b then wdsP else wdsM
noncomputable def wAt (b : Bool) (i : Nat) : Str := wd ((wds b).getD i [])
noncomputable def tabOf (b l : Bool) : List (Option (Nat × Nat × List Nat)) := if b then (if l then tabPB else tabPF) else (if l then tabMB else tabMF)
noncomputable def rowOf (b l : Bool) (i : Nat) : Option (Nat × Nat × List Nat) := (tabOf b l).getD i none
noncomputable def muOf (b l : Bool) (i : Nat) : Nat := ((if b then (if l then muPB else muPF) else (if l then muMB else muMF)) : List Nat).getD i 0
/-- the leading words, what each turns to beside the letters, and its sign -/
noncomputable def ldS (b : Bool) : List Str := if b then [wd [98, 99], wd [97, 99], wd [97, 98]] else [wd [99, 98], wd [99, 97], wd [98, 97]]
noncomputable def otS (b : Bool) : List Str := if b then [wd [99, 98], wd [99, 97], wd [98, 97]] else [wd [98, 99], wd [97, 99], wd [97, 98]]
noncomputable def sgS (b : Bool) : List Int := if b then [1, -1, 1] else [-1, 1, -1]
noncomputable def leadIx (b : Bool) (k : Str) : Option Nat := if (ldS b).getD 0 (wd []) = k then some 0 else if (ldS b).getD 1 (wd []) = k then some 1 else if (ldS b).getD 2 (wd []) = k then some 2 else none
noncomputable def sl2 (w : Str) (k : Nat) : Str := Txt.slice w (some (k : Int)) (some ((k : Int) + 2))
noncomputable def placesOf (b : Bool) (w : Str) : List Nat := (List.range (w.length - 1)).filter fun k => (leadIx b (sl2 w k)).isSome
noncomputable def apWd (b : Bool) (w : Str) : Bool := !(placesOf b w).isEmpty
noncomputable def pieces (b : Bool) (d : Nat) : List Str := [(otS b).getD d (wd []), wd [97], wd [98], wd [99], wd []]
noncomputable def turned (w : Str) (p : Nat) (x : Str) : Str := Txt.slice w none (some (p : Int)) ++ x ++ Txt.slice w (some ((p : Int) + 2)) none
noncomputable def sameL (b : Bool) (i t : Nat) : Bool := ((wds b).getD t []).isPerm ((wds b).getD i [])
noncomputable def lenOf (b : Bool) (i : Nat) : Nat := ((wds b).getD i []).length

noncomputable def rowChk (b l : Bool) (i : Nat) : Bool := match rowOf b l i with
  | none => (placesOf b (wAt b i)).isEmpty
  | some (p, d, ts) => (if l then (placesOf b (wAt b i)).getLast? else (placesOf b (wAt b i)).head?) == some p && leadIx b (sl2 (wAt b i) p) == some d && decide (d < 3) &&
      (pieces b d).map (turned (wAt b i) p) == ts.map (wAt b) && decide ((ts.map (wAt b)).Nodup) && decide (ts.length = 5) &&
      ts.all (fun t => Nat.blt i t && Nat.blt t 76 && (Nat.blt (lenOf b t) (lenOf b i) || (sameL b i t))) && Nat.ble (1 + (ts.map (muOf b l)).sum) (muOf b l i)

theorem row_ok (b l : Bool) : (List.range 76).all (rowChk b l) = true := by
  cases b <;> cases l <;> decide +kernel

/-- the record's agents -/
noncomputable def agL (b : Bool) : List Str := if b then [wd [42], wd [98, 99], wd [65, 67], wd [97, 98]] else [wd [42], wd [99, 98], wd [67, 65], wd [98, 97]]
theorem ag_ok (b : Bool) : agsOf (wayOf b) = agL b := by cases b <;> decide +kernel
noncomputable def probe (w : Str) : Str := strT "*" ++ Txt.upper w ++ strT "./abcba/"
noncomputable def asc (x : Str) : Bool := x.cps.toList.all fun c => Nat.blt c 128
noncomputable def upA (x : Str) : Str := ⟨x.cps.map up1⟩
noncomputable def loA (x : Str) : Str := ⟨x.cps.map lo1⟩
theorem asc_lt {x : Str} (h : asc x = true) : ∀ c ∈ x.cps.toList, c < 128 := fun c hc => Nat.le_of_ble_eq_true (List.all_eq_true.mp h c hc)
theorem up_asc {x : Str} (h : asc x = true) : Txt.upper x = upA x := upper_ascii (asc_lt h)
theorem lo_asc {x : Str} (h : asc x = true) : Txt.lower x = loA x := lower_ascii (asc_lt h)
noncomputable def probeA (w : Str) : Str := strT "*" ++ upA w ++ strT "./abcba/"
noncomputable def apA (ags : List Str) (p : Str) : Bool := ags.any fun a => a != strT "*" && hasIn (loA p) (loA a)
theorem ap_asc {ags : List Str} {p : Str} (hp : asc p = true) (ha : ags.all asc = true) : apB ags p = apA ags p := by
  unfold apB apA
  rw [lo_asc hp, Bool.eq_iff_iff, List.any_eq_true, List.any_eq_true]
  constructor
  · rintro ⟨a, h1, h2⟩
    exact ⟨a, h1, by rw [← lo_asc (List.all_eq_true.mp ha a h1)]; exact h2⟩
  · rintro ⟨a, h1, h2⟩
    exact ⟨a, h1, by rw [lo_asc (List.all_eq_true.mp ha a h1)]; exact h2⟩
noncomputable def okChk (b : Bool) (w : Str) : Bool :=
  asc w && match Txt.split (probeA w) (strT "/") with
  | [] => false
  | p :: _ => asc p && Nat.ble w.length 20 && Nat.ble (Builtin.Str.partsBetween (probeA w) (Builtin.Str.occurrences (probeA w) (strT "/") 0 (probeA w).length ((probeA w).length + 1)) (strT "/").length).length 1000 && Nat.ble p.length 1000 && (apA (agL b) p == apWd b w)
theorem ok_ok (b : Bool) : (List.range 76).all (fun i => okChk b (wAt b i)) = true := by
  cases b <;> decide +kernel
theorem ag_asc (b : Bool) : (agL b).all asc = true := by cases b <;> decide +kernel
theorem ld_ok (b : Bool) : pairsS.map (leadOf (wayOf b)) = ldS b := by
  cases b <;> decide +kernel
theorem wds_len (b : Bool) : (wds b).length = 76 := by cases b <;> rfl
theorem wds_nodup (b : Bool) : (wds b).Nodup := by cases b <;> decide +kernel
end Mine

-- part: M2
set_option maxHeartbeats 1000000
namespace Mine
open PySem PySem.W PyProof.Rows

abbrev Poly := List (Nat × Int)
/-- a monomial is a number, its digits to the base sixteen are its variables (from one on) -/
noncomputable def insM : Nat → Nat → Nat → Nat
  | 0, v, m => m * 16 + (v + 1)
  | f + 1, v, m => cond (Nat.ble (m % 16) (v + 1)) (m * 16 + (v + 1)) (insM f v (m / 16) * 16 + m % 16)
noncomputable def evM (ρ : Nat → Int) (m : Nat) : Int := if h : m = 0 then 1 else ρ (m % 16 - 1) * evM ρ (m / 16)
  termination_by m
  decreasing_by omega
theorem evM_zero (ρ : Nat → Int) : evM ρ 0 = 1 := by unfold evM; simp
theorem evM_dig (ρ : Nat → Int) (m d : Nat) (h1 : 1 ≤ d) (h2 : d < 16) : evM ρ (m * 16 + d) = ρ (d - 1) * evM ρ m := by
  rw [evM, dif_neg (by omega), show (m * 16 + d) % 16 = d by omega, show (m * 16 + d) / 16 = m by omega]
theorem evM_ins (ρ : Nat → Int) (v : Nat) (hv : v < 15) : ∀ (f m : Nat), evM ρ (insM f v m) = ρ v * evM ρ m
  | 0, m => by unfold insM; rw [evM_dig ρ m (v + 1) (by omega) (by omega)]; rfl
  | f + 1, m => by
    unfold insM
    cases hb : Nat.ble (m % 16) (v + 1) with
    | true => rw [cond_true, evM_dig ρ m (v + 1) (by omega) (by omega)]; rfl
    | false =>
      have : ¬ m % 16 ≤ v + 1 := fun h => by rw [Nat.ble_eq_true_of_le h] at hb; cases hb
      rw [cond_false, evM_dig ρ _ (m % 16) (by omega) (by omega), evM_ins ρ v hv f]
      have e : evM ρ m = ρ (m % 16 - 1) * evM ρ (m / 16) := by rw [evM, dif_neg (by omega)]
      rw [e, Int.mul_left_comm]

noncomputable def addT (m : Nat) (c : Int) : Poly → Poly
  | [] => cond (c == 0) [] [(m, c)]
  | (m', c') :: r => cond (Nat.beq m m') (cond (c + c' == 0) r ((m', c + c') :: r)) (cond (Nat.blt m m') (cond (c == 0) ((m', c') :: r) ((m, c) :: (m', c') :: r)) ((m', c') :: addT m c r))
noncomputable def evP (ρ : Nat → Int) (P : Poly) : Int := (P.map fun t => t.2 * evM ρ t.1).sum
theorem evP_cons (ρ : Nat → Int) (t : Nat × Int) (P : Poly) : evP ρ (t :: P) = t.2 * evM ρ t.1 + evP ρ P := by simp [evP]
theorem evP_addT (ρ : Nat → Int) (m : Nat) (c : Int) : ∀ P, evP ρ (addT m c P) = c * evM ρ m + evP ρ P
  | [] => by
    unfold addT
    cases h : (c == 0) with
    | true => have : c = 0 := by simpa using h
              rw [cond_true, this]; simp
    | false => rw [cond_false, evP_cons]
  | (m', c') :: r => by
    unfold addT
    cases h1 : Nat.beq m m' with
    | true =>
      have : m = m' := Nat.eq_of_beq_eq_true h1
      subst this
      rw [cond_true, evP_cons]
      cases h2 : (c + c' == 0) with
      | true =>
        have h3 : c + c' = 0 := by simpa using h2
        have h4 : c = -c' := by omega
        rw [cond_true, h4]
        dsimp only
        rw [Int.neg_mul]; omega
      | false =>
        rw [cond_false, evP_cons]
        dsimp only
        rw [Int.add_mul]; omega
    | false =>
      rw [cond_false]
      cases h2 : Nat.blt m m' with
      | true =>
        rw [cond_true]
        cases h3 : (c == 0) with
        | true => have : c = 0 := by simpa using h3
                  rw [cond_true, this]; simp
        | false => rw [cond_false, evP_cons]
      | false => rw [cond_false, evP_cons, evP_addT ρ m c r, evP_cons]; omega
noncomputable def addP (P Q : Poly) : Poly := Q.foldl (fun acc t => addT t.1 t.2 acc) P
theorem evP_addP (ρ : Nat → Int) : ∀ (Q P : Poly), evP ρ (addP P Q) = evP ρ P + evP ρ Q
  | [], P => by simp [addP, evP]
  | t :: Q, P => by
    have := evP_addP ρ Q (addT t.1 t.2 P)
    unfold addP at this ⊢
    rw [List.foldl_cons, this, evP_addT, evP_cons]; omega

/-- a factor: nothing, one, or a variable; with its sign -/
noncomputable def mulC (k : Nat) (s : Int) (P : Poly) : Poly := match k with
  | 0 => []
  | 1 => P.map fun t => (t.1, s * t.2)
  | k + 2 => P.map fun t => (insM 8 k t.1, s * t.2)
noncomputable def evK (ρ : Nat → Int) (k : Nat) : Int := match k with
  | 0 => 0
  | 1 => 1
  | k + 2 => ρ k
theorem evP_mulC (ρ : Nat → Int) (k : Nat) (hk : k < 17) (s : Int) : ∀ P, evP ρ (mulC k s P) = s * evK ρ k * evP ρ P := by
  match k, hk with
  | 0, _ => intro P; simp [mulC, evP, evK]
  | 1, _ =>
    intro P
    unfold mulC evK
    dsimp only
    induction P with
    | nil => simp [evP]
    | cons t P ih => rw [List.map_cons, evP_cons, evP_cons, ih]; simp only [Int.mul_one, Int.mul_add, Int.mul_assoc]
  | k + 2, hk =>
    intro P
    unfold mulC evK
    dsimp only
    induction P with
    | nil => simp [evP]
    | cons t P ih =>
      rw [List.map_cons, evP_cons, evP_cons, ih]
      dsimp only
      rw [evM_ins ρ k (by omega)]
      simp only [Int.mul_add, Int.mul_assoc]
      rw [Int.mul_left_comm t.2 (ρ k)]

abbrev Stt := List (Nat × Poly)
noncomputable def insP (i : Nat) (Q : Poly) : Stt → Stt
  | [] => [(i, addP [] Q)]
  | (j, P) :: r => cond (Nat.beq i j) ((j, addP P Q) :: r) (cond (Nat.blt i j) ((i, addP [] Q) :: (j, P) :: r) ((j, P) :: insP i Q r))
noncomputable def val (ρ : Nat → Int) (g : Nat → Int) (L : Stt) : Int := (L.map fun x => evP ρ x.2 * g x.1).sum
theorem val_cons (ρ : Nat → Int) (g : Nat → Int) (x : Nat × Poly) (L : Stt) : val ρ g (x :: L) = evP ρ x.2 * g x.1 + val ρ g L := by simp [val]
theorem val_ins (ρ : Nat → Int) (g : Nat → Int) (i : Nat) (Q : Poly) : ∀ L, val ρ g (insP i Q L) = evP ρ Q * g i + val ρ g L
  | [] => by
    unfold insP
    rw [val_cons, evP_addP]; simp [evP]
  | (j, P) :: r => by
    unfold insP
    cases h1 : Nat.beq i j with
    | true =>
      have : i = j := Nat.eq_of_beq_eq_true h1
      subst this
      rw [cond_true, val_cons, val_cons, evP_addP]
      dsimp only
      rw [Int.add_mul]; omega
    | false =>
      rw [cond_false]
      cases h2 : Nat.blt i j with
      | true => rw [cond_true, val_cons, evP_addP]; simp [evP]
      | false => rw [cond_false, val_cons, val_ins ρ g i Q r, val_cons]; omega

/-- the variable that stands at a place of the rows: as they are, or mended -/
noncomputable def kd (K d j : Nat) : Nat := match K with
  | 0 => 4 * d + j + 2
  | 1 => cond (Nat.beq j 3) (4 * d + 5) (4 * min d j + max d j + 2)
  | _ => cond (Nat.beq d 2 || Nat.beq j 2) 0 (4 * d + j + 2)
noncomputable def cfRow (b : Bool) (K d : Nat) : List (Nat × Int) := [(1, 1), (kd K d 0, (sgS b).getD d 0), (kd K d 1, (sgS b).getD d 0), (kd K d 2, (sgS b).getD d 0), (kd K d 3, (sgS b).getD d 0)]

noncomputable def red (b l : Bool) (K : Nat) : Nat → Stt → Stt
  | 0, L => L
  | _ + 1, [] => []
  | n + 1, (i, P) :: r => match rowOf b l i with
    | none => (i, P) :: red b l K n r
    | some (_, d, ts) => red b l K n ((List.zip (cfRow b K d) ts).foldl (fun acc x => insP x.2 (mulC x.1.1 x.1.2 P) acc) r)

theorem kd_lt {K d j : Nat} (hd : d < 3) (hj : j < 4) : kd K d j < 17 := by
  match K with
  | 0 => show 4 * d + j + 2 < 17; omega
  | 1 =>
    show cond (Nat.beq j 3) (4 * d + 5) (4 * min d j + max d j + 2) < 17
    cases Nat.beq j 3 with
    | true => rw [cond_true]; omega
    | false => rw [cond_false]; omega
  | K + 2 =>
    show cond (Nat.beq d 2 || Nat.beq j 2) 0 (4 * d + j + 2) < 17
    cases (Nat.beq d 2 || Nat.beq j 2) with
    | true => rw [cond_true]; omega
    | false => rw [cond_false]; omega

/-- what a word comes to, by the words that it turns to -/
noncomputable def Turns (ρ : Nat → Int) (b l : Bool) (K : Nat) (g : Nat → Int) : Prop :=
  ∀ i p d ts, rowOf b l i = some (p, d, ts) → d < 3 ∧ g i = ((List.zip (cfRow b K d) ts).map fun x => x.1.2 * evK ρ x.1.1 * g x.2).sum

theorem val_red {ρ : Nat → Int} {b l : Bool} {K : Nat} {g : Nat → Int} (h : Turns ρ b l K g) : ∀ (n : Nat) (L : Stt), val ρ g (red b l K n L) = val ρ g L
  | 0, L => rfl
  | n + 1, [] => rfl
  | n + 1, (i, P) :: r => by
    unfold red
    split
    · rw [val_cons, val_red h n r, val_cons]
    · rename_i p d ts hr
      obtain ⟨hd, hg⟩ := h i p d ts hr
      rw [val_red h n, val_cons]
      have key : ∀ (z : List ((Nat × Int) × Nat)) (acc : Stt), (∀ x ∈ z, x.1.1 < 17) → val ρ g (z.foldl (fun acc x => insP x.2 (mulC x.1.1 x.1.2 P) acc) acc) = evP ρ P * (z.map fun x => x.1.2 * evK ρ x.1.1 * g x.2).sum + val ρ g acc := by
        intro z
        induction z with
        | nil => intro acc _; simp
        | cons x z ih =>
          intro acc hz
          rw [List.foldl_cons, ih _ fun y hy => hz y (List.mem_cons_of_mem _ hy), val_ins, evP_mulC ρ x.1.1 (hz x List.mem_cons_self), List.map_cons, List.sum_cons, Int.mul_add]
          have e : x.1.2 * evK ρ x.1.1 * evP ρ P * g x.2 = evP ρ P * (x.1.2 * evK ρ x.1.1 * g x.2) := by
            rw [Int.mul_comm (x.1.2 * evK ρ x.1.1) (evP ρ P), Int.mul_assoc]
          rw [e]; omega
      rw [key _ _ fun x hx => ?_, ← hg]
      have hx1 := (List.of_mem_zip (a := x.1) (b := x.2) hx).1
      simp only [cfRow, List.mem_cons, List.not_mem_nil, or_false] at hx1
      rcases hx1 with e | e | e | e | e
      · rw [e]; show (1 : Nat) < 17; decide
      · rw [e]; exact kd_lt (j := 0) hd (by decide)
      · rw [e]; exact kd_lt (j := 1) hd (by decide)
      · rw [e]; exact kd_lt (j := 2) hd (by decide)
      · rw [e]; exact kd_lt (j := 3) hd (by decide)
end Mine

-- part: M3
set_option maxHeartbeats 1000000
namespace Mine
open PySem PySem.W PyProof.Rows

noncomputable def mon2 (u v : Nat) : Nat := insM 8 u (insM 8 v 0)
noncomputable def dueP (b : Bool) (j : Nat) : Poly := [(mon2 9 j, wayOf b), (mon2 6 j, -wayOf b), (mon2 2 (4 + j), wayOf b), (mon2 8 (4 + j), -wayOf b), (mon2 4 (8 + j), wayOf b), (mon2 1 (8 + j), -wayOf b)]
noncomputable def ixOf (b : Bool) (l : List Nat) : Nat := (wds b).idxOf l
noncomputable def dueStt (b : Bool) : Stt := [(ixOf b [97], dueP b 0), (ixOf b [98], dueP b 1), (ixOf b [99], dueP b 2), (ixOf b [], dueP b 3)]
noncomputable def isN (b l : Bool) (i : Nat) : Bool := (rowOf b l i).isNone
noncomputable def sortedOf (b : Bool) (i0 : Nat) : Nat := ((List.range 76).filter fun i => isN b false i && Nat.beq (lenOf b i) (lenOf b i0) && sameL b i0 i).getD 0 0
noncomputable def subS (L M : Stt) : Stt := M.foldl (fun acc x => insP x.1 (mulC 1 (-1) x.2) acc) L
noncomputable def start1 (i0 : Nat) : Stt := [(i0, [(0, 1)])]
noncomputable def symChk (b : Bool) (K i0 : Nat) (due : Stt) : Bool :=
  Nat.blt i0 76 && (red b false K 100 (start1 i0)).all (fun x => isN b false x.1) && (red b true K 100 (start1 i0)).all (fun x => isN b true x.1) &&
    (subS (subS (red b false K 100 (start1 i0)) (red b true K 100 (start1 i0))) due).all (fun x => x.2.isEmpty) &&
    (red b false K 100 (start1 i0)).filter (fun x => Nat.beq x.1 (sortedOf b i0)) == [(sortedOf b i0, [(0, 1)])]
noncomputable def lettersL (b : Bool) : List Nat := if b then [97, 98, 99] else [99, 98, 97]
noncomputable def longL (b : Bool) (spot x : Nat) : List Nat := (lettersL b).take spot ++ [97 + x] ++ (lettersL b).drop spot

theorem short_ok (b : Bool) : symChk b 0 (ixOf b (lettersL b)) (dueStt b) = true := by
  cases b <;> decide +kernel
theorem long_ok1 (b : Bool) : ((List.range 4).all fun spot => (List.range 3).all fun x => symChk b 1 (ixOf b (longL b spot x)) []) = true := by
  cases b <;> decide +kernel
theorem long_ok2 (b : Bool) : ((List.range 4).all fun spot => (List.range 3).all fun x => symChk b 2 (ixOf b (longL b spot x)) []) = true := by
  cases b <;> decide +kernel
theorem letters_eq (b : Bool) : lettersOf (wayOf b) = wd (lettersL b) := by cases b <;> decide +kernel
theorem longer_eq (b : Bool) : ((List.range 4).all fun spot => (List.range 3).all fun x => longerOf (wayOf b) spot x == wd (longL b spot x)) = true := by cases b <;> decide +kernel

noncomputable def normChk (b : Bool) (i : Nat) : Bool := isN b false i == isN b true i && (!isN b false i || (sortedS (if decide (wayOf b > 0) then (charsOf (wAt b i)).reverse else charsOf (wAt b i)) && JoinOk (strT "") (charsOf (wAt b i)) && Txt.join (strT "") (charsOf (wAt b i)) == wAt b i && Nat.blt (wAt b i).length 64 && PyData.strOk (wAt b i)))
theorem norm_ok (b : Bool) : (List.range 76).all (normChk b) = true := by cases b <;> decide +kernel
noncomputable def topChk (b : Bool) (i0 : Nat) : Bool := (List.range 76).filter (fun i => isN b false i && Nat.beq (lenOf b i) (lenOf b i0) && sameL b i0 i) == [sortedOf b i0] && (charsOf (wAt b (sortedOf b i0))).isPerm (charsOf (wAt b i0)) && Nat.blt (lenOf b i0) 64
theorem top_short (b : Bool) : topChk b (ixOf b (lettersL b)) = true := by cases b <;> decide +kernel
theorem top_long (b : Bool) : ((List.range 4).all fun spot => (List.range 3).all fun x => topChk b (ixOf b (longL b spot x))) = true := by cases b <;> decide +kernel
theorem ix_long (b : Bool) : ((List.range 4).all fun spot => (List.range 3).all fun x => Nat.blt (ixOf b (longL b spot x)) 76) = true := by cases b <;> decide +kernel
theorem ix_due (b : Bool) : (Nat.blt (ixOf b [97]) 76 && Nat.blt (ixOf b [98]) 76 && Nat.blt (ixOf b [99]) 76 && Nat.blt (ixOf b []) 76 && Nat.blt (ixOf b (lettersL b)) 76) = true := by cases b <;> decide +kernel
end Mine

-- part: M4
set_option maxHeartbeats 400000
namespace Mine
open PySem PySem.W PyProof.Rows

noncomputable def PC (b : Bool) (d : Nat) (R : List Int) : IC :=
  [((otS b).getD d (wd []), 1), (wd [97], (sgS b).getD d 0 * R.getD 0 0), (wd [98], (sgS b).getD d 0 * R.getD 1 0), (wd [99], (sgS b).getD d 0 * R.getD 2 0), (wd [], (sgS b).getD d 0 * R.getD 3 0)]
theorem way_cases (b : Bool) : wayOf b = 1 ∨ wayOf b = -1 := by cases b <;> simp [wayOf]
theorem wd_inj {l m : List Nat} : wd l = wd m ↔ l = m := by
  constructor
  · intro h
    have : l.toArray = m.toArray := by injection h
    simpa using this
  · rintro rfl; rfl
theorem s_bc : strT "bc" = wd [98, 99] := by decide +kernel
theorem s_ca : strT "ca" = wd [99, 97] := by decide +kernel
theorem s_ab : strT "ab" = wd [97, 98] := by decide +kernel
theorem s_a : strT "a" = wd [97] := by decide +kernel
theorem s_b : strT "b" = wd [98] := by decide +kernel
theorem s_c : strT "c" = wd [99] := by decide +kernel
theorem s_e : strT "" = wd [] := by decide +kernel
theorem r_bc : revS (wd [98, 99]) = wd [99, 98] := by decide +kernel
theorem r_ca : revS (wd [99, 97]) = wd [97, 99] := by decide +kernel
theorem r_ab : revS (wd [97, 98]) = wd [98, 97] := by decide +kernel
theorem lead0 (b : Bool) : leadOf (wayOf b) (wd [98, 99]) = (ldS b).getD 0 (wd []) := by cases b <;> decide +kernel
theorem lead1 (b : Bool) : leadOf (wayOf b) (wd [99, 97]) = (ldS b).getD 1 (wd []) := by cases b <;> decide +kernel
theorem lead2 (b : Bool) : leadOf (wayOf b) (wd [97, 98]) = (ldS b).getD 2 (wd []) := by cases b <;> decide +kernel

noncomputable def cfN (N : IC) (L : Str) (k : Str) : Int := -((getC N L).getD 0) * (getC N k).getD 0
theorem nought_is (p q : List Nat) (h : revS (wd p) = wd q) (R : List Int) : noughtOf (wd p) R = [(wd p, 1), (wd q, -1), (wd [97], -R.getD 0 0), (wd [98], -R.getD 1 0), (wd [99], -R.getD 2 0), (wd [], -R.getD 3 0)] := by
  unfold noughtOf; rw [h, s_a, s_b, s_c, s_e]

theorem rule_gen {way : Int} {p L : Str} {R : List Int} {M N : IC} {P : IC} (hL : leadOf way p = L) (hM : noughtOf p R = M) (hnd : (M.map (·.1)).Nodup) (hl : (getC M L).getD 0 = 1 ∨ (getC M L).getD 0 = -1)
    (hP : ((M.map (·.1)).filter (fun k => k != L)).map (fun k => (k, cfN M L k)) = P) : (ruleOf way p R).2 = P.filter fun p => p.2 != 0 := by
  unfold ruleOf
  dsimp only
  rw [hL, ← nought_keys p R, hM]
  have e1 : (M.map (·.1)).filter (fun k => k != L && (getC M k).getD 0 != 0) = ((M.map (·.1)).filter fun k => k != L).filter fun k => (cfN M L k) != 0 := by
    rw [List.filter_filter]
    refine List.filter_congr fun k _ => ?_
    have : ((getC M k).getD 0 != 0) = (cfN M L k != 0) := by
      unfold cfN
      rcases hl with h | h
      · rw [h, Bool.eq_iff_iff]; simp
      · rw [h, Bool.eq_iff_iff]; simp
    rw [this]; exact Bool.and_comm _ _
  rw [e1]
  show foldC (fun k => k) (cfN M L) _ = _
  rw [foldC_nodup _ _ _ (by
    rw [List.map_id']
    exact (List.filter_sublist).nodup ((List.filter_sublist).nodup hnd))]
  rw [← hP]
  generalize (M.map (·.1)).filter (fun k => k != L) = Z
  rw [List.filter_map]
  rfl

theorem rule_eq {way : Int} {P Q L O : List Nat} {s : Int} (R : List Int) (hL : leadOf way (wd P) = wd L) (hr : revS (wd P) = wd Q) (hd : [P, Q, [97], [98], [99], []].Nodup) (hc : (L = P ∧ O = Q ∧ s = 1) ∨ (L = Q ∧ O = P ∧ s = -1)) :
    (ruleOf way (wd P) R).2 = List.filter (fun p : Str × Int => p.2 != 0) [(wd O, 1), (wd [97], s * R.getD 0 0), (wd [98], s * R.getD 1 0), (wd [99], s * R.getD 2 0), (wd [], s * R.getD 3 0)] := by
  have hn : (([(wd P, 1), (wd Q, -1), (wd [97], -R.getD 0 0), (wd [98], -R.getD 1 0), (wd [99], -R.getD 2 0), (wd [], -R.getD 3 0)] : IC).map (·.1)).Nodup := by
    have := hd
    simp only [List.map_cons, List.map_nil, List.nodup_cons, List.mem_cons, List.not_mem_nil, or_false, wd_inj] at this ⊢
    exact ⟨this.1, this.2.1, this.2.2.1, this.2.2.2.1, this.2.2.2.2.1, this.2.2.2.2.2.1, .nil⟩
  simp only [List.nodup_cons, List.mem_cons, List.not_mem_nil, or_false, not_or] at hd
  obtain ⟨⟨n1, n2, n3, n4, n5⟩, ⟨m2, m3, m4, m5⟩, _⟩ := hd
  refine rule_gen hL (nought_is _ _ hr R) hn ?_ ?_ (N := [])
  · rcases hc with ⟨rfl, rfl, rfl⟩ | ⟨rfl, rfl, rfl⟩
    · exact .inl (by simp [getC])
    · exact .inr (by simp [getC, wd_inj, n1])
  · rcases hc with ⟨rfl, rfl, rfl⟩ | ⟨rfl, rfl, rfl⟩
    · simp [getC, wd_inj, cfN, List.filter_cons, n1, n2, n3, n4, n5, m2, m3, m4, m5, Ne.symm n1, Ne.symm n2, Ne.symm n3, Ne.symm n4, Ne.symm n5, Ne.symm m2, Ne.symm m3, Ne.symm m4, Ne.symm m5]
    · simp [getC, wd_inj, cfN, List.filter_cons, n1, n2, n3, n4, n5, m2, m3, m4, m5, Ne.symm n1, Ne.symm n2, Ne.symm n3, Ne.symm n4, Ne.symm n5, Ne.symm m2, Ne.symm m3, Ne.symm m4, Ne.symm m5]
theorem rule_form0 (b : Bool) (R : List Int) : (ruleOf (wayOf b) (wd [98, 99]) R).2 = (PC b 0 R).filter fun p => p.2 != 0 := by
  cases b
  · exact rule_eq (L := [99, 98]) (O := [98, 99]) (s := -1) R (lead0 false) r_bc (by decide) (.inr ⟨rfl, rfl, rfl⟩)
  · exact rule_eq (L := [98, 99]) (O := [99, 98]) (s := 1) R (lead0 true) r_bc (by decide) (.inl ⟨rfl, rfl, rfl⟩)
theorem rule_form1 (b : Bool) (R : List Int) : (ruleOf (wayOf b) (wd [99, 97]) R).2 = (PC b 1 R).filter fun p => p.2 != 0 := by
  cases b
  · exact rule_eq (L := [99, 97]) (O := [97, 99]) (s := 1) R (lead1 false) r_ca (by decide) (.inl ⟨rfl, rfl, rfl⟩)
  · exact rule_eq (L := [97, 99]) (O := [99, 97]) (s := -1) R (lead1 true) r_ca (by decide) (.inr ⟨rfl, rfl, rfl⟩)
theorem rule_form2 (b : Bool) (R : List Int) : (ruleOf (wayOf b) (wd [97, 98]) R).2 = (PC b 2 R).filter fun p => p.2 != 0 := by
  cases b
  · exact rule_eq (L := [98, 97]) (O := [97, 98]) (s := -1) R (lead2 false) r_ab (by decide) (.inr ⟨rfl, rfl, rfl⟩)
  · exact rule_eq (L := [97, 98]) (O := [98, 97]) (s := 1) R (lead2 true) r_ab (by decide) (.inl ⟨rfl, rfl, rfl⟩)

theorem rl_is (b : Bool) (R0 R1 R2 : List Int) : rlOf (wayOf b) [R0, R1, R2] = [((ldS b).getD 0 (wd []), (PC b 0 R0).filter fun p => p.2 != 0), ((ldS b).getD 1 (wd []), (PC b 1 R1).filter fun p => p.2 != 0), ((ldS b).getD 2 (wd []), (PC b 2 R2).filter fun p => p.2 != 0)] := by
  unfold rlOf pairsS
  rw [s_bc, s_ca, s_ab]
  rw [List.zipWith_cons_cons, List.zipWith_cons_cons, List.zipWith_cons_cons, List.zipWith_nil_left]
  have pr : ∀ (x : Str × IC) (a : Str) (r : IC), x.1 = a → x.2 = r → x = (a, r) := fun x a r h1 h2 => by rw [← h1, ← h2]
  rw [pr _ _ _ ((rule_fst _ _).trans (lead0 b)) (rule_form0 b R0), pr _ _ _ ((rule_fst _ _).trans (lead1 b)) (rule_form1 b R1), pr _ _ _ ((rule_fst _ _).trans (lead2 b)) (rule_form2 b R2)]

theorem look_at (b : Bool) {Rs : List (List Int)} (hl : Rs.length = 3) (k : Str) : lookR (rlOf (wayOf b) Rs) k = (leadIx b k).map fun d => (PC b d (Rs.getD d [])).filter fun p => p.2 != 0 := by
  obtain ⟨R0, R1, R2, rfl⟩ := lenE3 hl
  · rw [rl_is]
    unfold leadIx lookR
    simp only [List.find?_cons, List.find?_nil]
    by_cases e0 : (ldS b).getD 0 (wd []) = k
    · simp only [e0, decide_true, if_true, Option.map_some]; rfl
    · simp only [e0, decide_false, if_false]
      by_cases e1 : (ldS b).getD 1 (wd []) = k
      · simp only [e1, decide_true, if_true, Option.map_some]; rfl
      · simp only [e1, decide_false, if_false]
        by_cases e2 : (ldS b).getD 2 (wd []) = k
        · simp only [e2, decide_true, if_true, Option.map_some]; rfl
        · simp only [e2, decide_false, if_false, Option.map_none]
end Mine

-- part: M5
set_option maxHeartbeats 400000
namespace Mine
open PySem PySem.W PyProof.Rows

noncomputable def inW (b : Bool) (w : Str) : Bool := (List.range 76).any fun i => decide (wAt b i = w)
noncomputable def cfgOf (b l : Bool) (Rs : List (List Int)) : Cfg := ⟨apWd b, inW b, rlOf (wayOf b) Rs, l⟩
theorem inW_iff {b : Bool} {w : Str} : inW b w = true ↔ ∃ i, i < 76 ∧ wAt b i = w := by
  unfold inW
  rw [List.any_eq_true]
  constructor
  · rintro ⟨i, hi, h⟩; exact ⟨i, List.mem_range.mp hi, by simpa using h⟩
  · rintro ⟨i, hi, h⟩; exact ⟨i, List.mem_range.mpr hi, by simpa using h⟩

theorem sg_one (b : Bool) {d : Nat} (hd : d < 3) : (sgS b).getD d 0 = 1 ∨ (sgS b).getD d 0 = -1 := by
  match d, hd with
  | 0, _ => cases b <;> simp [sgS]
  | 1, _ => cases b <;> simp [sgS]
  | 2, _ => cases b <;> simp [sgS]
theorem sg_trit {s v : Int} (hs : s = 1 ∨ s = -1) (hv : Trit v) : Trit (s * v) := by
  unfold Trit at *
  rcases hs with rfl | rfl <;> omega
theorem pc_ok (b : Bool) {d : Nat} (hd : d < 3) {R : List Int} (hg : GoodR R) : ∀ q ∈ PC b d R, q.1.length ≤ 20 ∧ Builtin.Int.intBits q.2 ≤ 64 := by
  have ho : ((otS b).getD d (wd [])).length ≤ 20 := by
    match d, hd with
    | 0, _ => cases b <;> decide
    | 1, _ => cases b <;> decide
    | 2, _ => cases b <;> decide
  intro q hq
  simp only [PC, List.mem_cons, List.not_mem_nil, or_false] at hq
  rcases hq with rfl | rfl | rfl | rfl | rfl
  · exact ⟨ho, by show Builtin.Int.intBits 1 ≤ 64; decide⟩
  · exact ⟨by show (wd [97]).length ≤ 20; decide, trit_bits (sg_trit (sg_one b hd) (getD_trit hg 0))⟩
  · exact ⟨by show (wd [98]).length ≤ 20; decide, trit_bits (sg_trit (sg_one b hd) (getD_trit hg 1))⟩
  · exact ⟨by show (wd [99]).length ≤ 20; decide, trit_bits (sg_trit (sg_one b hd) (getD_trit hg 2))⟩
  · exact ⟨by show (wd []).length ≤ 20; decide, trit_bits (sg_trit (sg_one b hd) (getD_trit hg 3))⟩

theorem okcfg (b l : Bool) {Rs : List (List Int)} (hl : Rs.length = 3) (hg : ∀ R ∈ Rs, GoodR R) : OkCfg (cfgOf b l Rs) (agsOf (wayOf b)) where
  ok := fun k hk => by
    obtain ⟨i, hi, rfl⟩ := inW_iff.mp hk
    have h := List.all_eq_true.mp (ok_ok b) i (List.mem_range.mpr hi)
    unfold okChk at h
    rw [Bool.and_eq_true] at h
    obtain ⟨hw, h⟩ := h
    have hpr : probe (wAt b i) = probeA (wAt b i) := by unfold probe probeA; rw [up_asc hw]
    split at h
    · cases h
    · rename_i p r hs
      simp only [Bool.and_eq_true, beq_iff_eq] at h
      obtain ⟨⟨⟨⟨h0, h1⟩, h2⟩, h3⟩, h4⟩ := h
      rw [← hpr] at hs h2
      refine ⟨Nat.le_of_ble_eq_true h1, p, r, hs, ?_, Nat.le_of_ble_eq_true h3, by rw [ag_ok, ap_asc h0 (ag_asc b)]; exact h4⟩
      have := Nat.le_of_ble_eq_true h2
      unfold probe at this
      rw [sizeLine_eq]; omega
  rule := fun p hp q hq => by
    obtain ⟨R0, R1, R2, rfl⟩ := lenE3 hl
    · have hp : p ∈ rlOf (wayOf b) [R0, R1, R2] := hp
      rw [rl_is] at hp
      simp only [List.mem_cons, List.not_mem_nil, or_false] at hp
      rcases hp with rfl | rfl | rfl
      · exact pc_ok b (by decide) (hg R0 (by simp)) q (List.mem_filter.mp hq).1
      · exact pc_ok b (by decide) (hg R1 (by simp)) q (List.mem_filter.mp hq).1
      · exact pc_ok b (by decide) (hg R2 (by simp)) q (List.mem_filter.mp hq).1
  len := fun p hp => by
    obtain ⟨R0, R1, R2, rfl⟩ := lenE3 hl
    · have hp : p ∈ rlOf (wayOf b) [R0, R1, R2] := hp
      rw [rl_is] at hp
      simp only [List.mem_cons, List.not_mem_nil, or_false] at hp
      rcases hp with rfl | rfl | rfl
      all_goals exact Nat.le_trans (List.length_filter_le _ _) (by show 5 ≤ 100; decide)
  ags := fun a ha => by
    rw [ag_ok] at ha
    have : ∀ a ∈ agL b, a.length ≤ 1000 := by cases b <;> decide
    exact this a ha

theorem tab_len (b l : Bool) : (tabOf b l).length = 76 := by cases b <;> cases l <;> rfl
theorem row_far {b l : Bool} {i : Nat} (hi : 76 ≤ i) : rowOf b l i = none := by
  unfold rowOf
  rw [List.getD_eq_getElem?_getD, List.getElem?_eq_none (by rw [tab_len]; exact hi)]; rfl

theorem row_none {b l : Bool} {i : Nat} (hi : i < 76) (h : rowOf b l i = none) : apWd b (wAt b i) = false := by
  have hc := List.all_eq_true.mp (row_ok b l) i (List.mem_range.mpr hi)
  unfold rowChk at hc
  rw [h] at hc
  unfold apWd
  have hc : (placesOf b (wAt b i)).isEmpty = true := hc
  rw [hc]; rfl

structure RowAt (b l : Bool) (i p d : Nat) (ts : List Nat) : Prop where
  lt : i < 76
  sel : (if l then (placesOf b (wAt b i)).getLast? else (placesOf b (wAt b i)).head?) = some p
  ld : leadIx b (sl2 (wAt b i) p) = some d
  d3 : d < 3
  tgt : (pieces b d).map (turned (wAt b i) p) = ts.map (wAt b)
  nd : (ts.map (wAt b)).Nodup
  len : ts.length = 5
  far : ∀ t ∈ ts, i < t ∧ t < 76 ∧ (lenOf b t < lenOf b i ∨ sameL b i t = true)
  mu : 1 + (ts.map (muOf b l)).sum ≤ muOf b l i
theorem row_get {b l : Bool} {i p d : Nat} {ts : List Nat} (h : rowOf b l i = some (p, d, ts)) : RowAt b l i p d ts := by
  by_cases hi : i < 76
  · have hc := List.all_eq_true.mp (row_ok b l) i (List.mem_range.mpr hi)
    unfold rowChk at hc
    rw [h] at hc
    simp only [Bool.and_eq_true, beq_iff_eq, decide_eq_true_eq, List.all_eq_true, Bool.or_eq_true] at hc
    obtain ⟨⟨⟨⟨⟨⟨⟨h1, h2⟩, h3⟩, h4⟩, h5⟩, h6⟩, h7⟩, h8⟩ := hc
    refine ⟨hi, h1, h2, h3, h4, h5, h6, fun t ht => ?_, Nat.le_of_ble_eq_true h8⟩
    obtain ⟨⟨a1, a2⟩, a3⟩ := h7 t ht
    refine ⟨Nat.le_of_ble_eq_true a1, Nat.le_of_ble_eq_true a2, ?_⟩
    rcases a3 with a3 | a3
    · exact .inl (Nat.le_of_ble_eq_true a3)
    · exact .inr a3
  · rw [row_far (by omega)] at h; cases h

noncomputable def phi (ρ : Nat → Int) (b l : Bool) (K : Nat) (δ : Nat → Int) : Nat → Nat → Int
  | 0, i => δ i
  | n + 1, i => match rowOf b l i with
    | none => δ i
    | some (_, d, ts) => ((List.zip (cfRow b K d) ts).map fun x => x.1.2 * evK ρ x.1.1 * phi ρ b l K δ n x.2).sum
theorem phi_none {ρ : Nat → Int} {b l : Bool} {K : Nat} {δ : Nat → Int} {n i : Nat} (h : rowOf b l i = none) : phi ρ b l K δ n i = δ i := by
  cases n with
  | zero => rfl
  | succ n => unfold phi; rw [h]
theorem phi_some {ρ : Nat → Int} {b l : Bool} {K : Nat} {δ : Nat → Int} {n i p d : Nat} {ts : List Nat} (h : rowOf b l i = some (p, d, ts)) :
    phi ρ b l K δ (n + 1) i = ((List.zip (cfRow b K d) ts).map fun x => x.1.2 * evK ρ x.1.1 * phi ρ b l K δ n x.2).sum := by
  rw [phi, h]
theorem phi_st {ρ : Nat → Int} {b l : Bool} {K : Nat} {δ : Nat → Int} : ∀ (n i : Nat), 76 ≤ n + i → phi ρ b l K δ n i = phi ρ b l K δ (n + 1) i
  | 0, i, h => by rw [phi_none (row_far (by omega)), phi_none (row_far (by omega))]
  | n + 1, i, h => by
    cases hr : rowOf b l i with
    | none => rw [phi_none hr, phi_none hr]
    | some x =>
      obtain ⟨p, d, ts⟩ := x
      rw [phi_some hr, phi_some hr]
      refine congrArg List.sum (List.map_congr_left fun x hx => ?_)
      have hx2 := (List.of_mem_zip (a := x.1) (b := x.2) hx).2
      rw [phi_st n x.2 (by have := ((row_get hr).far x.2 hx2).1; omega)]
theorem phi_turns (ρ : Nat → Int) (b l : Bool) (K : Nat) (δ : Nat → Int) : Turns ρ b l K (phi ρ b l K δ 80) := by
  intro i p d ts hr
  refine ⟨(row_get hr).d3, ?_⟩
  rw [phi_st 80 i (by omega), phi_some hr]

noncomputable def ixS (b : Bool) (w : Str) : Nat := (wds b).idxOf w.cps.toList
theorem wd_list (l : List Nat) : (wd l).cps.toList = l := by simp [wd]
theorem ix_at (b : Bool) {i : Nat} (hi : i < 76) : ixS b (wAt b i) = i := by
  unfold ixS wAt
  rw [wd_list]
  have hl : i < (wds b).length := by rw [wds_len]; exact hi
  rw [List.getD_eq_getElem?_getD, List.getElem?_eq_getElem hl]
  exact List.Nodup.idxOf_getElem (wds_nodup b) i hl

noncomputable def UU (b : Bool) (i0 : Nat) (w : Str) : Prop := ∃ i, i < 76 ∧ wAt b i = w ∧ (lenOf b i < lenOf b i0 ∨ sameL b i0 i = true)
theorem sameL_perm {b : Bool} {i t : Nat} (h : sameL b i t = true) : ((wds b).getD t []).Perm ((wds b).getD i []) := List.isPerm_iff.mp h
theorem uu_step {b : Bool} {i0 i t : Nat} (h : lenOf b i < lenOf b i0 ∨ sameL b i0 i = true) (h' : lenOf b t < lenOf b i ∨ sameL b i t = true) : lenOf b t < lenOf b i0 ∨ sameL b i0 t = true := by
  rcases h' with h' | h'
  · rcases h with h | h
    · exact .inl (Nat.lt_trans h' h)
    · have := (sameL_perm h).length_eq
      left; unfold lenOf at *; omega
  · rcases h with h | h
    · have := (sameL_perm h').length_eq
      left; unfold lenOf at *; omega
    · exact .inr (List.isPerm_iff.mpr ((sameL_perm h').trans (sameL_perm h)))

theorem uu_fin (b : Bool) (i0 : Nat) (ks : List Str) (hn : ks.Nodup) (hu : ∀ k ∈ ks, UU b i0 k) : ks.length ≤ 1000 := by
  have := nodup_sub_len hn (m := (List.range 76).map (wAt b)) fun k hk => by
    obtain ⟨i, hi, rfl, _⟩ := hu k hk
    exact List.mem_map.mpr ⟨i, List.mem_range.mpr hi, rfl⟩
  rw [List.length_map, List.length_range] at this
  omega
end Mine

-- part: M6
set_option maxHeartbeats 400000
namespace Mine
open PySem PySem.W PyProof.Rows

theorem sum_filter_le {α : Type} (q : α → Bool) (f : α → Nat) : ∀ l : List α, ((l.filter q).map f).sum ≤ (l.map f).sum
  | [] => Nat.le_refl _
  | a :: l => by
    have := sum_filter_le q f l
    rw [List.filter_cons]
    split
    · simp only [List.map_cons, List.sum_cons]; omega
    · simp only [List.map_cons, List.sum_cons]; omega
theorem sum_filter_zero (g : Str → Int) : ∀ l : IC, ((l.filter fun p => p.2 != 0).map fun p => p.2 * g p.1).sum = (l.map fun p => p.2 * g p.1).sum
  | [] => rfl
  | p :: l => by
    have := sum_filter_zero g l
    rw [List.filter_cons]
    split
    · simp only [List.map_cons, List.sum_cons, this]
    · rename_i h
      have h0 : p.2 = 0 := by simpa using h
      simp only [List.map_cons, List.sum_cons, this, h0, Int.zero_mul, Int.zero_add]

noncomputable def del (b : Bool) (t : Str) (i : Nat) : Int := if i = ixS b t then 1 else 0
noncomputable def Rho (b : Bool) (K : Nat) (Rs : List (List Int)) (ρ : Nat → Int) : Prop := ∀ d, d < 3 → ∀ j, j < 4 → (Rs.getD d []).getD j 0 = evK ρ (kd K d j)

theorem step_at {b l : Bool} {K i0 : Nat} {Rs : List (List Int)} {ρ : Nat → Int} (hl : Rs.length = 3) (hρ : Rho b K Rs ρ) (w : Str) (hu : UU b i0 w) (ha : apWd b w = true) :
    StepAt (cfgOf b l Rs) (UU b i0) (fun w => muOf b l (ixS b w)) (fun t w => phi ρ b l K (del b t) 80 (ixS b w)) w := by
  obtain ⟨i, hi, rfl, hil⟩ := hu
  cases hr : rowOf b l i with
  | none => rw [row_none hi hr] at ha; cases ha
  | some x =>
    obtain ⟨p, d, ts⟩ := x
    have X := row_get hr
    have hlook : ∀ k : Nat, lookR (cfgOf b l Rs).rl (Txt.slice (wAt b i) (some (k : Int)) (some ((k : Int) + 2))) = (leadIx b (sl2 (wAt b i) k)).map fun d => (PC b d (Rs.getD d [])).filter fun p => p.2 != 0 := fun k => look_at b hl _
    have hpl : ((List.range ((wAt b i).length - 1)).filter fun (k : Nat) => (lookR (cfgOf b l Rs).rl (Txt.slice (wAt b i) (some (k : Int)) (some ((k : Int) + 2)))).isSome) = placesOf b (wAt b i) := by
      unfold placesOf
      exact List.filter_congr fun k _ => by rw [hlook k, Option.isSome_map]
    have hfst : (PC b d (Rs.getD d [])).map (·.1) = pieces b d := rfl
    have htg : (PC b d (Rs.getD d [])).map (fun q => turned (wAt b i) p q.1) = ts.map (wAt b) := by
      rw [← X.tgt, ← hfst, List.map_map]; rfl
    have hmem : ∀ q ∈ PC b d (Rs.getD d []), ∃ t ∈ ts, wAt b t = turned (wAt b i) p q.1 := fun q hq => by
      have : turned (wAt b i) p q.1 ∈ ts.map (wAt b) := by rw [← htg]; exact List.mem_map.mpr ⟨q, hq, rfl⟩
      exact List.mem_map.mp this
    refine ⟨p, (PC b d (Rs.getD d [])).filter fun p => p.2 != 0, ?_, ?_, ?_, ?_, ?_, ?_, ?_⟩
    · rw [hpl]; exact X.sel
    · rw [hlook p, X.ld]; rfl
    · have hp : p ∈ placesOf b (wAt b i) := by
        have hs := X.sel
        cases l with
        | true => simp only [if_true] at hs; exact List.mem_of_getLast? hs
        | false => simp only [Bool.false_eq_true, if_false] at hs; exact List.mem_of_mem_head? hs
      unfold placesOf at hp
      have := List.mem_range.mp (List.mem_filter.mp hp).1
      omega
    · have h1 : ((PC b d (Rs.getD d [])).map fun q => turned (wAt b i) p q.1).Nodup := by rw [htg]; exact X.nd
      exact (List.filter_sublist.map _).nodup h1
    · intro q hq
      obtain ⟨t, ht, e⟩ := hmem q (List.mem_filter.mp hq).1
      obtain ⟨_, t76, hfar⟩ := X.far t ht
      exact ⟨t, t76, e, uu_step hil hfar⟩
    · have h1 := sum_filter_le (fun p : Str × Int => p.2 != 0) (fun q => muOf b l (ixS b (turned (wAt b i) p q.1))) (PC b d (Rs.getD d []))
      have h2 : ((PC b d (Rs.getD d [])).map fun q => muOf b l (ixS b (turned (wAt b i) p q.1))) = ts.map (muOf b l) := by
        have e : ((PC b d (Rs.getD d [])).map fun q => muOf b l (ixS b (turned (wAt b i) p q.1))) = ((PC b d (Rs.getD d [])).map fun q => turned (wAt b i) p q.1).map fun z => muOf b l (ixS b z) := by rw [List.map_map]; rfl
        rw [e, htg, List.map_map]
        refine List.map_congr_left fun t ht => ?_
        show muOf b l (ixS b (wAt b t)) = _
        rw [ix_at b (X.far t ht).2.1]
      rw [h2] at h1
      have h3 := X.mu
      show 1 + _ ≤ muOf b l (ixS b (wAt b i))
      rw [ix_at b hi]
      exact Nat.le_trans (Nat.add_le_add_left h1 1) h3
    · intro t
      show phi ρ b l K (del b t) 80 (ixS b (wAt b i)) = _
      rw [ix_at b hi, (phi_turns ρ b l K (del b t) i p d ts hr).2]
      have e1 := sum_filter_zero (fun z => phi ρ b l K (del b t) 80 (ixS b (turned (wAt b i) p z))) (PC b d (Rs.getD d []))
      refine Eq.trans ?_ e1.symm
      have hlen := X.len
      have hix : ∀ t ∈ ts, ixS b (wAt b t) = t := fun t ht => ix_at b (X.far t ht).2.1
      have htgt := X.tgt
      generalize phi ρ b l K (del b t) 80 = G
      obtain ⟨t0, t1, t2, t3, t4, hts⟩ : ∃ t0 t1 t2 t3 t4, ts = [t0, t1, t2, t3, t4] := by
        obtain ⟨t0, r, rfl, hlen1⟩ := lenS hlen
        obtain ⟨t1, t2, t3, t4, rfl⟩ := lenE4 hlen1
        exact ⟨t0, t1, t2, t3, t4, rfl⟩
      · rw [hts] at htgt hix ⊢
        simp only [pieces, List.map_cons, List.map_nil, List.cons.injEq, and_true] at htgt
        obtain ⟨a0, a1, a2, a3, a4⟩ := htgt
        simp only [PC, cfRow, List.zip_cons_cons, List.zip_nil_left, List.map_cons, List.map_nil, a0, a1, a2, a3, a4]
        rw [hix t0 (by simp), hix t1 (by simp), hix t2 (by simp), hix t3 (by simp), hix t4 (by simp)]
        rw [hρ d X.d3 0 (by decide), hρ d X.d3 1 (by decide), hρ d X.d3 2 (by decide), hρ d X.d3 3 (by decide)]
        rfl

theorem norm_row {b l : Bool} {i : Nat} (hi : i < 76) (h : apWd b (wAt b i) = false) : rowOf b l i = none := by
  cases hr : rowOf b l i with
  | none => rfl
  | some x =>
    obtain ⟨p, d, ts⟩ := x
    have X := row_get hr
    unfold apWd at h
    have he : placesOf b (wAt b i) = [] := by simpa using h
    have hs := X.sel
    rw [he] at hs
    cases l <;> simp at hs

theorem ix_inj {b : Bool} {i : Nat} {t : Str} (hi : i < 76) : i = ixS b t ↔ wAt b i = t := by
  constructor
  · intro h
    have hlt : (wds b).idxOf t.cps.toList < (wds b).length := by rw [wds_len]; have : ixS b t < 76 := h ▸ hi; exact this
    have : (wds b).getD i [] = t.cps.toList := by
      rw [h]
      show (wds b).getD ((wds b).idxOf t.cps.toList) [] = _
      rw [List.getD_eq_getElem?_getD, List.getElem?_eq_getElem hlt]
      exact List.getElem_idxOf hlt
    unfold wAt
    rw [this]
    unfold wd
    obtain ⟨a⟩ := t
    simp
  · intro h; rw [← h, ix_at b hi]

theorem wsum_del {c : IC} {g : Str → Int} {t : Str} (hn : (c.map (·.1)).Nodup) (hg : ∀ k ∈ c.map (·.1), g k = if k = t then 1 else 0) : wsum g c = (getC c t).getD 0 := by
  induction c with
  | nil => rfl
  | cons p c ih =>
    rw [List.map_cons, List.nodup_cons] at hn
    rw [wsum_cons, ih hn.2 fun k hk => hg k (List.mem_cons_of_mem _ hk), hg p.1 List.mem_cons_self]
    by_cases e : p.1 = t
    · rw [if_pos e]
      have h1 : getC c t = none := get_none (e ▸ hn.1)
      have h2 : getC (p :: c) t = some p.2 := by unfold getC; simp [e]
      rw [h1, h2]; simp
    · rw [if_neg e]
      have h2 : getC (p :: c) t = getC c t := by unfold getC; simp [e]
      rw [h2]; simp

theorem mu_small (b l : Bool) : (List.range 76).all (fun i => Nat.blt (muOf b l i) 200) = true := by cases b <;> cases l <;> decide +kernel

theorem run_at {b l : Bool} {K i0 : Nat} {Rs : List (List Int)} {ρ : Nat → Int} (hl : Rs.length = 3) (hρ : Rho b K Rs ρ) (hi : i0 < 76) (hnorm : (red b l K 100 (start1 i0)).all (fun x => isN b l x.1) = true) :
    ∃ S, run (cfgOf b l Rs) 200 [] [] [(wAt b i0, 1)] = some S ∧ (S.map (·.1)).Nodup ∧ (∀ k ∈ S.map (·.1), UU b i0 k ∧ apWd b k = false) ∧ ∀ t, (getC S t).getD 0 = val ρ (del b t) (red b l K 100 (start1 i0)) := by
  have hself : sameL b i0 i0 = true := List.isPerm_iff.mpr (List.Perm.refl _)
  have hmu := Nat.le_of_ble_eq_true (List.all_eq_true.mp (mu_small b l) i0 (List.mem_range.mpr hi))
  obtain ⟨S, h1, h2, h3, h4⟩ := run_ok (c := cfgOf b l Rs) (U := UU b i0) (μ := fun w => muOf b l (ixS b w)) (φ := fun t w => phi ρ b l K (del b t) 80 (ixS b w))
    (fun w hu => inW_iff.mpr (let ⟨i, a, e, _⟩ := hu; ⟨i, a, e⟩)) (fun w hu ha => step_at hl hρ w hu ha) (uu_fin b i0) 200 [] [] [(wAt b i0, 1)] List.nodup_nil List.nodup_nil (by simp) (by simp) (by simp)
    (fun k hk => by
      have : k = wAt b i0 := by simpa using hk
      exact ⟨i0, hi, this.symm, .inr hself⟩) (by
      show 0 + _ < 200
      simp only [meas, List.map_cons, List.map_nil, List.sum_cons, List.sum_nil]
      rw [ix_at b hi]; omega)
  refine ⟨S, h1, h2, h3, fun t => ?_⟩
  have h5 := h4 t
  have h6 : wsum (fun w => phi ρ b l K (del b t) 80 (ixS b w)) S = (getC S t).getD 0 := by
    refine wsum_del h2 fun k hk => ?_
    obtain ⟨⟨i, hi', rfl, _⟩, ha⟩ := h3 k hk
    rw [ix_at b hi', phi_none (norm_row hi' ha)]
    unfold del
    by_cases e : i = ixS b t
    · rw [if_pos e, if_pos ((ix_inj hi').mp e)]
    · rw [if_neg e, if_neg fun q => e ((ix_inj hi').mpr q)]
  have h7 : wsum (fun w => phi ρ b l K (del b t) 80 (ixS b w)) [(wAt b i0, 1)] = phi ρ b l K (del b t) 80 i0 := by
    simp [wsum, ix_at b hi]
  have h8 : val ρ (phi ρ b l K (del b t) 80) (red b l K 100 (start1 i0)) = phi ρ b l K (del b t) 80 i0 := by
    rw [val_red (phi_turns ρ b l K (del b t))]
    simp [start1, val, evP, evM_zero]
  have h9 : val ρ (phi ρ b l K (del b t) 80) (red b l K 100 (start1 i0)) = val ρ (del b t) (red b l K 100 (start1 i0)) := by
    unfold val
    refine congrArg List.sum (List.map_congr_left fun x hx => ?_)
    have := List.all_eq_true.mp hnorm x hx
    unfold isN at this
    rw [phi_none (Option.isNone_iff_eq_none.mp this)]
  rw [← h6, h5, h7, wsum_nil, ← h9, h8]; omega
end Mine

-- part: M7
set_option maxHeartbeats 400000
namespace Mine
open PySem PySem.W PyProof.Rows

theorem val_sub (ρ : Nat → Int) (g : Nat → Int) : ∀ (M L : Stt), val ρ g (subS L M) = val ρ g L - val ρ g M
  | [], L => by simp [subS, val]
  | x :: M, L => by
    have := val_sub ρ g M (insP x.1 (mulC 1 (-1) x.2) L)
    unfold subS at this ⊢
    rw [List.foldl_cons, this, val_ins, evP_mulC ρ 1 (by decide), val_cons]
    have e : (-1 : Int) * evK ρ 1 * evP ρ x.2 * g x.1 = -(evP ρ x.2 * g x.1) := by
      show (-1 : Int) * 1 * evP ρ x.2 * g x.1 = _
      rw [Int.mul_one, Int.mul_assoc, Int.neg_mul, Int.one_mul]
    rw [e]; omega
theorem val_empty (ρ : Nat → Int) (g : Nat → Int) : ∀ (L : Stt), L.all (fun x => x.2.isEmpty) = true → val ρ g L = 0
  | [], _ => rfl
  | x :: L, h => by
    rw [List.all_cons, Bool.and_eq_true] at h
    rw [val_cons, val_empty ρ g L h.2]
    have : x.2 = [] := by simpa using h.1
    rw [this]; simp [evP]
theorem val_one (ρ : Nat → Int) (s : Nat) : ∀ (L : Stt), val ρ (fun i => if i = s then 1 else 0) L = val ρ (fun i => if i = s then 1 else 0) (L.filter fun x => Nat.beq x.1 s)
  | [] => rfl
  | x :: L => by
    rw [val_cons, val_one ρ s L, List.filter_cons]
    by_cases e : x.1 = s
    · have : Nat.beq x.1 s = true := by rw [e]; exact Nat.beq_refl s
      rw [if_pos this, val_cons]
    · have : ¬ Nat.beq x.1 s = true := fun h => e (Nat.eq_of_beq_eq_true h)
      rw [if_neg this, if_neg e]; simp

theorem norm_word {b : Bool} {i : Nat} (hi : i < 76) (h : isN b false i = true) : WordOk (wayOf b) (wAt b i) (wAt b i) ∧ PyData.strOk (wAt b i) = true := by
  have hc := List.all_eq_true.mp (norm_ok b) i (List.mem_range.mpr hi)
  unfold normChk at hc
  rw [h] at hc
  simp only [Bool.not_true, Bool.false_or, Bool.and_eq_true, beq_iff_eq] at hc
  obtain ⟨_, ⟨⟨⟨h1, h2⟩, h3⟩, h4⟩, h5⟩ := hc
  exact ⟨⟨⟨_, List.Perm.refl _, h1, h2, h3⟩, Nat.le_of_ble_eq_true h4⟩, h5⟩

theorem settle_at {b : Bool} {K i0 : Nat} {Rs : List (List Int)} {ρ : Nat → Int} {due : Stt} (hl : Rs.length = 3) (hg : ∀ R ∈ Rs, GoodR R) (hρ : Rho b K Rs ρ) (hchk : symChk b K i0 due = true) (htop : topChk b i0 = true) :
    ∃ SF SB, Settles (wayOf b) Rs (wAt b i0) SF SB ∧ ∀ t, (getC SF t).getD 0 - (getC SB t).getD 0 = val ρ (del b t) due := by
  unfold symChk at hchk
  simp only [Bool.and_eq_true, beq_iff_eq] at hchk
  obtain ⟨⟨⟨⟨c1, c2⟩, c3⟩, c4⟩, c5⟩ := hchk
  have hi : i0 < 76 := Nat.le_of_ble_eq_true c1
  unfold topChk at htop
  simp only [Bool.and_eq_true, beq_iff_eq] at htop
  obtain ⟨⟨t1, t2⟩, t3⟩ := htop
  obtain ⟨SF, f1, f2, f3, f4⟩ := run_at (l := false) hl hρ hi c2
  obtain ⟨SB, b1, b2, b3, b4⟩ := run_at (l := true) hl hρ hi c3
  have hsrt : sortedOf b i0 ∈ (List.range 76).filter fun i => isN b false i && Nat.beq (lenOf b i) (lenOf b i0) && sameL b i0 i := by rw [t1]; exact List.mem_singleton_self _
  obtain ⟨hs1, hs2⟩ := List.mem_filter.mp hsrt
  have hs76 := List.mem_range.mp hs1
  simp only [Bool.and_eq_true] at hs2
  obtain ⟨⟨hsN, hsL⟩, hsS⟩ := hs2
  have hsL := Nat.eq_of_beq_eq_true hsL
  obtain ⟨wtop, stop⟩ := norm_word hs76 hsN
  have hword : ∀ k, UU b i0 k → apWd b k = false → WordOk (wayOf b) k k := by
    rintro k ⟨i, hi', rfl, _⟩ ha
    exact (norm_word hi' (by unfold isN; rw [norm_row hi' ha]; rfl)).1
  have hlen : ∀ i, (wAt b i).length = lenOf b i := fun i => by
    show ((wds b).getD i []).toArray.size = _
    simp [lenOf]
  have hone : (getC SF (wAt b (sortedOf b i0))).getD 0 = 1 := by
    rw [f4]
    have e : del b (wAt b (sortedOf b i0)) = fun i => if i = sortedOf b i0 then 1 else 0 := by
      funext i; unfold del; rw [ix_at b hs76]
    rw [e, val_one, c5]
    simp [val, evP, evM_zero]
  have htopm : wAt b (sortedOf b i0) ∈ SF.map (·.1) := by
    cases hg' : getC SF (wAt b (sortedOf b i0)) with
    | none => rw [hg'] at hone; simp at hone
    | some v => exact getC_mem hg'
  have hall : ∀ p ∈ SF, (p.1.length == (wAt b i0).length) = !(p.1 != wAt b (sortedOf b i0)) := by
    intro p hp
    obtain ⟨⟨i, hi', e, hU⟩, ha⟩ := f3 p.1 (List.mem_map.mpr ⟨p, hp, rfl⟩)
    by_cases hpl : p.1.length = (wAt b i0).length
    · have h1 : lenOf b i = lenOf b i0 := by rw [← hlen, ← hlen, e]; exact hpl
      have h2 : sameL b i0 i = true := by
        rcases hU with h | h
        · rw [h1] at h; exact absurd h (Nat.lt_irrefl _)
        · exact h
      have h3 : i ∈ (List.range 76).filter fun i => isN b false i && Nat.beq (lenOf b i) (lenOf b i0) && sameL b i0 i := by
        refine List.mem_filter.mpr ⟨List.mem_range.mpr hi', ?_⟩
        have : isN b false i = true := by unfold isN; rw [norm_row hi' (e ▸ ha)]; rfl
        rw [this, h2, h1, Nat.beq_refl]; rfl
      rw [t1] at h3
      have : p.1 = wAt b (sortedOf b i0) := by rw [← e, List.mem_singleton.mp h3]
      have e1 : (p.1.length == (wAt b i0).length) = true := by simpa using hpl
      have e2 : (!(p.1 != wAt b (sortedOf b i0))) = true := by rw [this]; simp
      rw [e1, e2]
    · have : p.1 ≠ wAt b (sortedOf b i0) := by
        intro q
        apply hpl
        rw [q, hlen, hlen, hsL]
      have e1 : (p.1.length == (wAt b i0).length) = false := by simpa using hpl
      have e2 : (!(p.1 != wAt b (sortedOf b i0))) = false := by simpa using this
      rw [e1, e2]
  refine ⟨SF, SB, ⟨wAt b (sortedOf b i0), cfgOf b false Rs, cfgOf b true Rs, okcfg b false hl hg, okcfg b true hl hg, rfl, rfl, rfl, rfl, f1, b1, ?_, ?_, ?_, stop, ?_⟩, fun t => ?_⟩
  · intro k hk
    rcases List.mem_append.mp hk with hk | hk
    · exact hword k (f3 k hk).1 (f3 k hk).2
    · exact hword k (b3 k hk).1 (b3 k hk).2
  · rw [List.filter_congr hall, only_key f2 (getC_key htopm), hone]
  · obtain ⟨⟨T, p1, p2, p3, p4⟩, _⟩ := wtop
    have hT : (charsOf (wAt b (sortedOf b i0))).Perm (charsOf (wAt b i0)) := List.isPerm_iff.mp t2
    exact ⟨⟨T, p1.trans hT, p2, p3, p4⟩, by rw [hlen]; exact Nat.le_of_ble_eq_true t3⟩
  · have h1 := uu_fin b i0 _ f2 fun k hk => (f3 k hk).1
    have h2 := uu_fin b i0 _ b2 fun k hk => (b3 k hk).1
    rw [List.length_map] at h1 h2
    omega
  · rw [f4, b4]
    have h1 := val_empty ρ (del b t) _ c4
    rw [val_sub, val_sub] at h1
    omega

theorem wAt_ix {b : Bool} {l : List Nat} (h : ixOf b l < 76) : wAt b (ixOf b l) = wd l := by
  have hlt : (wds b).idxOf l < (wds b).length := by rw [wds_len]; exact h
  unfold wAt ixOf
  rw [List.getD_eq_getElem?_getD, List.getElem?_eq_getElem hlt]
  show wd ((wds b)[(wds b).idxOf l]) = _
  rw [List.getElem_idxOf hlt]

noncomputable def rhoOf (Rs : List (List Int)) (v : Nat) : Int := cellOf Rs (v / 4) (v % 4)
theorem rho_at (Rs : List (List Int)) {d j : Nat} (hj : j < 4) : rhoOf Rs (4 * d + j) = cellOf Rs d j := by
  unfold rhoOf
  rw [show (4 * d + j) / 4 = d by omega, show (4 * d + j) % 4 = j by omega]
theorem rho0 (b : Bool) (Rs : List (List Int)) : Rho b 0 Rs (rhoOf Rs) := fun d _ j hj => (rho_at Rs hj).symm

theorem evM_mon2 (ρ : Nat → Int) {u v : Nat} (hu : u < 15) (hv : v < 15) : evM ρ (mon2 u v) = ρ u * ρ v := by
  unfold mon2
  rw [evM_ins ρ u hu, evM_ins ρ v hv, evM_zero, Int.mul_one]

theorem due_val (b : Bool) (Rs : List (List Int)) {j : Nat} (hj : j < 4) : evP (rhoOf Rs) (dueP b j) = dueJ (wayOf b) Rs j := by
  have e0 : rhoOf Rs j = cellOf Rs 0 j := by have := rho_at Rs (d := 0) hj; simpa using this
  have e1 : rhoOf Rs (4 + j) = cellOf Rs 1 j := by have := rho_at Rs (d := 1) hj; simpa using this
  have e2 : rhoOf Rs (8 + j) = cellOf Rs 2 j := by have := rho_at Rs (d := 2) hj; simpa using this
  have q9 : rhoOf Rs 9 = cellOf Rs 2 1 := rfl
  have q6 : rhoOf Rs 6 = cellOf Rs 1 2 := rfl
  have q2 : rhoOf Rs 2 = cellOf Rs 0 2 := rfl
  have q8 : rhoOf Rs 8 = cellOf Rs 2 0 := rfl
  have q4 : rhoOf Rs 4 = cellOf Rs 1 0 := rfl
  have q1 : rhoOf Rs 1 = cellOf Rs 0 1 := rfl
  have h1 : evP (rhoOf Rs) (dueP b j) = wayOf b * (rhoOf Rs 9 * rhoOf Rs j) + (-wayOf b * (rhoOf Rs 6 * rhoOf Rs j) + (wayOf b * (rhoOf Rs 2 * rhoOf Rs (4 + j)) + (-wayOf b * (rhoOf Rs 8 * rhoOf Rs (4 + j)) +
      (wayOf b * (rhoOf Rs 4 * rhoOf Rs (8 + j)) + (-wayOf b * (rhoOf Rs 1 * rhoOf Rs (8 + j)) + 0))))) := by
    unfold dueP
    simp only [evP_cons]
    rw [evM_mon2 _ (by omega) (by omega), evM_mon2 _ (by omega) (by omega), evM_mon2 _ (by omega) (by omega), evM_mon2 _ (by omega) (by omega), evM_mon2 _ (by omega) (by omega), evM_mon2 _ (by omega) (by omega)]
    rfl
  have h2 : dueJ (wayOf b) Rs j = wayOf b * ((cellOf Rs 2 1 - cellOf Rs 1 2) * cellOf Rs 0 j + ((cellOf Rs 0 2 - cellOf Rs 2 0) * cellOf Rs 1 j + ((cellOf Rs 1 0 - cellOf Rs 0 1) * cellOf Rs 2 j + 0))) := rfl
  rw [h1, h2, e0, e1, e2, q9, q6, q2, q8, q4, q1]
  grind

theorem due_at (b : Bool) (Rs : List (List Int)) (t : Str) : val (rhoOf Rs) (del b t) (dueStt b) = dueAt (wayOf b) Rs t := by
  have hix := ix_due b
  simp only [Bool.and_eq_true] at hix
  obtain ⟨⟨⟨⟨ia, ib⟩, ic⟩, ie⟩, _⟩ := hix
  have ka : ∀ {l : List Nat}, ixOf b l < 76 → (del b t (ixOf b l) = if t = wd l then 1 else 0) := by
    intro l hlt
    unfold del
    by_cases e : ixOf b l = ixS b t
    · rw [if_pos e, if_pos]
      rw [← (ix_inj hlt).mp e, wAt_ix hlt]
    · rw [if_neg e, if_neg]
      rintro rfl
      exact e ((ix_inj hlt).mpr (wAt_ix hlt))
  have hv : val (rhoOf Rs) (del b t) (dueStt b) = dueJ (wayOf b) Rs 0 * (if t = wd [97] then 1 else 0) + (dueJ (wayOf b) Rs 1 * (if t = wd [98] then 1 else 0) + (dueJ (wayOf b) Rs 2 * (if t = wd [99] then 1 else 0) + (dueJ (wayOf b) Rs 3 * (if t = wd [] then 1 else 0) + 0))) := by
    unfold dueStt
    simp only [val_cons]
    rw [due_val b Rs (by decide), due_val b Rs (by decide), due_val b Rs (by decide), due_val b Rs (by decide), ka (Nat.le_of_ble_eq_true ia), ka (Nat.le_of_ble_eq_true ib), ka (Nat.le_of_ble_eq_true ic), ka (Nat.le_of_ble_eq_true ie)]
    rfl
  rw [hv]
  unfold dueAt
  rw [s_a, s_b, s_c, s_e]
  by_cases h1 : t = wd [97]
  · subst h1; simp [wd_inj]
  · by_cases h2 : t = wd [98]
    · subst h2; simp [wd_inj]
    · by_cases h3 : t = wd [99]
      · subst h3; simp [wd_inj]
      · by_cases h4 : t = wd []
        · subst h4; simp [wd_inj]
        · simp [h1, h2, h3, h4]

theorem way_bool {way : Int} (hw : way = 1 ∨ way = -1) : ∃ b, way = wayOf b := by
  rcases hw with rfl | rfl
  · exact ⟨true, rfl⟩
  · exact ⟨false, rfl⟩

theorem math_short {way : Int} {Rs : List (List Int)} (hw : way = 1 ∨ way = -1) (hl : Rs.length = 3) (hg : ∀ R ∈ Rs, GoodR R) :
    ∃ SF SB, Settles way Rs (lettersOf way) SF SB ∧ ∀ k, (getC SF k).getD 0 - (getC SB k).getD 0 = dueAt way Rs k := by
  obtain ⟨b, rfl⟩ := way_bool hw
  obtain ⟨SF, SB, h1, h2⟩ := settle_at (i0 := ixOf b (lettersL b)) hl hg (rho0 b Rs) (short_ok b) (top_short b)
  have hix := ix_due b
  simp only [Bool.and_eq_true] at hix
  rw [wAt_ix (Nat.le_of_ble_eq_true hix.2), ← letters_eq] at h1
  exact ⟨SF, SB, h1, fun k => (h2 k).trans (due_at b Rs k)⟩

theorem row4 {R : List Int} (h : GoodR R) : ∃ a b c d, R = [a, b, c, d] := lenE4 h.1
theorem rows_shape {Rs : List (List Int)} (hl : Rs.length = 3) (hg : ∀ R ∈ Rs, GoodR R) : ∃ a0 a1 a2 a3 b0 b1 b2 b3 c0 c1 c2 c3, Rs = [[a0, a1, a2, a3], [b0, b1, b2, b3], [c0, c1, c2, c3]] := by
  obtain ⟨A, B, C, rfl⟩ := lenE3 hl
  obtain ⟨a0, a1, a2, a3, rfl⟩ := row4 (hg A List.mem_cons_self)
  obtain ⟨b0, b1, b2, b3, rfl⟩ := row4 (hg B (List.mem_cons_of_mem _ List.mem_cons_self))
  obtain ⟨c0, c1, c2, c3, rfl⟩ := row4 (hg C (List.mem_cons_of_mem _ (List.mem_cons_of_mem _ List.mem_cons_self)))
  exact ⟨a0, a1, a2, a3, b0, b1, b2, b3, c0, c1, c2, c3, rfl⟩
theorem rho1 (b : Bool) {Rs : List (List Int)} (hl : Rs.length = 3) (hg : ∀ R ∈ Rs, GoodR R) : Rho b 1 (mendOf 0 Rs) (rhoOf Rs) := by
  obtain ⟨a0, a1, a2, a3, b0, b1, b2, b3, c0, c1, c2, c3, rfl⟩ := rows_shape hl hg
  exact lt3 (lt4 rfl rfl rfl rfl) (lt4 rfl rfl rfl rfl) (lt4 rfl rfl rfl rfl)
theorem rho2 (b : Bool) {kind : Int} (hk : kind ≠ 0) {Rs : List (List Int)} (hl : Rs.length = 3) (hg : ∀ R ∈ Rs, GoodR R) : Rho b 2 (mendOf kind Rs) (rhoOf Rs) := by
  unfold mendOf
  rw [if_neg hk]
  obtain ⟨a0, a1, a2, a3, b0, b1, b2, b3, c0, c1, c2, c3, rfl⟩ := rows_shape hl hg
  exact lt3 (lt4 rfl rfl rfl rfl) (lt4 rfl rfl rfl rfl) (lt4 rfl rfl rfl rfl)

theorem math_long {way : Int} {Rs : List (List Int)} {kind : Int} {spot x : Nat} (hw : way = 1 ∨ way = -1) (hl : Rs.length = 3) (hg : ∀ R ∈ Rs, GoodR R) (hs : spot < 4) (hx : x < 3) :
    ∃ SF SB, Settles way (mendOf kind Rs) (longerOf way spot x) SF SB ∧ ∀ k, (getC SF k).getD 0 = (getC SB k).getD 0 := by
  obtain ⟨b, rfl⟩ := way_bool hw
  have two : ∀ {f : Nat → Nat → Bool}, ((List.range 4).all fun spot => (List.range 3).all fun x => f spot x) = true → f spot x = true := fun h =>
    List.all_eq_true.mp (List.all_eq_true.mp h spot (List.mem_range.mpr hs)) x (List.mem_range.mpr hx)
  obtain ⟨hml, hmg⟩ := mend_good (kind := kind) hl hg
  have h76 := Nat.le_of_ble_eq_true (two (f := fun spot x => Nat.blt (ixOf b (longL b spot x)) 76) (ix_long b))
  have hlg : longerOf (wayOf b) spot x = wd (longL b spot x) := by simpa using two (f := fun spot x => longerOf (wayOf b) spot x == wd (longL b spot x)) (longer_eq b)
  have fin : ∀ K, Rho b K (mendOf kind Rs) (rhoOf Rs) → symChk b K (ixOf b (longL b spot x)) [] = true →
      ∃ SF SB, Settles (wayOf b) (mendOf kind Rs) (longerOf (wayOf b) spot x) SF SB ∧ ∀ k, (getC SF k).getD 0 = (getC SB k).getD 0 := by
    intro K hρ hc
    obtain ⟨SF, SB, h1, h2⟩ := settle_at hml hmg hρ hc (two (f := fun spot x => topChk b (ixOf b (longL b spot x))) (top_long b))
    rw [wAt_ix h76, ← hlg] at h1
    refine ⟨SF, SB, h1, fun k => ?_⟩
    have := h2 k
    have e : val (rhoOf Rs) (del b k) [] = 0 := rfl
    rw [e] at this
    omega
  by_cases hk : kind = 0
  · exact fin 1 (by subst hk; exact rho1 b hl hg) (two (f := fun spot x => symChk b 1 (ixOf b (longL b spot x)) []) (long_ok1 b))
  · exact fin 2 (rho2 b hk hl hg) (two (f := fun spot x => symChk b 2 (ixOf b (longL b spot x)) []) (long_ok2 b))
end Mine

-- part: TLaw
set_option maxHeartbeats 8000000
namespace Mine
theorem kp_rows (w : World) : keepIn (KK w) (.ref 103) = true := by rfl
theorem kp_mend (w : World) : keepIn (KK w) (.ref 108) = true := by rfl
theorem kp_less (w : World) : keepIn (KK w) (.ref 123) = true := by rfl
theorem rm_law (env : Env) : Rm (callerA.deeper env) 8 := ⟨rfl, by show callerA.depth + 1 + 8 < recursionLimit; decide, by show callerA.units + 3 + 8 * 8 + 200 < cLine; decide⟩
theorem start {prog : Program} {w : World} {t : Sem Flow} {Q : Flow → Shared → Prop} {E : Value → Shared → Prop} {env : Env} {s : Shared} {h₁ : Heap} {tk : Nat} {m : Str → Option Value} {x : Str} {v : Value} {n1 n2 n3 : Str} {o1 o2 o3 : Obj} {v1 v2 v3 : Option Value} (F : Fr s.heap s.heap.objs.size h₁ m)
    (N : News s.heap s.heap.objs.size h₁ [(s.heap.objs.size + 1 + 1 + 1, o1), (s.heap.objs.size + 1 + 1, o2), (s.heap.objs.size + 1, o3)]) (d1 : o1.data = .cell v1) (d2 : o2.data = .cell v2) (d3 : o3.data = .cell v3)
    (hend : ∀ s', Keeps s s' → Q (.ret (.bool true)) s')
    (k : ∀ (A' : Around) (Q' : Flow → Shared → Prop) (E' : Value → Shared → Prop) (sA : Shared), Rm A' 8 → (∀ s', Keeps s s' → Q' (.ret (.bool true)) s') → Fv env s s.heap [] [(x, v)] sA → wpAny (model prog w) A' t Q' E' sA)
    (hL : env.locals = s.heap.objs.size := by rfl)
    (hc : env.cells = [(n1, s.heap.objs.size + 1 + 1 + 1), (n2, s.heap.objs.size + 1 + 1), (n3, s.heap.objs.size + 1)] := by rfl)
    (hm : m x = some v := by rfl) (hn : ndB [n1, n2, n3, x] = true := by rfl) (hk1 : (env.kindOf n1 == some .local) = false := by rfl) (hk2 : (env.kindOf n2 == some .local) = false := by rfl) (hk3 : (env.kindOf n3 == some .local) = false := by rfl) :
    wpAny (model prog w) (callerA.deeper env) t Q E { s with heap := h₁, toks := tk } := k _ Q E _ (rm_law env) hend (fv_three F hL hc N d1 d2 d3 hm hn (by simpa using hk1) (by simpa using hk2) (by simpa using hk3))
theorem it_zip2 {prog : Program} {w : World} {A : Around} {E : Value → Shared → Prop} {s s₀ : Shared} {l1 l2 : Addr} {xs ys : Array Value} {n : Nat} (Pr : Nat → Value → Value → Prop) (k₀ : Keeps s₀ s) (hh : A.handled = none) (hl1 : s.heap.IsList l1 xs) (hl2 : s.heap.IsList l2 ys) (h1 : xs.size = n) (h2 : ys.size = n)
    (hp : ∀ i v₁ v₂, xs[i]? = some v₁ → ys[i]? = some v₂ → Pr i v₁ v₂) :
    wpAny (model prog w) A (call (.type "zip") [.ref l1, .ref l2]) (fun xv s₁ => wpAny (model prog w) A (pyIter xv) (fun it s₂ => ∃ I fp wr Pt St Mid, it = .ref I ∧ WalksT prog w A I fp wr n Pt St Mid ∧ St 0 s₂.heap ∧ (∀ b ∈ fp, b < s₂.heap.objs.size) ∧
      Keeps s₀ s₂ ∧ (∀ b ∈ wr, s₀.heap.get? b = none) ∧ ∀ i vals, Pt i vals → ∃ v₁ v₂, vals = #[v₁, v₂] ∧ Pr i v₁ v₂) E s₁) E s := by
  subst h1
  refine wpAny_mono (it_zip k₀ hh hl1 hl2 h2.symm) (fun xv s₁ h => wpAny_mono h (fun it s₂ h => ?_) fun _ _ e => e) fun _ _ e => e
  obtain ⟨I, fp, wr, Pt, St, Mid, a1, a2, a3, a4, a5, a6, a7⟩ := h
  exact ⟨I, fp, wr, Pt, St, Mid, a1, a2, a3, a4, a5, a6, fun i vals hv => let ⟨v₁, v₂, e, b1, b2⟩ := a7 i vals hv; ⟨v₁, v₂, e, hp i v₁ v₂ b1 b2⟩⟩
theorem len4 (a b c d : Value) : [a, b, c, d].length ≤ sizeLine := by rw [sizeLine_eq]; simp
theorem mod_nat (x : Int) (k : Nat) (hk : 0 < k) : ∃ n : Nat, n < k ∧ x.fmod k = (n : Int) := by
  refine ⟨(x.fmod k).toNat, ?_, ?_⟩
  all_goals
    rw [Int.fmod_eq_emod_of_nonneg _ (Int.natCast_nonneg k)]
  · exact (Int.toNat_lt (Int.emod_nonneg x (Int.ne_of_gt (Int.ofNat_lt.mpr hk)))).mpr (Int.emod_lt_of_pos x (Int.ofNat_lt.mpr hk))
  · exact (Int.toNat_of_nonneg (Int.emod_nonneg x (Int.ne_of_gt (Int.ofNat_lt.mpr hk)))).symm
theorem fmod2 (x : Int) : x.fmod 2 = 0 ∨ x.fmod 2 = 1 := by
  obtain ⟨n, hn, e⟩ := mod_nat x 2 (by decide)
  rw [show x.fmod 2 = (n : Int) from e]
  cases n with
  | zero => exact .inl rfl
  | succ n => cases n with
    | zero => exact .inr rfl
    | succ n => exact absurd hn (Nat.not_lt.mpr (Nat.le_add_left _ _))
theorem way2 {x : Int} (h : x = 0 ∨ x = 1) : 2 * x - 1 = 1 ∨ 2 * x - 1 = -1 := by
  rcases h with rfl | rfl
  · exact .inr rfl
  · exact .inl rfl
theorem fits3 {n : Nat} (h : n < 3) : fitsSsize (n : Int) = true := by unfold fitsSsize; simp; omega
theorem low3 {n : Nat} (h : n < 3) : -((strT "abc").length : Int) ≤ (n : Int) ∧ (n : Int) < ((strT "abc").length : Int) := by
  rw [show (strT "abc").length = 3 from rfl]; omega
theorem long1 {f z : Str} {l u : Option Int} (hf : f.length ≤ 3) (hz : z.length ≤ 1) : (Txt.slice f l u).length + z.length ≤ sizeLine := le_line (Nat.le_trans (Nat.add_le_add (Nat.le_trans (Txt.slice_le f l u) hf) hz) (by decide))
theorem long2 {f z : Str} {l u l' u' : Option Int} (hf : f.length ≤ 3) (hz : z.length ≤ 1) : (Txt.slice f l u ++ z).length + (Txt.slice f l' u').length ≤ sizeLine := by
  rw [Str.length_append]
  exact le_line (Nat.le_trans (Nat.add_le_add (Nat.add_le_add (Nat.le_trans (Txt.slice_le f l u) hf) hz) (Nat.le_trans (Txt.slice_le f l' u') hf)) (by decide))
theorem diff_nil {SF SB : IC} (h : ∀ k, (getC SF k).getD 0 = (getC SB k).getD 0) : diffC SF SB = [] := by
  unfold diffC
  rw [show (SF.map (·.1) ++ SB.map (·.1)).filter (fun k => (getC SF k).getD 0 != (getC SB k).getD 0) = [] from List.filter_eq_nil_iff.mpr fun k _ => by simp [h k]]
  rfl

theorem law_holds : PySem.Challenge.rw_st0005_01.Holds := Mine.hd (by
  k_go0
  rename_i w s₀ s₁ mg mb G Y fa o pm doc ho hg KX X V GL T B TE TW wA wO M w214 w216 hcd ns hsS hlay0 hLn hr0 hl2 as1 as2 aS vsS as3 hLS ra w1' r0 hIS hr1 hc63 hcT K0 hDf h₁ tk₁ F o1 o2 o3 e1 e2 e3 N0 X0
  have B0 : Bs w s₁.heap := ⟨KX, ⟨mg, GL.g⟩, ⟨mb, GL.b, GL.builtins⟩, GL.nolimit, GL.seer⟩
  have hRm := rm_law
  refine Mine.start (s := s₁) (tk := tk₁) (x := strT "script") (v := .ref aS) (n1 := strT "lean") (n2 := strT "rows") (n3 := strT "way") F N0 e1 e2 e3 (fun s' ks => ?_) (fun A' Q' E' sA hA' hend FV => ?_)
  · obtain ⟨h', t', rfl, kk⟩ := ks
    show GoodW _ _ _ _ _ (.ok (.ret (.bool true))) _
    refine ⟨.inl ⟨.bool true, .bool true, [], rfl, raisesW_false ?_, .bool true, ?_, unshared_nil⟩, kk, rfl, hg⟩
    · wrow_none_raised
    · kc_post
  have hS1 : s₁.heap.IsList aS vsS.toArray := hLS
  have hlen : vsS.toArray.size ≤ 63 := by
    have := hIS.length
    rw [List.size_toArray]; omega
  -- total
  have B1 := B0.le (keeps_le FV.outer)
  refine stm (wpAny_Assign_Name (wpAny_Call_NameR (B1.ldB (v := .builtin "sum") (by rfl) (by rfl) (by decide) ?_)))
  refine PyProof.Rows.callWith_builtin1 (args_cons (FV.ld (by rfl) (args_nil (sum_l (ns := ns) hA'.hh (hS1.at fun o e => keeps_le FV.outer _ _ e) hIS fun t1 s₂ k2 => ?_))))
  refine (FV.keeps k2).st fun s₃ F3 => ?_
  generalize ns.sum = total at F3
  -- way
  refine stm (wpAny_Assign_Name (wpAny_BinOp (wpAny_BinOp (wpAny_Constant_int (wpAny_BinOp (F3.rd.ld' (by rfl) (wpAny_Constant_int (PyProof.Rows.mod_int (by decide) ?_))))))))
  refine PyProof.Rows.mul_int (wpAny_Constant_int (PyProof.Rows.sub_int ?_)) (IntMulOk.of_left (by decide))
  have hw := way2 (fmod2 total)
  generalize hwy : 2 * total.fmod 2 - 1 = way at hw ⊢
  refine (F3.tok).st fun s₄ F4 => ?_
  -- letters
  obtain ⟨hperm, hstr, hkl2, hll3, hst2, hk3⟩ := leads_perm hw
  refine stm (wpAny_Assign_Name (slice_st2 (k := way) (x := strT "abc") (by rw [sizeLine_eq]; exact Nat.le_trans hll3 (by decide)) (by rcases hw with rfl | rfl <;> rfl)
    (wpAny_Constant_str ⟨⟨_, rfl⟩, (F4.tok).ld (by rfl) ⟨⟨_, rfl⟩, fun t' s₅ k5 => ?_⟩⟩)))
  refine (F4.keeps (keeps_trans (keeps_tok s₄ _) k5)).st fun s₆ F6 => ?_
  -- rows
  have B6 := B0.le (keeps_le F6.outer)
  refine stm (wpAny_Assign_Name (wpAny_Call_NameR (B6.ld (v := .ref 103) (by rfl) ?_)))
  refine callWith_K B6.K (kp_rows w) (args_cons (F6.ld (by rfl) (args_nil ⟨B6.K, ?_⟩)))
  refine lawrows_ok (items := vsS.toArray) (ns := ns) B6 (hA'.less (by decide)) (hS1.at fun o e => keeps_le F6.outer _ _ e) hIS hlen fun aR Rs s₇ k7 n7 hl3 hgood hRN => ?_
  obtain ⟨g1, F7, l1, nw⟩ := F6.new k7
  have hRA : RowsAt g1 aR Rs := hRN g1 nw
  refine F7.st fun s₈ F8 => ?_
  -- lean
  have hR8 : RowsAt s₈.heap aR Rs := hRA.le F8.keep
  have cell : ∀ {env : Env} {vs : List (Str × Value)} {A : Around} {E : Value → Shared → Prop} {s : Shared} {i j : Nat} {p1 p2 p3 p4 p5 : Pos} {Q : Value → Shared → Prop}, Rd env vs s.heap → Le g1 s.heap → vs.lookup (strT "rows") = some (.ref aR) → env.scope.kind = .function → kOk env (strT "rows") = true → i < 3 → j < 4 →
      (∀ t s', Keeps s s' → Q (.int (cellOf Rs i j) t) s') → wpAny (model Challenge.rw_st0005_01.row.prog w) A (eval (.Subscript (.Subscript (.Name (strT "rows") p1) (.Constant (.int (i : Int)) 0 p2) p3) (.Constant (.int (j : Int)) 0 p4) p5) env) Q E s := by
    intro env vs A E s i j p1 p2 p3 p4 p5 Q R hle hv hk ho hi hj h
    exact eval_cell (hRA.le hle) (hl3 ▸ hi) (Nat.le_trans (Nat.le_of_lt hi) (by decide)) hgood hj (fun Q' q => R.ld hv q hk ho) (fun Q' q => wpAny_Constant_int (q _ _ (keeps_tok _ _))) (fun s₁ Q' k q => wpAny_Constant_int (q _ _ (keeps_tok _ _))) h
  refine stm (wpAny_Assign_Name (PyProof.Rows.List_ ?_))
  refine args_cons (wpAny_BinOp (cell (i := 2) (j := 1) F8.rd F8.keep (by rfl) (by rfl) (by rfl) (by decide) (by decide) fun ta sa ka => cell (i := 1) (j := 2) (F8.keeps ka).rd (F8.keeps ka).keep (by rfl) (by rfl) (by rfl) (by decide) (by decide) fun tb sb kb => PyProof.Rows.sub_int ?_))
  have Fb := (F8.keeps (keeps_trans ka kb)).tok (t := sb.toks + 1)
  refine args_cons (wpAny_BinOp (cell (i := 0) (j := 2) Fb.rd Fb.keep (by rfl) (by rfl) (by rfl) (by decide) (by decide) fun tc sc kc => cell (i := 2) (j := 0) (Fb.keeps kc).rd (Fb.keeps kc).keep (by rfl) (by rfl) (by rfl) (by decide) (by decide) fun td sd kd => PyProof.Rows.sub_int ?_))
  have Fd := (Fb.keeps (keeps_trans kc kd)).tok (t := sd.toks + 1)
  refine args_cons (wpAny_BinOp (cell (i := 1) (j := 0) Fd.rd Fd.keep (by rfl) (by rfl) (by rfl) (by decide) (by decide) fun te se ke => cell (i := 0) (j := 1) (Fd.keeps ke).rd (Fd.keeps ke).keep (by rfl) (by rfl) (by rfl) (by decide) (by decide) fun tf sf kf => PyProof.Rows.sub_int ?_))
  have Ff := (Fd.keeps (keeps_trans ke kf)).tok (t := sf.toks + 1)
  refine args_nil (new_lst (len3 _ _ _) fun lL s₉ k9 n9 hlL => ?_)
  obtain ⟨g2, F9, l2, nw2⟩ := Ff.new k9
  have hLn : IL g2 lL (leanOf Rs) := ⟨_, list_new hlL n9 nw2, .cons ⟨_, rfl⟩ (.cons ⟨_, rfl⟩ (.cons ⟨_, rfl⟩ .nil))⟩
  have hRA2 := hRA.le l2
  refine F9.st fun s₁₀ F10 => ?_
  -- due
  have B10 := B0.le (keeps_le F10.outer)
  have htr : ∀ i j, i < 3 → Trit (cellOf Rs i j) := fun i j hi => getD_trit (hgood _ (by rw [List.getD_eq_getElem?_getD, List.getElem?_eq_getElem (hl3 ▸ hi)]; exact List.getElem_mem _)) j
  refine stm (lcCA F10 (List.range 4) (fun (j : Nat) v => ∃ t, v = .int (j : Int) t) (fun _ => true) (fun j y => ∃ t, y = .int (dueJ way Rs j) t) [(strT "lean", .ref lL), (strT "rows", .ref aR), (strT "way", .int way _)] (by rfl)
    (.cons (by rfl) (by rfl) (by rfl) (by rfl) (.cons (by rfl) (by rfl) (by rfl) (by rfl) (.cons (by rfl) (by rfl) (by rfl) (by rfl) .nil))) (it_range B10 hA'.hh (by decide) fun Q' q => wpAny_Constant_int (q _ _ (keeps_tok _ _))) ?_ ?_ ?_)
  · intros; exact no_test
  · rintro j hj _ C c v s₁₁ E' ⟨t, rfl⟩ kk R
    have hj4 : j < 4 := List.mem_range.mp hj
    have B11 := B10.le kk
    refine wpAny_BinOp (R.ld (by rfl) (wpAny_Call_NameR (B11.ldB (v := .builtin "sum") (by rfl) (by rfl) (by decide) ?_)))
    refine PyProof.Rows.callWith_builtin1 (args_cons (lc (List.range 3) (fun (i : Nat) v => ∃ t, v = .int (i : Int) t) (fun _ => true) (fun i y => ∃ t, y = .int ((leanOf Rs).getD i 0 * cellOf Rs i j) t) [(strT "j", .int (j : Int) t), (strT "lean", .ref lL), (strT "rows", .ref aR)] R (nats_inj _) (by rfl)
      (.cons (by rfl) (by rfl) (by rfl) (by rfl) (.cons (by rfl) (by rfl) (by rfl) (by rfl) (.cons (by rfl) (by rfl) (by rfl) (by rfl) .nil))) (it_range B11 hA'.hh (by decide) fun Q' q => wpAny_Constant_int (q _ _ (keeps_tok _ _))) ?_ ?_ ?_))
    · intros; exact no_test
    · rintro i hi _ C' v' s₁₂ E'' ⟨t', rfl⟩ kk' R'
      have hi3 : i < 3 := List.mem_range.mp hi
      have hle : Le g2 s₁₂.heap := (F10.keep.trans kk).trans kk'
      refine wpAny_BinOp (Subscript_ (R'.ld (by rfl) (R'.ld (by rfl) (sub_il2 (j := i) (hLn.le hle) hi3 (Nat.le_trans (Nat.le_of_lt hi3) (by decide)) fun t1 => ?_))))
      refine eval_cell (i := i) (j := j) (a := aR) (hRA2.le hle) (hl3 ▸ hi3) (Nat.le_trans (Nat.le_of_lt hi3) (by decide)) hgood hj4 (fun Q' q => R'.ld (by rfl) q) (fun Q' q => R'.ld (by rfl) (q _ _ (keeps_refl _))) (fun s₁ Q' k q => (R'.le (keeps_le k)).ld (by rfl) (q _ _ (keeps_refl _))) fun t2 s₁₃ k13 => ?_
      exact PyProof.Rows.mul_int ⟨⟨_, rfl⟩, keeps_trans k13 (keeps_tok _ _)⟩ (IntMulOk.of_right (trit_bits (htr i j hi3)))
    intro D s₁₂ ys k12 n12 hlD hpD
    rw [show (List.range 3).filter (fun _ => true) = List.range 3 from List.filter_eq_self.mpr (by simp)] at hpD
    refine args_nil (sum_l (ns := (List.range 3).map fun i => (leanOf Rs).getD i 0 * cellOf Rs i j) hA'.hh hlD (paired_ints (paired_map hpD)) fun t2 s₁₃ k13 => ?_)
    exact PyProof.Rows.mul_int ⟨⟨_, rfl⟩, keeps_trans k12 (keeps_trans k13 (keeps_tok _ _))⟩ (IntMulOk.of_left (by rcases hw with rfl | rfl <;> decide))
  intro aD s₁₁ ysD g3 F11 l3 hlD hpD
  rw [show (List.range 4).filter (fun _ => true) = List.range 4 from List.filter_eq_self.mpr (by simp)] at hpD
  have hRA3 := hRA2.le l3
  -- the first question
  obtain ⟨SF, SB, hSet, hdue⟩ := math_short hw hl3 hgood
  have B11 := B0.le (keeps_le F11.outer)
  refine stm (wpAny_If (wpAny_isTrue_Compare1 (wpAny_Call_NameR (B11.ld (v := .ref 123) (by rfl) ?_))))
  refine callWith_K B11.K (kp_less w) (args_cons (F11.ld (by rfl) (args_cons (F11.ld (by rfl) (args_cons (F11.ld (by rfl) (args_nil ⟨B11.K, ?_⟩)))))))
  refine less_ok2 (word := lettersOf way) B11 (hA'.less (by decide)) hw (hRA3.le F11.keep) hl3 hgood hSet fun aX s₁₂ k12 n12 hX => ?_
  have F12 := F11.keeps k12
  have B12 := B0.le (keeps_le F12.outer)
  have hlD12 : s₁₂.heap.IsList aD ysD := hlD.at fun o e => F12.keep _ o e
  have hszD : ysD.size = 4 := by have := hpD.length; rw [List.length_range, Array.length_toList] at this; exact this.symm
  refine dc2 B12 hA'.hh (fun i => dueJ way Rs i != 0) (fun i => dueW.getD i (strT "")) (dueJ way Rs) 4 (by decide) (fun i v₁ v₂ => (∃ t, v₁ = .str (dueW.getD i (strT "")) t) ∧ ∃ t, v₂ = .int (dueJ way Rs i) t) (by rfl) ?_ ?_ ?_ ?_ ?_
  · refine wpAny_Call_NameR (B12.ldB (v := .type "zip") (by rfl) (by rfl) (by decide) ?_)
    refine PyProof.Rows.callWith_type1 (args_cons (PyProof.Rows.List_ (args_cons (wpAny_Constant_str (args_cons (wpAny_Constant_str (args_cons (wpAny_Constant_str (args_cons (wpAny_Constant_str (args_nil ?_)))))))))))
    refine new_lst (len4 _ _ _ _) fun lZ s₁₃ k13 n13 hlZ => ?_
    have k13 := keeps_trans (keeps_tok s₁₂ _) k13
    have F13 := F12.keeps k13
    refine args_cons (F13.ld (by rfl) (args_nil (it_zip2 _ k13 hA'.hh hlZ (hlD12.at fun o e => keeps_le k13 _ _ e) (by rfl) hszD fun i v₁ v₂ h1 h2 => ⟨?_, ?_⟩)))
    · match i, h1 with
      | 0, h1 => simp at h1; exact ⟨_, h1.symm⟩
      | 1, h1 => simp at h1; exact ⟨_, h1.symm⟩
      | 2, h1 => simp at h1; exact ⟨_, h1.symm⟩
      | 3, h1 => simp at h1; exact ⟨_, h1.symm⟩
      | i + 4, h1 => simp at h1
    · obtain ⟨j, hj, t, rfl⟩ := paired_get hpD (by rw [Array.getElem?_toList]; exact h2)
      have : j = i := by
        rw [List.getElem?_range (hszD ▸ (Array.getElem?_eq_some_iff.mp h2).1)] at hj
        cases hj; rfl
      exact ⟨t, by rw [this]⟩
  · rintro i v₁ v₂ C s₁₃ E' ⟨_, t2, rfl⟩ kk R
    exact wpAny_tests_one (wpAny_isTrue_Compare1 (R.ld (by rfl) (wpAny_Constant_int (PyProof.Rows.ne_int (wpAny_truthy_bool ⟨rfl, keeps_tok _ _⟩)))))
  · rintro i v₁ v₂ C s₁₃ E' _ ⟨⟨t1, rfl⟩, _⟩ kk R
    exact R.ld (by rfl) ⟨⟨t1, rfl⟩, keeps_refl _⟩
  · rintro i v₁ v₂ C s₁₃ E' _ ⟨_, t2, rfl⟩ kk R
    exact R.ld (by rfl) ⟨⟨t2, rfl⟩, keeps_refl _⟩
  intro aY s₁₃ k13 n13 hY
  refine id_ne (hX.le (keeps_le k13)) hY (due_same hdue) hA'.u0 (wpAny_truthy_bool (ite_f (wpAny_execs_nil ?_)))
  have F13 := F12.keeps k13
  -- spot
  obtain ⟨spot, hsp, espot⟩ := mod_nat (total.fdiv 4 + 2) 4 (by decide)
  refine stm (wpAny_Assign_Name (wpAny_BinOp (wpAny_BinOp (wpAny_BinOp (F13.ld (by rfl) (wpAny_Constant_int (PyProof.Rows.floordiv_int (by decide) ?_)))))))
  refine wpAny_Constant_int (wpAny_add_int (wpAny_Constant_int (PyProof.Rows.mod_int (by decide) ?_)))
  rw [show ((total.fdiv 4 + 2).fmod 4 : Int) = (spot : Int) from espot]
  refine (F13.tok).st fun s₁₄ F14 => ?_
  -- longer
  obtain ⟨xi, hxi, exi⟩ := mod_nat (total.fdiv 16 + 1) 3 (by decide)
  have hzL : (lettersOf way).length ≤ sizeLine := le_line (Nat.le_trans hll3 (by decide))
  refine stm (wpAny_Assign_Name (wpAny_BinOp (wpAny_BinOp (slice_ok' (l := none) (u := some (spot : Int)) (x := lettersOf way) hzL (fun Q' q => F14.ld (by rfl) (q _ (keeps_refl _)))
    (fun Q' s₁ k₁ q => wpAny_evalPart_none (q _ _ k₁ rfl)) (fun Q' s₁ k₁ q => wpAny_evalPart_some ((F14.keeps k₁).ld (by rfl) (q _ _ k₁ ⟨_, rfl⟩))) fun t3 s₁₅ k15 => ?_))))
  have F15 := F14.keeps k15
  refine Subscript_ (wpAny_Constant_str (wpAny_BinOp (wpAny_BinOp (wpAny_BinOp ((F15.tok).ld (by rfl) (wpAny_Constant_int (PyProof.Rows.floordiv_int (by decide) ?_)))))))
  refine wpAny_Constant_int (wpAny_add_int (wpAny_Constant_int (PyProof.Rows.mod_int (by decide) ?_)))
  rw [show ((total.fdiv 16 + 1).fmod 3 : Int) = (xi : Int) from exi]
  refine PyProof.Rows.item_str (x := strT "abc") (i := (xi : Int)) (fits3 hxi) (low3 hxi).1 (low3 hxi).2 fun hit => ?_
  refine PyProof.Rows.add_str (fun t4 tk4 => ?_) (long1 hll3 hit.2)
  have F16 := F15.tok (t := tk4)
  refine slice_ok' (l := some (spot : Int)) (u := none) (x := lettersOf way) hzL (fun Q' q => F16.ld (by rfl) (q _ (keeps_refl _)))
    (fun Q' s₁ k₁ q => wpAny_evalPart_some ((F16.keeps k₁).ld (by rfl) (q _ _ k₁ ⟨_, rfl⟩))) (fun Q' s₁ k₁ q => wpAny_evalPart_none (q _ _ k₁ rfl)) fun t5 s₁₇ k17 => ?_
  refine PyProof.Rows.add_str (fun t6 tk6 => ?_) (long2 hll3 hit.2)
  refine ((F16.keeps k17).tok).st fun s₁₈ F18 => ?_
  -- the second question
  obtain ⟨kind, hkd, ekd⟩ := mod_nat (total.fdiv 2) 2 (by decide)
  obtain ⟨SF2, SB2, hSet2, hsame⟩ := math_long (kind := (kind : Int)) hw hl3 hgood hsp hxi
  have B18 := B0.le (keeps_le F18.outer)
  refine stm (wpAny_Return_some (wpAny_Compare1 (wpAny_Call_NameR (B18.ld (v := .ref 123) (by rfl) ?_))))
  refine callWith_K B18.K (kp_less w) (args_cons (F18.ld (by rfl) (args_cons (wpAny_Call_NameR (B18.ld (v := .ref 108) (by rfl) ?_)))))
  refine callWith_K B18.K (kp_mend w) (args_cons (F18.ld (by rfl) (args_cons (wpAny_BinOp (wpAny_BinOp (F18.ld (by rfl) (wpAny_Constant_int (PyProof.Rows.floordiv_int (by decide) ?_))))))))
  refine wpAny_Constant_int (PyProof.Rows.mod_int (by decide) ?_)
  rw [show ((total.fdiv 2).fmod 2 : Int) = (kind : Int) from ekd]
  refine args_nil ⟨B18.K, ?_⟩
  have F19 := F18.tok (t := s₁₈.toks + 1 + 1 + 1 + 1)
  refine mended_ok (Rs := Rs) (B0.le (keeps_le F19.outer)) (hA'.less (by decide)) (hRA3.le F19.keep) hl3 hgood fun aM s₂₀ k20 n20 hM => ?_
  obtain ⟨hml, hmg⟩ := mend_good (kind := (kind : Int)) hl3 hgood
  have hM20 : RowsAt s₂₀.heap aM (mendOf (kind : Int) Rs) := hM s₂₀.heap fun b o _ e => e
  have F20 := F19.keeps k20
  have B20 := B0.le (keeps_le F20.outer)
  refine args_cons (F20.ld (by rfl) (args_nil ⟨B20.K, ?_⟩))
  refine less_ok2 (word := longerOf way spot xi) B20 (hA'.less (by decide)) hw hM20 hml hmg hSet2 fun aX2 s₂₁ k21 n21 hX2 => ?_
  have F21 := F20.keeps k21
  have B21 := B0.le (keeps_le F21.outer)
  refine wpAny_Dict_empty (eq_empty (B21.notMods (get_size _)) hX2 hA'.u0 fun s₂₂ k22 => ?_)
  have F22 := F21.keeps k22
  rw [diff_nil hsame]
  exact hend _ F22.outer)
end Mine

theorem PySem.Challenge.cw_st0005_01_holds : PySem.Challenge.rw_st0005_01.Holds :=
  Mine.law_holds
