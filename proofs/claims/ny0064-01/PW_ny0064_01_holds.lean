import PyProof.Rows.All
import Wide.All
import OpenK.AllK
import Wide.FinOn
import PySem.Challenge.RW_ny0064_01
open PySem PySem.W PyProof.Rows
set_option Elab.async false
set_option maxRecDepth 100000
set_option linter.unusedVariables false

namespace Mine
set_option maxHeartbeats 8000000 in
open_top hd for PySem.Challenge.rw_ny0064_01
end Mine

-- MBase
namespace Mine

/-- the text -/
abbrev PG : Program := PySem.Challenge.rw_ny0064_01.row.prog
/-- the written part of the heap -/
noncomputable abbrev KF (w : World) : Frag := hd.heap_39 w.params

abbrev LV := List (Str × Value)

/-- the ground: what stands in every heap of the call -/
structure Gr (w : World) (h : Heap) : Prop where
  k : (KF w).In h
  t : ∃ p loose mg mb, TopRead p loose mg mb h

theorem Gr.keeps {w : World} {h h' : Heap} (G : Gr w h) (hk : ∀ b o, h.get? b = some o → h'.get? b = some o) : Gr w h' :=
  ⟨G.k.keeps hk, let ⟨p, l, mg, mb, T⟩ := G.t; ⟨p, l, mg, mb, T.keeps hk⟩⟩

theorem krfl {s : Shared} : Keeps s s := ⟨_, _, rfl, fun _ _ e => e⟩
theorem ktok {s : Shared} (t : Nat) : Keeps s { s with toks := t } := ⟨_, t, rfl, fun _ _ e => e⟩
theorem kt {a b c : Shared} (x : Keeps a b) (y : Keeps b c) : Keeps a c := by
  obtain ⟨h, tk, rfl, k⟩ := x
  obtain ⟨h', tk', rfl, k'⟩ := y
  exact ⟨h', tk', rfl, fun b o e => k' b o (k b o e)⟩
theorem kget {a b : Shared} (x : Keeps a b) : ∀ c o, a.heap.get? c = some o → b.heap.get? c = some o := by
  obtain ⟨h, tk, rfl, k⟩ := x; exact k
theorem Gr.to {w : World} {s s' : Shared} (G : Gr w s.heap) (k : Keeps s s') : Gr w s'.heap := G.keeps (kget k)

/-- a frame of the call: what its locals and cells hold, and what it has made -/
structure Fn (s₀ : Shared) (env : Env) (l c : List (Str × Value)) (N : List (Addr × Obj)) (s : Shared) : Prop where
  inn : ∃ m cm, InCallC s₀ env.locals m env.cells cm s ∧ (∀ n v, l.lookup n = some v → m n = some v) ∧ (∀ n v, c.lookup n = some v → cm n = some v)
  new : ∀ p ∈ N, s.heap.get? p.1 = some p.2 ∧ s₀.heap.get? p.1 = none ∧ p.1 ≠ env.locals ∧ (∀ n a, env.cells.lookup n = some a → p.1 ≠ a)
  apart : N.Pairwise fun p q => p.1 ≠ q.1

section
variable {w : World} {M : Model} {A : Around} {E : Value → Shared → Prop} {s₀ s s' : Shared} {env : Env} {l c l' c' : List (Str × Value)} {N N' : List (Addr × Obj)} {n : Str} {v : Value}

theorem Fn.base (F : Fn s₀ env l c N s) : Keeps s₀ s := let ⟨_, _, x, _⟩ := F.inn; x.done
theorem Fn.kp (F : Fn s₀ env l c N s) (k : Keeps s s') : Fn s₀ env l c N s' := by
  obtain ⟨h, tk, rfl, k⟩ := k
  exact ⟨let ⟨m, cm, x, y, z⟩ := F.inn; ⟨m, cm, x.kept k, y, z⟩, fun p hp => ⟨k _ _ (F.new p hp).1, (F.new p hp).2⟩, F.apart⟩
theorem Fn.tk (F : Fn s₀ env l c N s) (t : Nat) : Fn s₀ env l c N { s with toks := t } := F.kp (ktok t)
theorem Fn.gr (F : Fn s₀ env l c N s) (G : Gr w s₀.heap) : Gr w s.heap := G.to F.base

theorem look_of {l l' : List (Str × Value)} (h : ∀ p ∈ l', l.lookup p.1 = some p.2) : ∀ n v, l'.lookup n = some v → l.lookup n = some v := fun n v e => by
  have : (n, v) ∈ l' := by
    induction l' with
    | nil => cases e
    | cons p r ih =>
      obtain ⟨a, b⟩ := p
      rw [List.lookup_cons] at e
      cases hq : n == a with
      | true => rw [hq] at e; cases e; rw [eq_of_beq hq]; exact List.mem_cons_self
      | false => rw [hq] at e; exact List.mem_cons_of_mem _ (ih (fun p hp => h p (List.mem_cons_of_mem _ hp)) e)
  exact h _ this
theorem mem_of_map {l' : List (Str × Value)} {g : Str → Option Value} (h : (l'.map fun p => g p.1) = l'.map fun p => some p.2) : ∀ p ∈ l', g p.1 = some p.2 := by
  induction l' with
  | nil => intro p hp; cases hp
  | cons q r ih =>
    rw [List.map_cons, List.map_cons, List.cons.injEq] at h
    intro p hp
    rcases List.mem_cons.mp hp with rfl | hp
    · exact h.1
    · exact ih h.2 p hp
theorem Fn.weak (F : Fn s₀ env l c N s) (hN : N'.Sublist N) (hl : (l'.map fun p => l.lookup p.1) = l'.map fun p => some p.2) (hc : (c'.map fun p => c.lookup p.1) = c'.map fun p => some p.2) : Fn s₀ env l' c' N' s :=
  ⟨let ⟨m, cm, x, y, z⟩ := F.inn; ⟨m, cm, x, fun n v e => y n v (look_of (mem_of_map (g := fun n => l.lookup n) hl) n v e), fun n v e => z n v (look_of (mem_of_map (g := fun n => c.lookup n) hc) n v e)⟩, fun p hp => F.new p (hN.subset hp), F.apart.sublist hN⟩
theorem Fn.weakl (F : Fn s₀ env l c N s) (hl : (l'.map fun p => l.lookup p.1) = l'.map fun p => some p.2) : Fn s₀ env l' c N s :=
  ⟨let ⟨m, cm, x, y, z⟩ := F.inn; ⟨m, cm, x, fun n v e => y n v (look_of (mem_of_map (g := fun n => l.lookup n) hl) n v e), z⟩, F.new, F.apart⟩
theorem Fn.sub (F : Fn s₀ env l c N s) (hN : N'.Sublist N) : Fn s₀ env l c N' s := ⟨F.inn, fun p hp => F.new p (hN.subset hp), F.apart.sublist hN⟩
theorem Fn.perm (F : Fn s₀ env l c N s) (hN : N.Perm N') : Fn s₀ env l c N' s := ⟨F.inn, fun p hp => F.new p (hN.mem_iff.mpr hp), hN.pairwise F.apart (fun h => Ne.symm h)⟩

theorem Fn.live (F : Fn s₀ env l c N s) : (∃ o, s.heap.get? env.locals = some o) ∧ ∀ n a, env.cells.lookup n = some a → ∃ o, s.heap.get? a = some o := by
  obtain ⟨m, cm, x, _⟩ := F.inn
  obtain ⟨o, _, _, ho, _⟩ := x.toInCall.ns
  exact ⟨⟨o, ho⟩, fun n a e => let ⟨o, ho, _⟩ := x.cell n a e; ⟨o, ho⟩⟩

/-- a new object -/
theorem Fn.mk1 {a : Addr} {o : Obj} (F : Fn s₀ env l c N s) (k : Keeps s s') (ha : s'.heap.get? a = some o) (hn : s.heap.get? a = none) : Fn s₀ env l c ((a, o) :: N) s' := by
  have F' := F.kp k
  obtain ⟨⟨oL, hL⟩, hC⟩ := F.live
  have ne : ∀ b o', s.heap.get? b = some o' → a ≠ b := fun b o' e q => by rw [← q, hn] at e; cases e
  refine ⟨F'.inn, fun p hp => ?_, List.pairwise_cons.mpr ⟨fun p hp => ne _ _ (F.new p hp).1, F.apart⟩⟩
  rcases List.mem_cons.mp hp with rfl | hp
  · refine ⟨ha, ?_, ne _ _ hL, fun n b e => let ⟨o, ho⟩ := hC n b e; ne _ _ ho⟩
    cases hq : s₀.heap.get? a with
    | none => rfl
    | some o' => have := kget F.base _ _ hq; rw [hn] at this; cases this
  · exact F'.new p hp

/-- an object of the frame's own is turned -/
theorem Fn.upd {a : Addr} {o o' : Obj} {h' : Heap} {tk : Nat} (F : Fn s₀ env l c ((a, o) :: N) s) (hs : ∀ b o, b ≠ a → s.heap.get? b = some o → h'.get? b = some o) (ho : h'.get? a = some o') : Fn s₀ env l c ((a, o') :: N) { s with heap := h', toks := tk } := by
  obtain ⟨_, ha0, haL, haC⟩ := F.new (a, o) List.mem_cons_self
  obtain ⟨hap, hr⟩ := List.pairwise_cons.mp F.apart
  refine ⟨?_, fun p hp => ?_, List.pairwise_cons.mpr ⟨fun p hp => hap p hp, hr⟩⟩
  · obtain ⟨m, cm, x, y, z⟩ := F.inn
    refine ⟨m, cm, ⟨⟨?_, x.toInCall.ns.extBut (b := a) (fun b o hb e => hs b o hb e) (Ne.symm haL), fun b o e => hs b o (fun q => by rw [q, ha0] at e; cases e) (x.toInCall.keep b o e), x.toInCall.fresh⟩, fun k d hk => ?_, x.apart, x.above⟩, y, z⟩
    · obtain ⟨h₁, t₁, rfl⟩ := x.toInCall.same
      exact ⟨h', tk, rfl⟩
    · obtain ⟨o, h1, h2⟩ := x.cell k d hk
      exact ⟨o, hs d o (Ne.symm (haC k d hk)) h1, h2⟩
  · rcases List.mem_cons.mp hp with rfl | hp
    · exact ⟨ho, ha0, haL, haC⟩
    · have q := F.new p (List.mem_cons_of_mem _ hp)
      exact ⟨hs p.1 p.2 (Ne.symm (hap p hp)) q.1, q.2⟩

theorem Fn.ldn {Q : Value → Shared → Prop} (F : Fn s₀ env l c N s) (hv : l.lookup n = some v) (h : Q v s) (hl : env.kindOf n = some .local := by kernel_rfl) (hk : env.scope.kind = .function := by kernel_rfl) : wpAny M A (loadName env n) Q E s :=
  let ⟨_, _, x, y, _⟩ := F.inn; ldLC x hk hl (y _ _ hv) h
theorem Fn.ld {pos : Pos} {Q : Value → Shared → Prop} (F : Fn s₀ env l c N s) (hv : l.lookup n = some v) (h : Q v s) (hl : env.kindOf n = some .local := by kernel_rfl) (hk : env.scope.kind = .function := by kernel_rfl)
    (hd : (n == ("__debug__" : Str)) = false := by rfl) : wpAny M A (eval (.Name n pos) env) Q E s := wpAny_Name (F.ldn hv h hl hk) hd
theorem Fn.ldcn {Q : Value → Shared → Prop} (F : Fn s₀ env l c N s) (hv : c.lookup n = some v) (h : Q v s) (hl : env.kindOf n = some .cell := by kernel_rfl) (hc : (env.cells.lookup n).isSome = true := by kernel_rfl) (hk : env.scope.kind = .function := by kernel_rfl) : wpAny M A (loadName env n) Q E s :=
  let ⟨_, _, x, _, z⟩ := F.inn; let ⟨_, e⟩ := Option.isSome_iff_exists.mp hc; ldCC x hk hl e (z _ _ hv) h
theorem Fn.ldc {pos : Pos} {Q : Value → Shared → Prop} (F : Fn s₀ env l c N s) (hv : c.lookup n = some v) (h : Q v s) (hl : env.kindOf n = some .cell := by kernel_rfl) (hc : (env.cells.lookup n).isSome = true := by kernel_rfl) (hk : env.scope.kind = .function := by kernel_rfl)
    (hd : (n == ("__debug__" : Str)) = false := by rfl) : wpAny M A (eval (.Name n pos) env) Q E s := wpAny_Name (F.ldcn hv h hl hc hk) hd

theorem Fn.st {Q : Unit → Shared → Prop} (F : Fn s₀ env l c N s) (h : ∀ s', Fn s₀ env ((n, v) :: l) c N s' → Q () s') (hl : env.kindOf n = some .local := by kernel_rfl) (hk : env.scope.kind = .function := by kernel_rfl) : wpAny M A (storeName env n v) Q E s := by
  obtain ⟨m, cm, x, y, z⟩ := F.inn
  refine wpAny_storeName_local hl x.toInCall.ns (fun h' hn' hs' => h _ ⟨⟨fun y => if y = n then some v else m y, cm, ⟨⟨?_, hn', fun b o e => ?_, x.toInCall.fresh⟩, fun k c hc => ?_, x.apart, x.above⟩, fun k u e => ?_, z⟩, fun p hp => ?_, F.apart⟩) (by rw [hk]; rfl)
  · obtain ⟨h₁, tk, rfl⟩ := x.toInCall.same
    exact ⟨h', _, rfl⟩
  · exact hs'.extBut b o (Nat.ne_of_lt (Nat.lt_of_lt_of_le (Heap.lt_size e) x.toInCall.fresh)) (x.toInCall.keep b o e)
  · exact (x.cell k c hc).sameBut hs' (Nat.ne_of_gt (x.above k c (mem_of_lookup hc)))
  · rw [List.lookup_cons] at e
    cases hq : k == n with
    | true => rw [hq] at e; cases e; simp [eq_of_beq hq]
    | false => rw [hq] at e; have : k ≠ n := fun q => by simp [q] at hq
               simp [this]; exact y _ _ e
  · have q := F.new p hp
    exact ⟨hs'.extBut _ _ q.2.2.1 q.1, q.2⟩
theorem Fn.stc {Q : Unit → Shared → Prop} (F : Fn s₀ env l c N s) (h : ∀ s', Fn s₀ env l ((n, v) :: c) N s' → Q () s') (hl : env.kindOf n = some .cell := by kernel_rfl) (hc : (env.cells.lookup n).isSome = true := by kernel_rfl) (hk : env.scope.kind = .function := by kernel_rfl) : wpAny M A (storeName env n v) Q E s := by
  obtain ⟨m, cm, x, y, z⟩ := F.inn
  obtain ⟨a, ha⟩ := Option.isSome_iff_exists.mp hc
  have hLc := x.above n a (mem_of_lookup ha)
  refine wpAny_storeName_cell hk hl ha (x.cell n a ha) fun h' hc' hs' => h _ ⟨⟨m, fun y => if y = n then some v else cm y, ⟨⟨?_, x.toInCall.ns.sameBut hs' (Nat.ne_of_lt hLc), fun b o e => ?_, x.toInCall.fresh⟩, fun k c' hk' => ?_, x.apart, x.above⟩, y, fun k u e => ?_⟩, fun p hp => ?_, F.apart⟩
  · obtain ⟨h₁, tk, rfl⟩ := x.toInCall.same
    exact ⟨h', _, rfl⟩
  · exact hs'.extBut b o (Nat.ne_of_lt (Nat.lt_trans (Nat.lt_of_lt_of_le (Heap.lt_size e) x.toInCall.fresh) hLc)) (x.toInCall.keep b o e)
  · by_cases hkn : k = n
    · subst hkn
      rw [ha] at hk'; cases hk'
      simpa using hc'
    · rw [if_neg hkn]
      exact (x.cell k c' hk').sameBut hs' fun e => hkn (name_of_addr x.apart (mem_of_lookup hk') (e ▸ mem_of_lookup ha))
  · rw [List.lookup_cons] at e
    cases hq : k == n with
    | true => rw [hq] at e; cases e; simp [eq_of_beq hq]
    | false => rw [hq] at e; have : k ≠ n := fun q => by simp [q] at hq
               simp [this]; exact z _ _ e
  · have q := F.new p hp
    exact ⟨hs'.extBut _ _ (q.2.2.2 n a ha) q.1, q.2⟩
end
end Mine

-- MCall
namespace Mine

section
variable {w : World} {A : Around} {E : Value → Shared → Prop} {s₀ s : Shared} {env : Env} {l c : List (Str × Value)} {N : List (Addr × Obj)}

/-- what a body hands back -/
def outOf : Flow → Value
  | .ret v => v
  | _ => .none

noncomputable def obK (P : Params) (f : Addr) : Obj := ((hd.heap_39 P).lookup f).getD default
noncomputable def fdK (P : Params) (f : Addr) : FuncData := match (obK P f).data with
  | .func fd => fd
  | _ => default
noncomputable def bodyK (P : Params) (f : Addr) : List Stmt := match (fdK P f).body with
  | .stmts b => b
  | _ => []
/-- the frame of a def of the text -/
noncomputable abbrev envK (w : World) (L f : Addr) : Env := callEnvC (fdK w.params f) L f

/-- a def of the text is entered -/
theorem enter (f : Addr) {vals : List Value} (binds l c : LV) {Q : Value → Shared → Prop}
    (G : Gr w s.heap) (hroom : A.depth < recursionLimit)
    (h : ∀ L s₁ E', L = s.heap.objs.size → Fn s (envK w L f) l c [] s₁ → wpAny (model PG w) (A.deeper (envK w L f)) (execs (bodyK w.params f) (envK w L f)) (fun fl s' => Q (outOf fl) s') E' s₁)
    (hf : (KF w).lookup f = some (obK w.params f) := by kernel_rfl) (hfd : (obK w.params f).data = .func (fdK w.params f) := by kernel_rfl)
    (hcd : codeIn (KF w) (fdK w.params f).code (fdK w.params f).qualname = true := by kernel_rfl) (hbody : (fdK w.params f).body = .stmts (bodyK w.params f) := by kernel_rfl)
    (hbind : ∀ S, peek (KF w) S (bindArgs (fdK w.params f) ⟨vals, []⟩) = some binds := by intro S; kernel_rfl) (hclo : (fdK w.params f).closure = [] := by kernel_rfl)
    (hkind : (binds.all fun y => (fdK w.params f).scope.names.lookup y.1 == some .local || (fdK w.params f).scope.names.lookup y.1 == some .cell) = true := by kernel_rfl)
    (hl : ∀ L, (l.map fun p => bindL (envK w L f).kindOf binds (fun _ => none) p.1) = l.map fun p => some p.2 := by intro L; kernel_rfl)
    (hc : ∀ L, (c.map fun p => bindC (envK w L f).kindOf binds (fun _ => none) p.1) = c.map fun p => some p.2 := by intro L; kernel_rfl)
    (hco : (fdK w.params f).scope.isCoroutine = false := by kernel_rfl) (hgen : (fdK w.params f).scope.isGenerator = false := by kernel_rfl) (hk : (fdK w.params f).scope.kind = .function := by kernel_rfl) :
    wpAny (model PG w) A (call (.ref f) vals) Q E s := by
  refine wpAny_call (codeAny_call_function hroom (G.k _ _ hf) hfd hco hgen hbody (codeRec_of G.k hcd) ?_)
  refine kp_binds G.k hbind _ _ _ _ ?_
  rw [hclo]
  refine wpAny_newFunctionEnv_cells hk (kindsX hkind _) fun env he s' x => ?_
  subst he
  obtain ⟨p, lo, mg, mb, T⟩ := G.t
  have mem : ∀ {l : LV} {n : Str} {v : Value}, l.lookup n = some v → (n, v) ∈ l := fun {l n v} e => by
    induction l with
    | nil => cases e
    | cons q r ih =>
      obtain ⟨a, b⟩ := q
      rw [List.lookup_cons] at e
      cases hq : n == a with
      | true => rw [hq] at e; cases e; rw [eq_of_beq hq]; exact List.mem_cons_self
      | false => rw [hq] at e; exact List.mem_cons_of_mem _ (ih e)
  exact ⟨T.nolimit.keeps x.toInCall.keep, codeAny_func (h _ s' _ rfl ⟨⟨_, _, x, fun n v e => mem_of_map (g := fun n => bindL (envK w s.heap.objs.size f).kindOf binds (fun _ => none) n) (hl _) _ (mem e), fun n v e => mem_of_map (g := fun n => bindC (envK w s.heap.objs.size f).kindOf binds (fun _ => none) n) (hc _) _ (mem e)⟩, fun p hp => (nomatch hp), List.Pairwise.nil⟩)⟩


/-- a frame that is read alone -/
structure Rd (env : Env) (l c : LV) (s : Shared) : Prop where
  ns : ∃ m, s.heap.Ns env.locals m ∧ ∀ n v, l.lookup n = some v → m n = some v
  cells : ∀ n v, c.lookup n = some v → ∃ a, env.cells.lookup n = some a ∧ s.heap.IsCell a (some v)
theorem Rd.kp {s' : Shared} (R : Rd env l c s) (k : Keeps s s') : Rd env l c s' :=
  ⟨let ⟨m, x, y⟩ := R.ns; ⟨m, x.keeps (kget k), y⟩, fun n v e => let ⟨a, x, y⟩ := R.cells n v e; ⟨a, x, y.keeps (kget k)⟩⟩
theorem Rd.tk (R : Rd env l c s) (t : Nat) : Rd env l c { s with toks := t } := R.kp (ktok t)
theorem Rd.ldn {M : Model} {n : Str} {v : Value} {Q : Value → Shared → Prop} (F : Rd env l c s) (hv : l.lookup n = some v) (h : Q v s) (hl : env.kindOf n = some .local := by kernel_rfl) (hk : env.scope.kind = .function := by kernel_rfl) : wpAny M A (loadName env n) Q E s :=
  let ⟨_, x, y⟩ := F.ns; wpAny_loadName_local hk hl x (y _ _ hv) h
theorem Rd.ld {M : Model} {n : Str} {v : Value} {pos : Pos} {Q : Value → Shared → Prop} (F : Rd env l c s) (hv : l.lookup n = some v) (h : Q v s) (hl : env.kindOf n = some .local := by kernel_rfl) (hk : env.scope.kind = .function := by kernel_rfl)
    (hd : (n == ("__debug__" : Str)) = false := by rfl) : wpAny M A (eval (.Name n pos) env) Q E s := wpAny_Name (F.ldn hv h hl hk) hd
theorem Rd.ldc {M : Model} {n : Str} {v : Value} {pos : Pos} {Q : Value → Shared → Prop} (F : Rd env l c s) (hv : c.lookup n = some v) (h : Q v s) (hl : env.kindOf n = some .cell := by kernel_rfl) (hk : env.scope.kind = .function := by kernel_rfl)
    (hd : (n == ("__debug__" : Str)) = false := by rfl) : wpAny M A (eval (.Name n pos) env) Q E s :=
  let ⟨_, e, x⟩ := F.cells _ _ hv; wpAny_Name (wpAny_loadName_cell hk hl e x h) hd
/-- a name of the text's own top -/
theorem Rd.gl {M : Model} {x : Str} {pos : Pos} {v : Value} {Q : Value → Shared → Prop} (F : Rd env l c s) (G : Gr w s.heap) (h : Q v s) (e : nsIn (KF w) mainGlobals x = some (some v) := by kernel_rfl)
    (hx : env.kindOf x = some .globalImplicit := by rfl) (hk : env.scope.kind = .function := by rfl) (hg : env.globals = mainGlobals := by rfl) (hd : (x == ("__debug__" : Str)) = false := by rfl) :
    wpAny M A (eval (.Name x pos) env) Q E s := by
  have G' := G
  obtain ⟨p, lo, mg, mb, T⟩ := G'.t
  exact Calls.Name_function_global hk hx (Calls.loadGlobal_global (by rw [hg]; exact T.g) (mg_of G'.k T.g e) h) hd
/-- a name of the built-ins -/
theorem Rd.gb {M : Model} {x : Str} {pos : Pos} {v : Value} {Q : Value → Shared → Prop} (F : Rd env l c s) (G : Gr w s.heap) (h : Q v s) (e : nsIn (KF w) mainGlobals x = some none := by kernel_rfl) (hv : bootBuiltins x = some v := by boot_by_name) (hn : x ≠ "__name__" := by decide)
    (hx : env.kindOf x = some .globalImplicit := by rfl) (hk : env.scope.kind = .function := by rfl) (hg : env.globals = mainGlobals := by rfl) (hb : env.builtins = builtinsNs := by rfl) (hd : (x == ("__debug__" : Str)) = false := by rfl) :
    wpAny M A (eval (.Name x pos) env) Q E s := by
  have G' := G
  obtain ⟨p, lo, mg, mb, T⟩ := G'.t
  exact Calls.Name_function_global hk hx (Calls.loadGlobal_builtin (by rw [hg]; exact T.g) (mg_none_of G'.k T.g e) (by rw [hb]; exact T.b) ((T.builtins x hn).trans hv) h) hd

abbrev env_gb (env : Env) (f : Str) : Prop := env.kindOf f = some .globalImplicit ∧ env.scope.kind = .function ∧ env.globals = mainGlobals ∧ env.builtins = builtinsNs ∧ (f == ("__debug__" : Str)) = false
theorem Rd.callee {M : Model} {f : Str} {p pos : Pos} {args : List Expr} {fv : Value} {trees : List (Bool × Sem Value)} {Q : Value → Shared → Prop} (F : Rd env l c s) (G : Gr w s.heap) (hns : nsIn (KF w) mainGlobals f = some none) (hv : bootBuiltins f = some fv) (hn : f ≠ "__name__") (hE : env_gb env f)
    (hs : starEach args env = trees) (ht : trees.any (·.1) = false) (h : wpAny M A (callWith pos fv [] trees []) Q E s) :
    wpAny M A (eval (.Call (.Name f p) args [] pos) env) Q E s := by
  show wpAny M A (do callWith pos (← eval (.Name f p) env) [] (backTo pos (starEach args env)) (backToKw pos (keywordEach [] env))) Q E s
  refine wpAny_bind (F.gb G ?_ hns hv hn hE.1 hE.2.1 hE.2.2.1 hE.2.2.2.1 hE.2.2.2.2)
  have : backTo pos (starEach args env) = trees := by
    rw [hs]
    unfold backTo
    refine (List.map_congr_left fun x hx => ?_).trans (List.map_id _)
    have : x.1 = false := by
      have := List.any_eq_false.mp ht x hx
      simpa using this
    obtain ⟨a, b⟩ := x
    simp only at this
    subst this
    rfl
  rw [this]
  exact h
theorem Rd.callb1 {M : Model} {f : Str} {id : String} {p pos : Pos} {e : Expr} {Q : Value → Shared → Prop} (F : Rd env l c s) (G : Gr w s.heap)
    (h : wpAny M A (eval e env) (fun v s₁ => wpAny M A (call (.builtin id) [v]) Q E s₁) E s)
    (hns : nsIn (KF w) mainGlobals f = some none := by kernel_rfl) (hv : bootBuiltins f = some (.builtin id) := by boot_by_name) (hn : f ≠ "__name__" := by decide) (hE : env_gb env f := by exact ⟨by kernel_rfl, by kernel_rfl, by kernel_rfl, by kernel_rfl, by kernel_rfl⟩)
    (hs : starEach [e] env = [(false, eval e env)] := by rfl) :
    wpAny M A (eval (.Call (.Name f p) [e] [] pos) env) Q E s :=
  F.callee G hns hv hn hE hs rfl (Calls.callWith_builtin rfl (Calls.evalArgs_plain (Calls.spliced_cons (wpAny_mono h (fun v s₁ h₁ => Calls.spliced_nil h₁) fun _ _ e => e))))
theorem Rd.callb2 {M : Model} {f : Str} {id : String} {p pos : Pos} {e1 e2 : Expr} {Q : Value → Shared → Prop} (F : Rd env l c s) (G : Gr w s.heap)
    (h : wpAny M A (eval e1 env) (fun v s₁ => wpAny M A (eval e2 env) (fun v2 s₂ => wpAny M A (call (.builtin id) [v, v2]) Q E s₂) E s₁) E s)
    (hns : nsIn (KF w) mainGlobals f = some none := by kernel_rfl) (hv : bootBuiltins f = some (.builtin id) := by boot_by_name) (hn : f ≠ "__name__" := by decide) (hE : env_gb env f := by exact ⟨by kernel_rfl, by kernel_rfl, by kernel_rfl, by kernel_rfl, by kernel_rfl⟩)
    (hs : starEach [e1, e2] env = [(false, eval e1 env), (false, eval e2 env)] := by rfl) :
    wpAny M A (eval (.Call (.Name f p) [e1, e2] [] pos) env) Q E s :=
  F.callee G hns hv hn hE hs rfl (Calls.callWith_builtin rfl (Calls.evalArgs_plain (Calls.spliced_cons (wpAny_mono h (fun v s₁ h₁ => Calls.spliced_cons (wpAny_mono h₁ (fun v2 s₂ h₂ => Calls.spliced_nil h₂) fun _ _ e => e)) fun _ _ e => e))))
theorem Rd.callt1 {M : Model} {f : Str} {T : String} {p pos : Pos} {e : Expr} {Q : Value → Shared → Prop} (F : Rd env l c s) (G : Gr w s.heap)
    (h : wpAny M A (eval e env) (fun v s₁ => wpAny M A (call (.type T) [v]) Q E s₁) E s)
    (hns : nsIn (KF w) mainGlobals f = some none := by kernel_rfl) (hv : bootBuiltins f = some (.type T) := by boot_by_name) (hn : f ≠ "__name__" := by decide) (hE : env_gb env f := by exact ⟨by kernel_rfl, by kernel_rfl, by kernel_rfl, by kernel_rfl, by kernel_rfl⟩)
    (hs : starEach [e] env = [(false, eval e env)] := by rfl) :
    wpAny M A (eval (.Call (.Name f p) [e] [] pos) env) Q E s :=
  F.callee G hns hv hn hE hs rfl (PySem.callWith_type rfl (Calls.evalArgs_plain (Calls.spliced_cons (wpAny_mono h (fun v s₁ h₁ => Calls.spliced_nil h₁) fun _ _ e => e))))
theorem Rd.callt2 {M : Model} {f : Str} {T : String} {p pos : Pos} {e1 e2 : Expr} {Q : Value → Shared → Prop} (F : Rd env l c s) (G : Gr w s.heap)
    (h : wpAny M A (eval e1 env) (fun v s₁ => wpAny M A (eval e2 env) (fun v2 s₂ => wpAny M A (call (.type T) [v, v2]) Q E s₂) E s₁) E s)
    (hns : nsIn (KF w) mainGlobals f = some none := by kernel_rfl) (hv : bootBuiltins f = some (.type T) := by boot_by_name) (hn : f ≠ "__name__" := by decide) (hE : env_gb env f := by exact ⟨by kernel_rfl, by kernel_rfl, by kernel_rfl, by kernel_rfl, by kernel_rfl⟩)
    (hs : starEach [e1, e2] env = [(false, eval e1 env), (false, eval e2 env)] := by rfl) :
    wpAny M A (eval (.Call (.Name f p) [e1, e2] [] pos) env) Q E s :=
  F.callee G hns hv hn hE hs rfl (PySem.callWith_type rfl (Calls.evalArgs_plain (Calls.spliced_cons (wpAny_mono h (fun v s₁ h₁ => Calls.spliced_cons (wpAny_mono h₁ (fun v2 s₂ h₂ => Calls.spliced_nil h₂) fun _ _ e => e)) fun _ _ e => e))))

abbrev env_gl (env : Env) (f : Str) : Prop := env.kindOf f = some .globalImplicit ∧ env.scope.kind = .function ∧ env.globals = mainGlobals ∧ (f == ("__debug__" : Str)) = false
/-- a def of the text is called by its name -/
theorem Rd.callf {M : Model} {f : Str} {a : Addr} {p pos : Pos} {args : List Expr} {trees : List (Bool × Sem Value)} {Q : Value → Shared → Prop} (F : Rd env l c s) (G : Gr w s.heap) (hns : nsIn (KF w) mainGlobals f = some (some (.ref a))) (hE : env_gl env f)
    (hkeep : keepIn (KF w) (.ref a) = true) (hs : starEach args env = trees) (ht : trees.any (·.1) = false)
    (h : wpAny M A (evalArgs (.ref a) true trees []) (fun x s₁ => (KF w).In s₁.heap ∧ wpAny M A (call (.ref a) ([] ++ x.pos) x.kw) Q E s₁) E s) :
    wpAny M A (eval (.Call (.Name f p) args [] pos) env) Q E s := by
  show wpAny M A (do callWith pos (← eval (.Name f p) env) [] (backTo pos (starEach args env)) (backToKw pos (keywordEach [] env))) Q E s
  refine wpAny_bind (F.gl G ?_ hns hE.1 hE.2.1 hE.2.2.1 hE.2.2.2)
  have : backTo pos (starEach args env) = trees := by
    rw [hs]
    unfold backTo
    refine (List.map_congr_left fun x hx => ?_).trans (List.map_id _)
    have : x.1 = false := by
      have := List.any_eq_false.mp ht x hx
      simpa using this
    obtain ⟨a, b⟩ := x
    simp only at this
    subst this
    rfl
  rw [this]
  exact callWith_of (by rw [ht]; rfl) (keeps_K hkeep) h
theorem Rd.callf1 {M : Model} {f : Str} {a : Addr} {p pos : Pos} {e : Expr} {Q : Value → Shared → Prop} (F : Rd env l c s) (G : Gr w s.heap)
    (h : wpAny M A (eval e env) (fun v s₁ => Gr w s₁.heap ∧ wpAny M A (call (.ref a) [v]) Q E s₁) E s)
    (hns : nsIn (KF w) mainGlobals f = some (some (.ref a)) := by kernel_rfl) (hkeep : keepIn (KF w) (.ref a) = true := by kernel_rfl) (hE : env_gl env f := by exact ⟨by kernel_rfl, by kernel_rfl, by kernel_rfl, by kernel_rfl⟩)
    (hs : starEach [e] env = [(false, eval e env)] := by rfl) :
    wpAny M A (eval (.Call (.Name f p) [e] [] pos) env) Q E s :=
  F.callf G hns hE hkeep hs rfl (Calls.evalArgs_plain (Calls.spliced_cons (wpAny_mono h (fun v s₁ h₁ => Calls.spliced_nil ⟨h₁.1.k, h₁.2⟩) fun _ _ e => e)))
theorem Rd.callf2 {M : Model} {f : Str} {a : Addr} {p pos : Pos} {e1 e2 : Expr} {Q : Value → Shared → Prop} (F : Rd env l c s) (G : Gr w s.heap)
    (h : wpAny M A (eval e1 env) (fun v s₁ => wpAny M A (eval e2 env) (fun v2 s₂ => Gr w s₂.heap ∧ wpAny M A (call (.ref a) [v, v2]) Q E s₂) E s₁) E s)
    (hns : nsIn (KF w) mainGlobals f = some (some (.ref a)) := by kernel_rfl) (hkeep : keepIn (KF w) (.ref a) = true := by kernel_rfl) (hE : env_gl env f := by exact ⟨by kernel_rfl, by kernel_rfl, by kernel_rfl, by kernel_rfl⟩)
    (hs : starEach [e1, e2] env = [(false, eval e1 env), (false, eval e2 env)] := by rfl) :
    wpAny M A (eval (.Call (.Name f p) [e1, e2] [] pos) env) Q E s :=
  F.callf G hns hE hkeep hs rfl (Calls.evalArgs_plain (Calls.spliced_cons (wpAny_mono h (fun v s₁ h₁ => Calls.spliced_cons (wpAny_mono h₁ (fun v2 s₂ h₂ => Calls.spliced_nil ⟨h₂.1.k, h₂.2⟩) fun _ _ e => e)) fun _ _ e => e)))
theorem Rd.callf3 {M : Model} {f : Str} {a : Addr} {p pos : Pos} {e1 e2 e3 : Expr} {Q : Value → Shared → Prop} (F : Rd env l c s) (G : Gr w s.heap)
    (h : wpAny M A (eval e1 env) (fun v s₁ => wpAny M A (eval e2 env) (fun v2 s₂ => wpAny M A (eval e3 env) (fun v3 s₃ => Gr w s₃.heap ∧ wpAny M A (call (.ref a) [v, v2, v3]) Q E s₃) E s₂) E s₁) E s)
    (hns : nsIn (KF w) mainGlobals f = some (some (.ref a)) := by kernel_rfl) (hkeep : keepIn (KF w) (.ref a) = true := by kernel_rfl) (hE : env_gl env f := by exact ⟨by kernel_rfl, by kernel_rfl, by kernel_rfl, by kernel_rfl⟩)
    (hs : starEach [e1, e2, e3] env = [(false, eval e1 env), (false, eval e2 env), (false, eval e3 env)] := by rfl) :
    wpAny M A (eval (.Call (.Name f p) [e1, e2, e3] [] pos) env) Q E s :=
  F.callf G hns hE hkeep hs rfl (Calls.evalArgs_plain (Calls.spliced_cons (wpAny_mono h (fun v s₁ h₁ => Calls.spliced_cons (wpAny_mono h₁ (fun v2 s₂ h₂ => Calls.spliced_cons (wpAny_mono h₂ (fun v3 s₃ h₃ => Calls.spliced_nil ⟨h₃.1.k, h₃.2⟩) fun _ _ e => e)) fun _ _ e => e)) fun _ _ e => e)))
theorem Fn.rd (F : Fn s₀ env l c N s) (hc : ∀ p ∈ c, (env.cells.lookup p.1).isSome = true) : Rd env l c s := by
  obtain ⟨m, cm, x, y, z⟩ := F.inn
  refine ⟨⟨m, x.toInCall.ns, y⟩, fun n v e => ?_⟩
  have : (n, v) ∈ c := by
    clear hc z F
    induction c with
    | nil => cases e
    | cons q r ih =>
      obtain ⟨a, b⟩ := q
      rw [List.lookup_cons] at e
      cases hq : n == a with
      | true => rw [hq] at e; cases e; rw [eq_of_beq hq]; exact List.mem_cons_self
      | false => rw [hq] at e; exact List.mem_cons_of_mem _ (ih e)
  obtain ⟨a, ha⟩ := Option.isSome_iff_exists.mp (hc _ this)
  exact ⟨a, ha, by have := x.cell n a ha; rw [z n v e] at this; exact this⟩
theorem Fn.rd0 (F : Fn s₀ env l c N s) : Rd env l [] s := by
  obtain ⟨m, cm, x, y, z⟩ := F.inn
  exact ⟨⟨m, x.toInCall.ns, y⟩, fun n v e => by cases e⟩
theorem Fn.gl {M : Model} {x : Str} {pos : Pos} {v : Value} {Q : Value → Shared → Prop} (F : Fn s₀ env l c N s) (G : Gr w s₀.heap) (h : Q v s) (e : nsIn (KF w) mainGlobals x = some (some v) := by kernel_rfl)
    (hx : env.kindOf x = some .globalImplicit := by rfl) (hk : env.scope.kind = .function := by rfl) (hg : env.globals = mainGlobals := by rfl) (hd : (x == ("__debug__" : Str)) = false := by rfl) :
    wpAny M A (eval (.Name x pos) env) Q E s :=
  (F.rd0).gl (F.gr G) h e hx hk hg hd
theorem Fn.gb {M : Model} {x : Str} {pos : Pos} {v : Value} {Q : Value → Shared → Prop} (F : Fn s₀ env l c N s) (G : Gr w s₀.heap) (h : Q v s) (e : nsIn (KF w) mainGlobals x = some none := by kernel_rfl) (hv : bootBuiltins x = some v := by boot_by_name) (hn : x ≠ "__name__" := by decide)
    (hx : env.kindOf x = some .globalImplicit := by rfl) (hk : env.scope.kind = .function := by rfl) (hg : env.globals = mainGlobals := by rfl) (hb : env.builtins = builtinsNs := by rfl) (hd : (x == ("__debug__" : Str)) = false := by rfl) :
    wpAny M A (eval (.Name x pos) env) Q E s :=
  (F.rd0).gb (F.gr G) h e hv hn hx hk hg hb hd
theorem Fn.callb1 {M : Model} {f : Str} {id : String} {p pos : Pos} {e : Expr} {Q : Value → Shared → Prop} (F : Fn s₀ env l c N s) (G : Gr w s₀.heap)
    (h : wpAny M A (eval e env) (fun v s₁ => wpAny M A (call (.builtin id) [v]) Q E s₁) E s)
    (hns : nsIn (KF w) mainGlobals f = some none := by kernel_rfl) (hv : bootBuiltins f = some (.builtin id) := by boot_by_name) (hn : f ≠ "__name__" := by decide) (hE : env_gb env f := by exact ⟨by kernel_rfl, by kernel_rfl, by kernel_rfl, by kernel_rfl, by kernel_rfl⟩)
    (hs : starEach [e] env = [(false, eval e env)] := by rfl) :
    wpAny M A (eval (.Call (.Name f p) [e] [] pos) env) Q E s :=
  (F.rd0).callb1 (F.gr G) h hns hv hn hE hs
theorem Fn.callb2 {M : Model} {f : Str} {id : String} {p pos : Pos} {e1 e2 : Expr} {Q : Value → Shared → Prop} (F : Fn s₀ env l c N s) (G : Gr w s₀.heap)
    (h : wpAny M A (eval e1 env) (fun v s₁ => wpAny M A (eval e2 env) (fun v2 s₂ => wpAny M A (call (.builtin id) [v, v2]) Q E s₂) E s₁) E s)
    (hns : nsIn (KF w) mainGlobals f = some none := by kernel_rfl) (hv : bootBuiltins f = some (.builtin id) := by boot_by_name) (hn : f ≠ "__name__" := by decide) (hE : env_gb env f := by exact ⟨by kernel_rfl, by kernel_rfl, by kernel_rfl, by kernel_rfl, by kernel_rfl⟩)
    (hs : starEach [e1, e2] env = [(false, eval e1 env), (false, eval e2 env)] := by rfl) :
    wpAny M A (eval (.Call (.Name f p) [e1, e2] [] pos) env) Q E s :=
  (F.rd0).callb2 (F.gr G) h hns hv hn hE hs
theorem Fn.callt1 {M : Model} {f : Str} {T : String} {p pos : Pos} {e : Expr} {Q : Value → Shared → Prop} (F : Fn s₀ env l c N s) (G : Gr w s₀.heap)
    (h : wpAny M A (eval e env) (fun v s₁ => wpAny M A (call (.type T) [v]) Q E s₁) E s)
    (hns : nsIn (KF w) mainGlobals f = some none := by kernel_rfl) (hv : bootBuiltins f = some (.type T) := by boot_by_name) (hn : f ≠ "__name__" := by decide) (hE : env_gb env f := by exact ⟨by kernel_rfl, by kernel_rfl, by kernel_rfl, by kernel_rfl, by kernel_rfl⟩)
    (hs : starEach [e] env = [(false, eval e env)] := by rfl) :
    wpAny M A (eval (.Call (.Name f p) [e] [] pos) env) Q E s :=
  (F.rd0).callt1 (F.gr G) h hns hv hn hE hs
theorem Fn.callt2 {M : Model} {f : Str} {T : String} {p pos : Pos} {e1 e2 : Expr} {Q : Value → Shared → Prop} (F : Fn s₀ env l c N s) (G : Gr w s₀.heap)
    (h : wpAny M A (eval e1 env) (fun v s₁ => wpAny M A (eval e2 env) (fun v2 s₂ => wpAny M A (call (.type T) [v, v2]) Q E s₂) E s₁) E s)
    (hns : nsIn (KF w) mainGlobals f = some none := by kernel_rfl) (hv : bootBuiltins f = some (.type T) := by boot_by_name) (hn : f ≠ "__name__" := by decide) (hE : env_gb env f := by exact ⟨by kernel_rfl, by kernel_rfl, by kernel_rfl, by kernel_rfl, by kernel_rfl⟩)
    (hs : starEach [e1, e2] env = [(false, eval e1 env), (false, eval e2 env)] := by rfl) :
    wpAny M A (eval (.Call (.Name f p) [e1, e2] [] pos) env) Q E s :=
  (F.rd0).callt2 (F.gr G) h hns hv hn hE hs
theorem Fn.callf1 {M : Model} {f : Str} {a : Addr} {p pos : Pos} {e : Expr} {Q : Value → Shared → Prop} (F : Fn s₀ env l c N s) (G : Gr w s₀.heap)
    (h : wpAny M A (eval e env) (fun v s₁ => Gr w s₁.heap ∧ wpAny M A (call (.ref a) [v]) Q E s₁) E s)
    (hns : nsIn (KF w) mainGlobals f = some (some (.ref a)) := by kernel_rfl) (hkeep : keepIn (KF w) (.ref a) = true := by kernel_rfl) (hE : env_gl env f := by exact ⟨by kernel_rfl, by kernel_rfl, by kernel_rfl, by kernel_rfl⟩)
    (hs : starEach [e] env = [(false, eval e env)] := by rfl) :
    wpAny M A (eval (.Call (.Name f p) [e] [] pos) env) Q E s :=
  (F.rd0).callf1 (F.gr G) h hns hkeep hE hs
theorem Fn.callf2 {M : Model} {f : Str} {a : Addr} {p pos : Pos} {e1 e2 : Expr} {Q : Value → Shared → Prop} (F : Fn s₀ env l c N s) (G : Gr w s₀.heap)
    (h : wpAny M A (eval e1 env) (fun v s₁ => wpAny M A (eval e2 env) (fun v2 s₂ => Gr w s₂.heap ∧ wpAny M A (call (.ref a) [v, v2]) Q E s₂) E s₁) E s)
    (hns : nsIn (KF w) mainGlobals f = some (some (.ref a)) := by kernel_rfl) (hkeep : keepIn (KF w) (.ref a) = true := by kernel_rfl) (hE : env_gl env f := by exact ⟨by kernel_rfl, by kernel_rfl, by kernel_rfl, by kernel_rfl⟩)
    (hs : starEach [e1, e2] env = [(false, eval e1 env), (false, eval e2 env)] := by rfl) :
    wpAny M A (eval (.Call (.Name f p) [e1, e2] [] pos) env) Q E s :=
  (F.rd0).callf2 (F.gr G) h hns hkeep hE hs
theorem Fn.callf3 {M : Model} {f : Str} {a : Addr} {p pos : Pos} {e1 e2 e3 : Expr} {Q : Value → Shared → Prop} (F : Fn s₀ env l c N s) (G : Gr w s₀.heap)
    (h : wpAny M A (eval e1 env) (fun v s₁ => wpAny M A (eval e2 env) (fun v2 s₂ => wpAny M A (eval e3 env) (fun v3 s₃ => Gr w s₃.heap ∧ wpAny M A (call (.ref a) [v, v2, v3]) Q E s₃) E s₂) E s₁) E s)
    (hns : nsIn (KF w) mainGlobals f = some (some (.ref a)) := by kernel_rfl) (hkeep : keepIn (KF w) (.ref a) = true := by kernel_rfl) (hE : env_gl env f := by exact ⟨by kernel_rfl, by kernel_rfl, by kernel_rfl, by kernel_rfl⟩)
    (hs : starEach [e1, e2, e3] env = [(false, eval e1 env), (false, eval e2 env), (false, eval e3 env)] := by rfl) :
    wpAny M A (eval (.Call (.Name f p) [e1, e2, e3] [] pos) env) Q E s :=
  (F.rd0).callf3 (F.gr G) h hns hkeep hE hs
end
end Mine

-- MBis
namespace Mine

/-- a list of the given ints lies at a -/
def IL (h : Heap) (a : Addr) (ns : List Int) : Prop := ∃ vs : List Value, h.IsList a vs.toArray ∧ IntsAre vs ns
theorem isList_keeps {h h' : Heap} {a : Addr} {xs : Array Value} (x : h.IsList a xs) (k : ∀ b o, h.get? b = some o → h'.get? b = some o) : h'.IsList a xs := let ⟨o, ho, r⟩ := x; ⟨o, k a o ho, r⟩
theorem IL.to {s s' : Shared} {a : Addr} {ns : List Int} (x : IL s.heap a ns) (k : Keeps s s') : IL s'.heap a ns := let ⟨vs, h, i⟩ := x; ⟨vs, isList_keeps h (kget k), i⟩
theorem IntsAre.item : ∀ {vs : List Value} {ns : List Int}, IntsAre vs ns → ∀ {i : Nat} {n : Int}, ns[i]? = some n → ∃ t, vs[i]? = some (.int n t)
  | _, _, .nil, i, n, e => by simp at e
  | _, _, .cons a t r, 0, n, e => by simp at e; subst e; exact ⟨t, by simp⟩
  | _, _, .cons a t r, i + 1, n, e => by simp at e; obtain ⟨u, h⟩ := IntsAre.item r e; exact ⟨u, by simpa using h⟩

/-- where x would be put in, to the left -/
def LB (ns : List Int) (x : Int) (r : Nat) : Prop := r ≤ ns.length ∧ (∀ i n, i < r → ns[i]? = some n → n < x) ∧ (∀ i n, r ≤ i → ns[i]? = some n → x ≤ n)
def RB (ns : List Int) (x : Int) (r : Nat) : Prop := r ≤ ns.length ∧ (∀ i n, i < r → ns[i]? = some n → n ≤ x) ∧ (∀ i n, r ≤ i → ns[i]? = some n → x < n)
def Asc (ns : List Int) : Prop := ∀ (i j : Nat) (a b : Int), i < j → ns[i]? = some a → ns[j]? = some b → a < b

theorem some_of_lt {ns : List Int} {i : Nat} (h : i < ns.length) : ∃ n, ns[i]? = some n := ⟨ns[i], by simp [h]⟩

theorem bisect_left_spec {w : World} {A : Around} {s : Shared} {E} {Q : Value → Shared → Prop} {a : Addr} {x : Int} {t : Tok} {ns : List Int} (G : Gr w s.heap) (hr : A.depth < recursionLimit)
    (ha : IL s.heap a ns) (hs : Asc ns) (hsz : ns.length < 1000000) (h : ∀ r t s', LB ns x r → Keeps s s' → Q (.int r t) s') :
    wpAny (model PG w) A (call (.ref 51) [.ref a, .int x t]) Q E s := by
  refine enter 51 [("a", .ref a), ("x", .int x t), ("lo", .int 0 369), ("hi", .none), ("key", .none)] [("a", .ref a), ("x", .int x t), ("lo", .int 0 369), ("hi", .none), ("key", .none)] [] G hr ?_
  intro L s₁ E' hL F
  refine wpAny_execs_cons (wpAny_If (wpAny_isTrue_Compare1 (F.ld rfl (wpAny_Constant_int (lt_int (wpAny_truthy_bool ?_))))))
  rw [if_neg (by decide)]
  refine wpAny_execs_nil (wpAny_execs_cons (wpAny_If (wpAny_isTrue_Compare1 ((F.tk _).ld rfl (Constant_none (wpAny_is_self rfl (wpAny_truthy_bool ?_)))))))
  rw [if_pos rfl]
  have F := F.tk (s₁.toks + 1)
  obtain ⟨vs, hl, hi⟩ := ha
  have hlen : vs.length = ns.length := hi.length
  refine wpAny_execs_cons (wpAny_Assign_Name (F.callb1 G (F.ld rfl (len_list (isList_keeps hl (kget F.base)) (by simp; omega) ((F.tk _).st fun s₂ F₂ => wpAny_execs_nil ?_)))))
  rw [show vs.toArray.size = ns.length by simp [hlen]] at F₂
  refine wpAny_execs_cons (wpAny_If (wpAny_isTrue_Compare1 (F₂.ld rfl (Constant_none (wpAny_is_self rfl (wpAny_truthy_bool ?_))))))
  rw [if_pos rfl]
  refine wpAny_execs_cons (wpAny_While (codeAny_whileLoop (fun n s' => ∃ lo hi : Nat, ∃ tl th, Fn s (envK w L 51) [("a", .ref a), ("x", .int x t), ("lo", .int lo tl), ("hi", .int hi th)] [] [] s' ∧ lo ≤ hi ∧ hi ≤ ns.length ∧
      (∀ i n, i < lo → ns[i]? = some n → n < x) ∧ (∀ i n, hi ≤ i → ns[i]? = some n → x ≤ n) ∧ n = hi - lo) ?_ _ ⟨0, ns.length, _, _, F₂.weakl rfl, Nat.zero_le _, Nat.le_refl _, by omega, ?_, rfl⟩))
  · rintro n s' ⟨lo, hi', tl, th, F, h1, h2, h3, h4, rfl⟩
    refine wpAny_isTrue_Compare1 (F.ld rfl (F.ld rfl (lt_int (wpAny_truthy_bool ?_))))
    split
    · rename_i hlt
      have hlt : lo < hi' := by simpa using hlt
      refine wpAny_execs_cons (wpAny_Assign_Name (wpAny_BinOp (wpAny_BinOp (F.ld rfl (F.ld rfl (add_int (wpAny_Constant_int (floordiv_int (by decide) ((F.tk _).st fun s₃ F₃ => ?_)))))))))
      have hm : ((lo : Int) + hi').fdiv 2 = ((lo + hi') / 2 : Nat) := by
        rw [Int.fdiv_eq_ediv_of_nonneg _ (by decide)]; omega
      rw [hm] at F₃
      generalize hmid : (lo + hi') / 2 = mid at F₃
      have hml : lo ≤ mid := by omega
      have hmh : mid < hi' := by omega
      obtain ⟨n, hn⟩ := some_of_lt (ns := ns) (i := mid) (by omega)
      obtain ⟨u, hu⟩ := IntsAre.item hi hn
      refine wpAny_execs_cons (wpAny_If (wpAny_isTrue_Compare1 (Subscript_ (F₃.ld rfl (F₃.ld rfl (item_list (isList_keeps hl (kget F₃.base)) (by omega) (by omega) (x := .int n u) (by simpa using hu) (F₃.ld rfl (lt_int (wpAny_truthy_bool ?_)))))))))
      split
      · rename_i hnx
        have hnx : n < x := by simpa using hnx
        refine wpAny_execs_cons (wpAny_Assign_Name (wpAny_BinOp (F₃.ld rfl (wpAny_Constant_int (add_int ((F₃.tk _).st fun s₄ F₄ => wpAny_execs_nil (wpAny_execs_nil ?_)))))))
        refine ⟨_, ?_, mid + 1, hi', _, _, F₄.weakl rfl, by omega, h2, ?_, h4, rfl⟩
        · omega
        · intro i m hi e
          rcases Nat.lt_or_ge i mid with q | q
          · have := hs i mid m n q e hn; omega
          · have : i = mid := by omega
            subst this; rw [hn] at e; cases e; exact hnx
      · rename_i hnx
        have hnx : x ≤ n := by simpa using hnx
        refine wpAny_execs_cons (wpAny_Assign_Name (F₃.ld rfl (F₃.st fun s₄ F₄ => wpAny_execs_nil (wpAny_execs_nil ?_))))
        refine ⟨_, ?_, lo, mid, _, _, F₄.weakl rfl, by omega, by omega, h3, ?_, rfl⟩
        · omega
        · intro i m hi e
          rcases Nat.lt_or_ge mid i with q | q
          · have := hs mid i n m q hn e; omega
          · have : i = mid := by omega
            subst this; rw [hn] at e; cases e; exact hnx
    · rename_i hlt
      have hlt : lo = hi' := by
        have : ¬ lo < hi' := by simpa using hlt
        omega
      subst hlt
      refine wpAny_execs_nil (wpAny_execs_nil (wpAny_execs_cons (wpAny_Return_some (F.ld rfl (h _ _ _ ⟨h2, h3, h4⟩ F.base)))))
  · intro i n h e
    rw [List.getElem?_eq_none h] at e; cases e
theorem bisect_right_spec {w : World} {A : Around} {s : Shared} {E} {Q : Value → Shared → Prop} {a : Addr} {x : Int} {t : Tok} {ns : List Int} (G : Gr w s.heap) (hr : A.depth < recursionLimit)
    (ha : IL s.heap a ns) (hs : Asc ns) (hsz : ns.length < 1000000) (h : ∀ r t s', RB ns x r → Keeps s s' → Q (.int r t) s') :
    wpAny (model PG w) A (call (.ref 42) [.ref a, .int x t]) Q E s := by
  refine enter 42 [("a", .ref a), ("x", .int x t), ("lo", .int 0 355), ("hi", .none), ("key", .none)] [("a", .ref a), ("x", .int x t), ("lo", .int 0 355), ("hi", .none), ("key", .none)] [] G hr ?_
  intro L s₁ E' hL F
  refine wpAny_execs_cons (wpAny_If (wpAny_isTrue_Compare1 (F.ld rfl (wpAny_Constant_int (lt_int (wpAny_truthy_bool ?_))))))
  rw [if_neg (by decide)]
  refine wpAny_execs_nil (wpAny_execs_cons (wpAny_If (wpAny_isTrue_Compare1 ((F.tk _).ld rfl (Constant_none (wpAny_is_self rfl (wpAny_truthy_bool ?_)))))))
  rw [if_pos rfl]
  have F := F.tk (s₁.toks + 1)
  obtain ⟨vs, hl, hi⟩ := ha
  have hlen : vs.length = ns.length := hi.length
  refine wpAny_execs_cons (wpAny_Assign_Name (F.callb1 G (F.ld rfl (len_list (isList_keeps hl (kget F.base)) (by simp; omega) ((F.tk _).st fun s₂ F₂ => wpAny_execs_nil ?_)))))
  rw [show vs.toArray.size = ns.length by simp [hlen]] at F₂
  refine wpAny_execs_cons (wpAny_If (wpAny_isTrue_Compare1 (F₂.ld rfl (Constant_none (wpAny_is_self rfl (wpAny_truthy_bool ?_))))))
  rw [if_pos rfl]
  refine wpAny_execs_cons (wpAny_While (codeAny_whileLoop (fun n s' => ∃ lo hi : Nat, ∃ tl th, Fn s (envK w L 42) [("a", .ref a), ("x", .int x t), ("lo", .int lo tl), ("hi", .int hi th)] [] [] s' ∧ lo ≤ hi ∧ hi ≤ ns.length ∧
      (∀ i n, i < lo → ns[i]? = some n → n ≤ x) ∧ (∀ i n, hi ≤ i → ns[i]? = some n → x < n) ∧ n = hi - lo) ?_ _ ⟨0, ns.length, _, _, F₂.weakl rfl, Nat.zero_le _, Nat.le_refl _, by omega, ?_, rfl⟩))
  · rintro n s' ⟨lo, hi', tl, th, F, h1, h2, h3, h4, rfl⟩
    refine wpAny_isTrue_Compare1 (F.ld rfl (F.ld rfl (lt_int (wpAny_truthy_bool ?_))))
    split
    · rename_i hlt
      have hlt : lo < hi' := by simpa using hlt
      refine wpAny_execs_cons (wpAny_Assign_Name (wpAny_BinOp (wpAny_BinOp (F.ld rfl (F.ld rfl (add_int (wpAny_Constant_int (floordiv_int (by decide) ((F.tk _).st fun s₃ F₃ => ?_)))))))))
      have hm : ((lo : Int) + hi').fdiv 2 = ((lo + hi') / 2 : Nat) := by
        rw [Int.fdiv_eq_ediv_of_nonneg _ (by decide)]; omega
      rw [hm] at F₃
      generalize hmid : (lo + hi') / 2 = mid at F₃
      have hml : lo ≤ mid := by omega
      have hmh : mid < hi' := by omega
      obtain ⟨n, hn⟩ := some_of_lt (ns := ns) (i := mid) (by omega)
      obtain ⟨u, hu⟩ := IntsAre.item hi hn
      refine wpAny_execs_cons (wpAny_If (wpAny_isTrue_Compare1 (F₃.ld rfl (Subscript_ (F₃.ld rfl (F₃.ld rfl (item_list (isList_keeps hl (kget F₃.base)) (by omega) (by omega) (x := .int n u) (by simpa using hu) (lt_int (wpAny_truthy_bool ?_)))))))))
      split
      · rename_i hnx
        have hnx : x < n := by simpa using hnx
        refine wpAny_execs_cons (wpAny_Assign_Name (F₃.ld rfl (F₃.st fun s₄ F₄ => wpAny_execs_nil (wpAny_execs_nil ?_))))
        refine ⟨_, ?_, lo, mid, _, _, F₄.weakl rfl, by omega, by omega, h3, ?_, rfl⟩
        · omega
        · intro i m hi e
          rcases Nat.lt_or_ge mid i with q | q
          · have := hs mid i n m q hn e; omega
          · have : i = mid := by omega
            subst this; rw [hn] at e; cases e; exact hnx
      · rename_i hnx
        have hnx : n ≤ x := by simpa using hnx
        refine wpAny_execs_cons (wpAny_Assign_Name (wpAny_BinOp (F₃.ld rfl (wpAny_Constant_int (add_int ((F₃.tk _).st fun s₄ F₄ => wpAny_execs_nil (wpAny_execs_nil ?_)))))))
        refine ⟨_, ?_, mid + 1, hi', _, _, F₄.weakl rfl, by omega, h2, ?_, h4, rfl⟩
        · omega
        · intro i m hi e
          rcases Nat.lt_or_ge i mid with q | q
          · have := hs i mid m n q e hn; omega
          · have : i = mid := by omega
            subst this; rw [hn] at e; cases e; exact hnx
    · rename_i hlt
      have hlt : lo = hi' := by
        have : ¬ lo < hi' := by simpa using hlt
        omega
      subst hlt
      refine wpAny_execs_nil (wpAny_execs_nil (wpAny_execs_cons (wpAny_Return_some (F.ld rfl (h _ _ _ ⟨h2, h3, h4⟩ F.base)))))
  · intro i n h e
    rw [List.getElem?_eq_none h] at e; cases e
end Mine

-- MSign
namespace Mine

/-- the path's sign, the text's sign -/
def pc (n : Int) : Nat := [97, 98, 46, 63, 42].getD (n.fmod 5).toNat 0
def tq (n : Int) : Nat := [97, 98, 46, 63].getD ((n.fdiv 5).fmod 4).toNat 0
def tc (n : Int) : Nat := if pc n = 42 ∨ (n.fdiv 5).fmod 4 = 3 then tq n else pc n

theorem fmod_lt {n k : Int} (hk : 0 < k) : 0 ≤ n.fmod k ∧ n.fmod k < k := ⟨Int.fmod_nonneg_of_pos n hk, Int.fmod_lt_of_pos n hk⟩
theorem pc_item (n : Int) : (seqIndex? (n.fmod 5) (Str.ofString "ab.?*").length).bind ((Str.ofString "ab.?*").cps[·]?) = some (pc n) := by
  obtain ⟨h0, h1⟩ := fmod_lt (n := n) (k := 5) (by decide)
  unfold pc
  generalize n.fmod 5 = k at *
  have : k = 0 ∨ k = 1 ∨ k = 2 ∨ k = 3 ∨ k = 4 := by omega
  rcases this with rfl | rfl | rfl | rfl | rfl <;> decide +kernel
theorem tq_item (n : Int) : (seqIndex? ((n.fdiv 5).fmod 4) (Str.ofString "ab.?").length).bind ((Str.ofString "ab.?").cps[·]?) = some (tq n) := by
  obtain ⟨h0, h1⟩ := fmod_lt (n := n.fdiv 5) (k := 4) (by decide)
  unfold tq
  generalize (n.fdiv 5).fmod 4 = k at *
  have : k = 0 ∨ k = 1 ∨ k = 2 ∨ k = 3 := by omega
  rcases this with rfl | rfl | rfl | rfl <;> decide +kernel

theorem item_str {w : World} {A : Around} {E : Value → Shared → Prop} {s : Shared} {value slice : Expr} {x : Str} {t u : Tok} {i : Int} {c : Nat} {Q : Value → Shared → Prop} (h0 : 0 ≤ i) (h1 : i < 2 ^ 62) (hc : (seqIndex? i x.length).bind (x.cps[·]?) = some c)
    (h : Q (.str ⟨#[c]⟩ s.toks) { s with toks := s.toks + 1 })
    (hs : subscripted slice false (.str x t) (.int i u) = operate [.str x t, .int i u] (getItem (.str x t) (.int i u)) := by with_unfolding_all rfl) :
    wpAny (model PG w) A (subscriptTail value slice (.str x t) (.int i u)) Q E s :=
  tail_any (typeIs_str s x t) (F.slot_str_getitem.lookup) (PySem.P.getItem_str (by simp; omega) hc h) hs

theorem sign_spec {w : World} {A : Around} {s : Shared} {E} {Q : Value → Shared → Prop} {n : Int} {t : Tok} (G : Gr w s.heap) (hr : A.depth < recursionLimit) 
    (h : ∀ t s', Keeps s s' → Q (.str ⟨#[tc n]⟩ t) s') : wpAny (model PG w) A (call (.ref 80) [.int n t]) Q E s := by
  refine enter 80 [("n", .int n t)] [("n", .int n t)] [] G hr ?_
  intro L s₁ E' hL F
  obtain ⟨a0, a1⟩ := fmod_lt (n := n) (k := 5) (by decide)
  obtain ⟨b0, b1⟩ := fmod_lt (n := n.fdiv 5) (k := 4) (by decide)
  refine wpAny_execs_cons (wpAny_Assign_Name (Subscript_ (Calls.Constant_str (wpAny_BinOp ((F.tk _).ld rfl (wpAny_Constant_int (mod_int (by decide) (item_str a0 (by omega) (pc_item n) ((F.tk _).st fun s₂ F₂ => ?_)))))))))
  obtain ⟨tok, F₂⟩ : ∃ tok, Fn s (envK w L 80) [("sign", .str ⟨#[pc n]⟩ tok), ("n", .int n t)] [] [] s₂ := ⟨_, F₂⟩
  refine wpAny_execs_cons (wpAny_If (wpAny_mono (Q := fun b s' => b = decide (pc n = 42 ∨ (n.fdiv 5).fmod 4 = 3) ∧ Keeps s₂ s') ?_ (fun b s₃ hb => ?_) fun _ _ e => e))
  · refine isTrue_or (wpAny_isTrue_Compare1 (F₂.ld rfl (Calls.Constant_str (eq_str (wpAny_truthy_bool ?_)))))
    split
    · rename_i hc
      have hc : pc n = 42 := by
        have e : Str.ofString "*" = ⟨#[42]⟩ := by decide +kernel
        rw [e] at hc
        simpa using hc
      exact ⟨by simp [hc], ktok _⟩
    · rename_i hc
      have hc : ¬ pc n = 42 := by
        have e : Str.ofString "*" = ⟨#[42]⟩ := by decide +kernel
        rw [e] at hc
        simpa using hc
      refine isTrue_or (wpAny_isTrue_Compare1 (wpAny_BinOp (wpAny_BinOp ((F₂.tk _).ld rfl (wpAny_Constant_int (floordiv_int (by decide) (wpAny_Constant_int (mod_int (by decide) (wpAny_Constant_int (eq_int (wpAny_truthy_bool ?_))))))))))) 
      split
      · rename_i h3
        have h3 : (n.fdiv 5).fmod 4 = 3 := by simpa using h3
        exact ⟨by simp [h3], ktok _⟩
      · rename_i h3
        have h3 : ¬ (n.fdiv 5).fmod 4 = 3 := by simpa using h3
        exact isTrue_or_nil ⟨by simp [hc, h3], ktok _⟩
  · obtain ⟨rfl, k⟩ := hb
    have F₃ := F₂.kp k
    split
    · rename_i hc
      have e : tc n = tq n := by unfold tc; rw [if_pos (of_decide_eq_true hc)]
      refine wpAny_execs_cons (wpAny_Return_some (Subscript_ (Calls.Constant_str (wpAny_BinOp (wpAny_BinOp ((F₃.tk _).ld rfl (wpAny_Constant_int (floordiv_int (by decide) (wpAny_Constant_int (mod_int (by decide) (item_str b0 (by omega) (tq_item n) ?_)))))))))))
      rw [← e]
      exact h _ _ (F₃.tk _).base
    · rename_i hc
      have e : tc n = pc n := by unfold tc; rw [if_neg (fun q => hc (decide_eq_true q))]
      refine wpAny_execs_nil (wpAny_execs_cons (wpAny_Return_some (F₃.ld rfl ?_)))
      rw [← e]
      exact h _ _ F₃.base
end Mine

-- MStr
namespace Mine

/-- a text by its signs -/
def T (l : List Nat) : Str := ⟨l.toArray⟩
theorem T_len (l : List Nat) : (T l).length = l.length := by simp [T, Str.length]
theorem T_beq (a b : List Nat) : (T a == T b) = (a == b) := by
  have : (T a = T b) ↔ a = b := by simp [T]
  by_cases h : a = b
  · simp [h]
  · have h' : ¬ T a = T b := fun q => h (this.mp q)
    rw [beq_eq_false_iff_ne.mpr h, beq_eq_false_iff_ne.mpr h']
theorem T_app (a b : List Nat) : T a ++ T b = T (a ++ b) := by
  show Str.append (T a) (T b) = _
  simp [T, Str.append]

theorem pick_range (l : List Nat) (i : Nat) : ∀ k, i + k ≤ l.length → (((List.range k).map fun j => i + j).filterMap (l[·]?)) = (l.drop i).take k := by
  intro k
  induction k with
  | zero => intro _; simp
  | succ k ih =>
    intro h
    rw [List.range_succ, List.map_append, List.filterMap_append, ih (by omega), List.take_add_one]
    congr 1
    have e : l[i + k]? = some l[i + k] := by simp
    simp [e, List.getElem?_drop]

theorem indices_eq (i j n : Nat) : Builtin.Str.strSliceIndices (some (i : Int)) (some (j : Int)) 1 n = (List.range (min j n - min i n)).map fun k => min i n + k := by
  unfold Builtin.Str.strSliceIndices sliceRange
  have h1 : ¬ ((i : Int) < 0) := by omega
  have h2 : ¬ ((j : Int) < 0) := by omega
  simp only [h1, h2, if_false, show (1 : Int) > 0 by decide, if_true]
  have e : (if max 0 (min (i : Int) n) < max 0 (min (j : Int) n) then (max 0 (min (j : Int) n) - max 0 (min (i : Int) n) + 1 - 1) / 1 else 0).toNat = min j n - min i n := by
    split
    · rw [Int.ediv_one]; omega
    · omega
  rw [e]
  refine List.map_congr_left fun k hk => ?_
  omega
theorem slice_T (l : List Nat) (i j : Nat) (hij : i ≤ j) : Txt.slice (T l) (some (i : Int)) (some (j : Int)) = T ((l.drop i).take (j - i)) := by
  unfold Txt.slice
  rw [indices_eq, T_len]
  have e : ((List.range (min j l.length - min i l.length)).map fun k => min i l.length + k).filterMap (fun x => (T l).cps[x]?) = (l.drop i).take (j - i) := by
    have : (fun x : Nat => (T l).cps[x]?) = fun x : Nat => l[x]? := by funext x; simp [T]
    rw [this, pick_range _ _ _ (by omega)]
    rcases Nat.le_total i l.length with h | h
    · rw [Nat.min_eq_left h]
      rcases Nat.le_total j l.length with h' | h'
      · rw [Nat.min_eq_left h']
      · rw [Nat.min_eq_right h', List.take_of_length_le (by simp), List.take_of_length_le (by simp; omega)]
    · rw [Nat.min_eq_right h, List.drop_of_length_le (Nat.le_refl _), List.drop_of_length_le h]; simp
  split
  · rename_i h
    have h : min j l.length - min i l.length = l.length := by simpa using h
    by_cases h0 : l.length = 0
    · have : l = [] := List.length_eq_zero_iff.mp h0
      subst this; simp
    · have hi : i = 0 := by omega
      have hj : l.length ≤ j := by omega
      subst hi
      rw [List.drop_zero, Nat.sub_zero, List.take_of_length_le hj]
  · rw [e]; rfl

section
variable {w : World} {A : Around} {E : Value → Shared → Prop} {s : Shared}
theorem keptK (s : Shared) : KeptH fun h => ∀ b o, s.heap.get? b = some o → h.get? b = some o := fun h ob H b o e => Heap.get?_push_of_some _ (H b o e)
theorem tail_ss {value slice : Expr} {l : List Nat} {t : Tok} {i j : Nat} {ui uj : Tok} {Q : Value → Shared → Prop} (h : ∀ t' s', Keeps s s' → Q (.str (T ((l.drop i).take (j - i))) t') s') (hij : i ≤ j) (hsz : l.length ≤ 1000000)
    (hs : subscripted slice false (.str (T l) t) (.ref s.heap.objs.size) = operate [.ref s.heap.objs.size, .str (T l) t] (getItem (.str (T l) t) (.ref s.heap.objs.size)) := by with_unfolding_all rfl)
    (ht : ∀ r, letTemporaryGo value (.str (T l) t) r = pure () := by intro _; with_unfolding_all rfl) :
    wpAny (model PG w) A (subscriptTail value slice (.str (T l) t) (.ref s.heap.objs.size)) Q E { s with heap := s.heap.push { cls := .type "slice", data := .fields #[.int i ui, .int j uj, .none] } } :=
  tail_of_ItemOn (SBH.sliceItem_ss (keptK s) (fun _ _ e => e) (fun h' t' k H => by rw [slice_T l i j hij]; exact h t' _ ⟨h', k, rfl, H⟩) (by rw [T_len, sizeLine]; omega)) hs ht
end
end Mine

-- MComp
namespace Mine

/-- what a comprehension's block takes over from its frame -/
def clOf (scope : Scope) (env : Env) : List (Str × Addr) := ((scope.names.filter fun x => x.2 == .free).map fun x => (x.1, (env.cells.lookup x.1).getD 0)).reverse

abbrev testsOf (ifs : List Expr) (env : Env) : Sem Bool := forIn ifs true fun c r => if r = true then do let ok ← isTrue c env (eval c env); pure (ForInStep.yield ok) else pure (ForInStep.yield r)

section
variable {w : World} {A : Around} {E : Value → Shared → Prop} {s₀ s : Shared} {env : Env} {l c : LV} {N : List (Addr × Obj)}

/-- what a comprehension of one clause needs, behind its source -/
def CompOn (w : World) (A : Around) (s : Shared) (env : Env) (scope : Scope) (x : Str) (ifs : List Expr) (elt : Expr) (c' : LV) (Q : Value → Shared → Prop) (it : Value) (s₂ : Shared) : Prop :=
  ∃ (I : Addr) (fp wr : List Addr) (n : Nat) (P : Nat → Value → Prop) (St : Nat → Heap → Prop) (p : Value → Bool) (R : Value → Value → Prop), it = .ref I ∧ Walks PG w A I fp wr n P St ∧ n ≤ sizeLine ∧ St 0 s₂.heap ∧ (∀ b ∈ fp, b < s₂.heap.objs.size) ∧ Keeps s s₂ ∧ (∀ b ∈ wr, s.heap.get? b = none) ∧
    (∀ C v s₃ E', (∃ i, P i v) → Rd (compEnvC scope (clOf scope env) C env) [(x, v)] c' s₃ → (∀ b o, s.heap.get? b = some o → s₃.heap.get? b = some o) →
      wpAny (model PG w) A (testsOf ifs (compEnvC scope (clOf scope env) C env)) (fun ok s₄ => ok = p v ∧ Keeps s₃ s₄) E' s₃) ∧
    (∀ C v s₃ E', (∃ i, P i v) → p v = true → Rd (compEnvC scope (clOf scope env) C env) [(x, v)] c' s₃ → (∀ b o, s.heap.get? b = some o → s₃.heap.get? b = some o) →
      wpAny (model PG w) A (eval elt (compEnvC scope (clOf scope env) C env)) (fun y s₄ => R v y ∧ Keeps s₃ s₄) E' s₃) ∧
    (∀ D s' ys (vs : List Value), Keeps s s' → s.heap.get? D = none → s'.heap.PlainList D ys → vs.length = n → (∀ j v, vs[j]? = some v → P j v) → Paired R (vs.filter p) ys.toList → Q (.ref D) s')

theorem Rd.comp_of {C : Addr} {scope : Scope} {s₃ : Shared} {m₃ : Str → Option Value} {x : Str} {v : Value} {c' : LV} (F : Fn s₀ env l c N s)
    (hc' : (c'.map fun p => c.lookup p.1) = c'.map fun p => some p.2) (hcl : (c'.map fun p => (clOf scope env).lookup p.1) = c'.map fun p => env.cells.lookup p.1) (hcs : (c'.all fun p => (env.cells.lookup p.1).isSome) = true)
    (hn : s₃.heap.Ns C m₃) (hm : m₃ x = some v) (hk : ∀ b o, s.heap.get? b = some o → s₃.heap.get? b = some o) : Rd (compEnvC scope (clOf scope env) C env) [(x, v)] c' s₃ := by
  refine ⟨⟨m₃, hn, fun n u e => ?_⟩, fun n u e => ?_⟩
  · rw [List.lookup_cons] at e
    cases hq : n == x with
    | true => rw [hq] at e; cases e; rw [eq_of_beq hq]; exact hm
    | false => rw [hq] at e; cases e
  · have hmem : (n, u) ∈ c' := by
      clear hc' hcl hcs
      induction c' with
      | nil => cases e
      | cons q r ih =>
        obtain ⟨a, b⟩ := q
        rw [List.lookup_cons] at e
        cases hq : n == a with
        | true => rw [hq] at e; cases e; rw [eq_of_beq hq]; exact List.mem_cons_self
        | false => rw [hq] at e; exact List.mem_cons_of_mem _ (ih e)
    have hcu := mem_of_map (g := fun n => c.lookup n) hc' _ hmem
    obtain ⟨m, cm, X, _, z⟩ := F.inn
    obtain ⟨a, ha⟩ := Option.isSome_iff_exists.mp (List.all_eq_true.mp hcs _ hmem)
    have e2 : (clOf scope env).lookup n = env.cells.lookup n := by
      clear hc' hcs e
      induction c' with
      | nil => cases hmem
      | cons q r ih =>
        rw [List.map_cons, List.map_cons, List.cons.injEq] at hcl
        rcases List.mem_cons.mp hmem with h | h
        · rw [← h] at hcl; exact hcl.1
        · exact ih hcl.2 h
    refine ⟨a, e2.trans ha, ?_⟩
    have := X.cell n a ha
    rw [z n u hcu] at this
    obtain ⟨o, h1, h2⟩ := this
    exact ⟨o, hk a o h1, h2⟩

/-- a comprehension of one clause -/
theorem Fn.comp {elt iter : Expr} {x : Str} {px : Pos} {ifs : List Expr} {scope : Scope} {pos : Pos} {Q : Value → Shared → Prop} (F : Fn s₀ env l c N s) (c' : LV)
    (h : wpAny (model PG w) A (eval iter env) (fun xv s₁ => wpAny (model PG w) A (pyIter xv) (fun it s₂ => CompOn w A s env scope x ifs elt c' Q it s₂) E s₁) E s)
    (hc' : (c'.map fun p => c.lookup p.1) = c'.map fun p => some p.2 := by kernel_rfl) (hcl : (c'.map fun p => (clOf scope env).lookup p.1) = c'.map fun p => env.cells.lookup p.1 := by kernel_rfl) (hcs : (c'.all fun p => (env.cells.lookup p.1).isSome) = true := by kernel_rfl)
    (hclos : closureFor scope env = pure (clOf scope env) := by kernel_rfl) (hcell : ∀ y ∈ scope.names, y.2 ≠ .cell := by decide) (hkind : scope.kind = .function := by kernel_rfl)
    (hnames : ∀ y ∈ scope.names, y.2 = .local → scope.names.lookup y.1 = some .local := by decide +kernel) (hx : scope.names.lookup x = some .local := by kernel_rfl)
    (hs : ∀ x, foldedSetIterable iter env x = pure x := by intro _; rfl) :
    wpAny (model PG w) A (eval (.ListComp elt [⟨.Name x px, iter, ifs, 0⟩] scope pos) env) Q E s := by
  rw [eval_ListComp]
  refine wpAny_comprehension_free (use := none) rfl hs hclos hkind hnames (wpAny_mono h (fun xv s₁ h₁ => wpAny_mono h₁ (fun it s₂ h₂ => ?_) fun _ _ e => e) fun _ _ e => e)
  obtain ⟨I, fp, wr, n, P, St, p, R, rfl, W, hsz, hst, hfp, hk, hwr, ht, he, hQ⟩ := h₂
  have old : ∀ (h₃ : Heap), (∀ b o, b ∉ wr → s₂.heap.get? b = some o → h₃.get? b = some o) → ∀ b o, s.heap.get? b = some o → h₃.get? b = some o := fun h₃ H b o e =>
    H b o (fun hb => by rw [hwr b hb] at e; cases e) (kget hk b o e)
  refine comp_block_walkC (RR := fun acc C => compPost (model PG w) A E none Q acc C) W hsz p R hcell hkind hx hst hfp ⟨fun C i v s₃ m₃ E' hC hP hn hm hkk htk => ?_, fun C i v s₃ m₃ E' hC hP hpv hn hm hkk htk => ?_⟩ (fun D C h' tk m' ys vs hD hC hDC hns hl hpl hlen hP hF hkk => ?_)
  · exact ht C v s₃ E' ⟨i, hP⟩ (Rd.comp_of F hc' hcl hcs hn hm (old s₃.heap hkk)) (old s₃.heap hkk)
  · exact he C v s₃ E' ⟨i, hP⟩ hpv (Rd.comp_of F hc' hcl hcs hn hm (old s₃.heap hkk)) (old s₃.heap hkk)
  · refine ⟨m', hns, fun h'' hs'' => hQ D _ ys vs ?_ ?_ (hpl.extBut hs''.extBut hDC) hlen hP hF⟩
    · obtain ⟨h₂, tk₂, rfl, k₂⟩ := hk
      exact ⟨h'', tk, rfl, fun b o e => hs''.extBut b o (by rintro rfl; have := k₂ _ _ e; rw [hC] at this; cases this) (old h' hkk b o e)⟩
    · cases hq : s.heap.get? D with
      | none => rfl
      | some o => have := kget hk _ _ hq; rw [hD] at this; cases this
end
end Mine

-- MSrc
namespace Mine

section
variable {w : World} {A : Around} {E : Value → Shared → Prop} {s₀ s s₁ : Shared} {env : Env} {l c : LV} {N : List (Addr × Obj)}

/-- an iterator over the given ints -/
def ISrc (w : World) (A : Around) (s : Shared) (ns : List Int) (it : Value) (s₂ : Shared) : Prop :=
  ∃ (I : Addr) (fp wr : List Addr) (P : Nat → Value → Prop) (St : Nat → Heap → Prop), it = .ref I ∧ Walks PG w A I fp wr ns.length P St ∧ St 0 s₂.heap ∧ (∀ b ∈ fp, b < s₂.heap.objs.size) ∧ Keeps s s₂ ∧ (∀ b ∈ wr, s.heap.get? b = none) ∧
    (∀ i v, P i v → ∃ k t, ns[i]? = some k ∧ v = .int k t)

theorem get_size (h : Heap) : h.get? h.objs.size = none := by
  cases e : h.get? h.objs.size with
  | none => rfl
  | some o => exact absurd (Heap.lt_size e) (Nat.lt_irrefl _)
theorem kpush (s : Shared) (o : Obj) (t : Nat) : Keeps s { s with heap := s.heap.push o, toks := t } := ⟨_, _, rfl, fun _ _ e => Heap.get?_push_of_some _ e⟩
theorem knone {s s' : Shared} {a : Addr} (k : Keeps s s') (h : s'.heap.get? a = none) : s.heap.get? a = none := by
  cases e : s.heap.get? a with
  | none => rfl
  | some o => have := kget k _ _ e; rw [h] at this; cases this

def upTo (a : Int) (n : Nat) : List Int := (List.range n).map fun (i : Nat) => a + i

theorem ISrc.range {a b : Int} {r : Addr} {t u v : Tok} {Q : Value → Shared → Prop} (hh : A.handled = none) (hr : IsRange s₁.heap r a b 1 t u v) (ha : -1000000 ≤ a) (ha' : a < 1000000) (hb : -1000000 ≤ b) (hb' : b < 1000000) (k : Keeps s s₁)
    (h : ∀ it s₂, ISrc w A s (upTo a (b - a).toNat) it s₂ → Q it s₂) : wpAny (model PG w) A (pyIter (.ref r)) Q E s₁ := by
  refine wpAny_pyIter_range hr (small_one (by omega) (by omega) (by omega) (by omega)) (h _ _ ⟨s₁.heap.objs.size, _, _, _, _, rfl, (Walks.range hh s₁.heap.objs.size a 1 (upTo a (b - a).toNat).length).bound, ?_, ?_, ?_, ?_, ?_⟩)
  · show (s₁.heap.push _).get? s₁.heap.objs.size = _
    rw [Heap.get?_push_size _ rfl, rangeSize_nat]
    simp [upTo]
  · intro b hb
    simp at hb
    subst hb
    rw [Heap.size_push]; exact Nat.lt_succ_self _
  · exact kt k (kpush _ _ _)
  · intro b hb
    simp at hb
    subst hb
    exact knone k (get_size _)
  · rintro i v ⟨hi, t, rfl⟩
    refine ⟨a + i, t, ?_, by simp⟩
    have hi : i < (b - a).toNat := by simpa [upTo] using hi
    simp only [upTo, List.getElem?_map, List.getElem?_range hi, Option.map_some]

theorem ISrc.list {a : Addr} {ns : List Int} {Q : Value → Shared → Prop} (hh : A.handled = none) (ha : IL s₁.heap a ns) (k : Keeps s s₁)
    (h : ∀ it s₂, ISrc w A s ns it s₂ → Q it s₂) : wpAny (model PG w) A (pyIter (.ref a)) Q E s₁ := by
  obtain ⟨vs, hl, hi⟩ := ha
  obtain ⟨ol, hol, _⟩ := id hl
  have hne : a ≠ s₁.heap.objs.size := Nat.ne_of_lt (Heap.lt_size hol)
  have hlen : vs.length = ns.length := hi.length
  refine wpAny_pyIter_list hl (h _ _ ⟨s₁.heap.objs.size, [s₁.heap.objs.size, a], [s₁.heap.objs.size], fun (i : Nat) (v : Value) => vs.toArray[i]? = some v, fun i h => h.IsListIter s₁.heap.objs.size a i ∧ h.IsList a vs.toArray, rfl, ?_, ⟨⟨_, Heap.get?_push_size _ rfl, rfl, rfl⟩, hl.push _⟩, ?_, ?_, ?_, ?_⟩)
  · have := Walks.list (prog := PG) (w := w) (A := A) hh s₁.heap.objs.size a hne vs.toArray
    rw [show vs.toArray.size = ns.length by simp [hlen]] at this
    exact this
  · intro b hb
    rw [Heap.size_push]
    simp at hb
    rcases hb with rfl | rfl
    · exact Nat.lt_succ_self _
    · exact Nat.lt_succ_of_lt (Heap.lt_size hol)
  · exact kt k (kpush _ _ _)
  · intro b hb
    simp at hb
    subst hb
    exact knone k (get_size _)
  · intro i v e
    have e : vs[i]? = some v := by simpa using e
    have hlt : i < ns.length := by rw [← hlen]; exact (List.getElem?_eq_some_iff.mp e).1
    obtain ⟨n, hn⟩ := some_of_lt hlt
    obtain ⟨u, hu⟩ := IntsAre.item hi hn
    rw [hu] at e; cases e
    exact ⟨n, u, hn, rfl⟩

def pI (pz : Int → Bool) : Value → Bool
  | .int k _ => pz k
  | _ => false
def rI (R : Int → Value → Prop) (v y : Value) : Prop := ∃ k t, v = .int k t ∧ R k y

theorem IntsAre.ofAt : ∀ {vs : List Value} {ns : List Int}, vs.length = ns.length → (∀ (i : Nat) (v : Value), vs[i]? = some v → ∃ k t, ns[i]? = some k ∧ v = .int k t) → IntsAre vs ns
  | [], [], _, _ => .nil
  | v :: vs, n :: ns, hl, h => by
    obtain ⟨k, t, e, rfl⟩ := h 0 v (by simp)
    simp at e; subst e
    exact .cons n t (IntsAre.ofAt (by simpa using hl) fun i v hv => by simpa using h (i + 1) v (by simpa using hv))
  | [], n :: ns, hl, _ => by simp at hl
  | v :: vs, [], hl, _ => by simp at hl
theorem paired_of {pz : Int → Bool} {R : Int → Value → Prop} : ∀ {vs : List Value} {ns : List Int} {ys : List Value}, IntsAre vs ns → Paired (rI R) (vs.filter (pI pz)) ys → Paired R (ns.filter pz) ys
  | _, _, ys, .nil, h => by cases h; exact .nil
  | _, _, ys, .cons n t (vs := vs) (ns := ns) r, h => by
    cases hp : pz n with
    | false =>
      rw [List.filter_cons_of_neg (by simp [pI, hp])] at h
      rw [List.filter_cons_of_neg (by simp [hp])]
      exact paired_of r h
    | true =>
      rw [List.filter_cons_of_pos (by simp [pI, hp])] at h
      rw [List.filter_cons_of_pos (by simp [hp])]
      cases h with
      | cons h1 h2 =>
        obtain ⟨k, u, e, q⟩ := h1
        cases e
        exact .cons q (paired_of r h2)
theorem paired_ints' {f : Int → Int} : ∀ {ns : List Int} {ys : List Value}, Paired (fun k y => ∃ u, y = .int (f k) u) ns ys → IntsAre ys (ns.map f)
  | _, _, .nil => .nil
  | _, _, .cons ⟨u, e⟩ r => by subst e; exact .cons _ u (paired_ints' r)

/-- a comprehension over ints -/
theorem Fn.compI {elt iter : Expr} {x : Str} {px : Pos} {ifs : List Expr} {scope : Scope} {pos : Pos} {Q : Value → Shared → Prop} (F : Fn s₀ env l c N s) (c' : LV) (pz : Int → Bool) (R : Int → Value → Prop)
    (h : wpAny (model PG w) A (eval iter env) (fun xv s₁ => wpAny (model PG w) A (pyIter xv) (fun it s₂ => ∃ ns, ISrc w A s ns it s₂ ∧ ns.length ≤ 1000000 ∧
      (∀ C k t s₃ E', k ∈ ns → Rd (compEnvC scope (clOf scope env) C env) [(x, .int k t)] c' s₃ → (∀ b o, s.heap.get? b = some o → s₃.heap.get? b = some o) →
        wpAny (model PG w) A (testsOf ifs (compEnvC scope (clOf scope env) C env)) (fun ok s₄ => ok = pz k ∧ Keeps s₃ s₄) E' s₃) ∧
      (∀ C k t s₃ E', k ∈ ns → pz k = true → Rd (compEnvC scope (clOf scope env) C env) [(x, .int k t)] c' s₃ → (∀ b o, s.heap.get? b = some o → s₃.heap.get? b = some o) →
        wpAny (model PG w) A (eval elt (compEnvC scope (clOf scope env) C env)) (fun y s₄ => R k y ∧ Keeps s₃ s₄) E' s₃) ∧
      (∀ D s' ys, Keeps s s' → s.heap.get? D = none → s'.heap.PlainList D ys → Paired R (ns.filter pz) ys.toList → Q (.ref D) s')) E s₁) E s)
    (hc' : (c'.map fun p => c.lookup p.1) = c'.map fun p => some p.2 := by kernel_rfl) (hcl : (c'.map fun p => (clOf scope env).lookup p.1) = c'.map fun p => env.cells.lookup p.1 := by kernel_rfl) (hcs : (c'.all fun p => (env.cells.lookup p.1).isSome) = true := by kernel_rfl)
    (hclos : closureFor scope env = pure (clOf scope env) := by kernel_rfl) (hcell : ∀ y ∈ scope.names, y.2 ≠ .cell := by decide) (hkind : scope.kind = .function := by kernel_rfl)
    (hnames : ∀ y ∈ scope.names, y.2 = .local → scope.names.lookup y.1 = some .local := by decide +kernel) (hx : scope.names.lookup x = some .local := by kernel_rfl)
    (hs : ∀ x, foldedSetIterable iter env x = pure x := by intro _; rfl) :
    wpAny (model PG w) A (eval (.ListComp elt [⟨.Name x px, iter, ifs, 0⟩] scope pos) env) Q E s := by
  refine F.comp c' (wpAny_mono h (fun xv s₁ h₁ => wpAny_mono h₁ (fun it s₂ h₂ => ?_) fun _ _ e => e) fun _ _ e => e) hc' hcl hcs hclos hcell hkind hnames hx hs
  obtain ⟨ns, ⟨I, fp, wr, P, St, rfl, W, hst, hfp, hk, hwr, hP⟩, hsz, ht, he, hQ⟩ := h₂
  refine ⟨I, fp, wr, ns.length, P, St, pI pz, rI R, rfl, W, Nat.le_trans hsz (by rw [sizeLine]; omega), hst, hfp, hk, hwr, ?_, ?_, ?_⟩
  · rintro C v s₃ E' ⟨i, hv⟩ rd kk
    obtain ⟨k, t, hn, rfl⟩ := hP i v hv
    exact ht C k t s₃ E' (List.mem_of_getElem? hn) rd kk
  · rintro C v s₃ E' ⟨i, hv⟩ hp rd kk
    obtain ⟨k, t, hn, rfl⟩ := hP i v hv
    exact wpAny_mono (he C k t s₃ E' (List.mem_of_getElem? hn) hp rd kk) (fun y s₄ hy => ⟨⟨k, t, rfl, hy.1⟩, hy.2⟩) fun _ _ e => e
  · intro D s' ys vs kk hD hl hlen hv hF
    exact hQ D s' ys kk hD hl (paired_of (IntsAre.ofAt hlen fun i v e => hP i v (hv i v e)) hF)
end
end Mine

-- MPlaces
namespace Mine

/-- does the piece stand there -/
def stands (p t : List Nat) (i : Nat) : Bool := (t.drop i).take p.length == p
/-- the places at which the piece stands -/
def places (p t : List Nat) : List Int := (upTo 0 (t.length + 1 - p.length)).filter fun k => stands p t k.toNat

section
variable {w : World} {A : Around} {E : Value → Shared → Prop} {s : Shared}
theorem len_T {l : List Nat} {t : Tok} {Q : Value → Shared → Prop} (hsz : l.length ≤ 1000000) (h : Q (.int l.length (s.toks + 1)) { s with toks := s.toks + 1 + 1 }) : wpAny (model PG w) A (call (.builtin "len") [.str (T l) t]) Q E s :=
  PyProof.Rows.len_str (by rw [T_len]; omega) (by rw [T_len]; exact h)
theorem eq_T {a b : List Nat} {t u : Tok} {Q : Value → Shared → Prop} (h : Q (.bool (a == b)) s) : wpAny (model PG w) A (compareOp .Eq (.str (T a) t) (.str (T b) u)) Q E s :=
  PyProof.Rows.eq_str (by rw [T_beq]; exact h)

theorem places_spec {Q : Value → Shared → Prop} {p t : List Nat} {tp tt : Tok} (G : Gr w s.heap) (hr : A.depth < recursionLimit) (hh : A.handled = none) (hp : p.length ≤ 1000) (ht : t.length ≤ 1000)
    (h : ∀ D s', Keeps s s' → s.heap.get? D = none → IL s'.heap D (places p t) → Q (.ref D) s') : wpAny (model PG w) A (call (.ref 63) [.str (T p) tp, .str (T t) tt]) Q E s := by
  refine enter 63 [("piece", .str (T p) tp), ("text", .str (T t) tt)] [] [("piece", .str (T p) tp), ("text", .str (T t) tt)] G hr ?_
  intro L s₁ E' hL F
  refine wpAny_execs_cons (wpAny_Return_some (F.compI [("piece", .str (T p) tp), ("text", .str (T t) tt)] (fun k => stands p t k.toNat) (fun k y => ∃ u, y = .int k u) ?_))
  refine F.callt1 G (wpAny_BinOp (wpAny_BinOp (F.callb1 G (F.ldc rfl (len_T (by omega) ((F.tk _).callb1 G ((F.tk _).ldc rfl (len_T (by omega) (sub_int (wpAny_Constant_int (add_int (call_range_1 ?_)))))))))))) 
  refine ISrc.range hh (IsRange.new ..) (by omega) (by omega) (by omega) (by omega) (kt (ktok _) (kpush _ _ _)) fun it s₂ hS => ⟨_, hS, ?_, ?_, ?_, ?_⟩
  · simp [upTo]; omega
  · intro C k u s₃ E₃ hk R kk
    have G₃ : Gr w s₃.heap := (F.gr G).keeps kk
    have hk0 : 0 ≤ k := by
      simp only [upTo, List.mem_map, List.mem_range] at hk
      obtain ⟨i, _, rfl⟩ := hk
      omega
    obtain ⟨i, rfl⟩ : ∃ i : Nat, k = i := ⟨k.toNat, by omega⟩
    refine wpAny_tests_one (wpAny_isTrue_Compare1 (Subscript_ (R.ldc rfl (wpAny_Slice (R.ld rfl (wpAny_BinOp (R.ld rfl (R.callb1 G₃ (R.ldc rfl (len_T (by omega) (add_int (wpAny_pure ?_)))))))))))) 
    refine tail_ss (i := i) (j := i + p.length) (fun t' s' k' => ?_) (by omega) (by omega)
    refine (R.kp (kt (ktok _) k')).ldc rfl (eq_T (wpAny_truthy_bool ⟨?_, kt (ktok _) k'⟩))
    simp [stands]
  · intro C k u s₃ E₃ hk hp R kk
    exact R.ld rfl ⟨⟨_, rfl⟩, krfl⟩
  · intro D s' ys kk hD hl hF
    refine h D s' (kt F.base kk) (knone F.base hD) ⟨ys.toList, by simpa using hl.isList, ?_⟩
    have := paired_ints' (f := id) hF
    rw [List.map_id] at this
    have e : ((t.length : Int) - p.length + 1 - 0).toNat = t.length + 1 - p.length := by omega
    rw [e] at this
    exact this
end
end Mine

-- MFor
namespace Mine

section
variable {w : World} {A : Around} {E : Value → Shared → Prop} {s₀ s s₁ : Shared} {env : Env} {l c : LV} {N : List (Addr × Obj)}

/-- an object of the frame's own is let go -/
theorem Fn.drop1 {a : Addr} {o : Obj} {h' : Heap} {tk : Nat} (F : Fn s₀ env l c ((a, o) :: N) s) (hs : ∀ b o, b ≠ a → s.heap.get? b = some o → h'.get? b = some o) : Fn s₀ env l c N { s with heap := h', toks := tk } := by
  obtain ⟨_, ha0, haL, haC⟩ := F.new (a, o) List.mem_cons_self
  obtain ⟨hap, hr⟩ := List.pairwise_cons.mp F.apart
  refine ⟨?_, fun p hp => ?_, hr⟩
  · obtain ⟨m, cm, x, y, z⟩ := F.inn
    refine ⟨m, cm, ⟨⟨?_, x.toInCall.ns.extBut (b := a) (fun b o hb e => hs b o hb e) (Ne.symm haL), fun b o e => hs b o (fun q => by rw [q, ha0] at e; cases e) (x.toInCall.keep b o e), x.toInCall.fresh⟩, fun k d hk => ?_, x.apart, x.above⟩, y, z⟩
    · obtain ⟨h₁, t₁, rfl⟩ := x.toInCall.same
      exact ⟨h', tk, rfl⟩
    · obtain ⟨o, h1, h2⟩ := x.cell k d hk
      exact ⟨o, hs d o (Ne.symm (haC k d hk)) h1, h2⟩
  · have q := F.new p (List.mem_cons_of_mem _ hp)
    exact ⟨hs p.1 p.2 (Ne.symm (hap p hp)) q.1, q.2⟩

/-- a for over an iterator of its own -/
theorem for_rule {R : Result → Shared → Prop} {target : Expr} {body : List Stmt} {I : Addr} {o₀ : Obj} {n : Nat} {P : Nat → Value → Prop} {St : Nat → Heap → Prop}
    (W : Walks PG w A I [I] [I] n P St) (hlive : ∀ i h, St i h → ∃ o, h.get? I = some o) (hst : St 0 s.heap) (F : Fn s₀ env l c ((I, o₀) :: N) s)
    (J : Nat → LV → LV → List (Addr × Obj) → Prop) (h0 : J 0 l c N)
    (step : ∀ i v o l c N s E', i < n → P i v → J i l c N → Fn s₀ env l c ((I, o) :: N) s → wpAny (model PG w) A (assign target env v) (fun _ s₂ => wpAny (model PG w) A (execs body env) (fun f s₃ => match f with
      | .next | .cont => ∃ l' c' N', J (i + 1) l' c' N' ∧ Fn s₀ env l' c' ((I, o) :: N') s₃
      | .brk => R (.ok .next) s₃
      | .ret v => R (.ok (.ret v)) s₃) E' s₂) E' s)
    (fin : ∀ l c N s, J n l c N → Fn s₀ env l c N s → R (.ok .next) s)
    (ht : ∀ v, letOwnedTupleGo target (.ref I) v = pure () := by intro _; rfl) :
    codeAny (model PG w) A (.forLoop target (.ref I) body [] env) R s := by
  refine codeAny_forLoop (fun k s' => ∃ i o l' c' N', k = n + 1 - i ∧ i ≤ n ∧ St i s'.heap ∧ J i l' c' N' ∧ Fn s₀ env l' c' ((I, o) :: N') s') ?_ (n + 1) ⟨0, o₀, l, c, N, rfl, Nat.zero_le _, hst, h0, F⟩ ht
  rintro k s' ⟨i, o, l', c', N', rfl, hi, hst', hJ, F'⟩
  by_cases hlt : i < n
  · refine W.item i _ _ _ hlt hst' fun v h₁ tk₁ hP hst₁ hk₁ => ?_
    obtain ⟨o₁, ho₁⟩ := hlive _ _ hst₁
    have F₁ : Fn s₀ env l' c' ((I, o₁) :: N') { s' with heap := h₁, toks := tk₁ } := F'.upd (fun b o hb e => hk₁ b o (by simpa using hb) e) ho₁
    refine wpAny_mono (step i v o₁ l' c' N' _ _ hlt hP hJ F₁) (fun _ s₂ h₂ => wpAny_mono h₂ (fun f s₃ h₃ => ?_) fun _ _ e => e) fun _ _ e => e
    have nxt : (∃ l' c' N', J (i + 1) l' c' N' ∧ Fn s₀ env l' c' ((I, o₁) :: N') s₃) → ∃ m, m < n + 1 - i ∧ ∃ i o l' c' N', m = n + 1 - i ∧ i ≤ n ∧ St i s₃.heap ∧ J i l' c' N' ∧ Fn s₀ env l' c' ((I, o) :: N') s₃ := by
      rintro ⟨l₂, c₂, N₂, hJ₂, F₂⟩
      refine ⟨n + 1 - (i + 1), by omega, i + 1, o₁, l₂, c₂, N₂, rfl, hlt, ?_, hJ₂, F₂⟩
      refine W.frame _ _ _ hst₁ fun b hb ob e => ?_
      have hb : b = I := by simpa using hb
      subst hb
      rw [ho₁] at e; cases e
      exact (F₂.new _ List.mem_cons_self).1
    cases f with
    | next => exact nxt h₃
    | cont => exact nxt h₃
    | brk => exact h₃
    | ret v => exact h₃
  · have hin : i = n := by omega
    subst hin
    refine W.done _ _ _ hst' fun h₁ tk₁ hk₁ => wpAny_execs_nil ?_
    exact fin l' c' N' _ hJ (F'.drop1 fun b o hb e => hk₁ b o (by simpa using hb) e)

/-- for over a range -/
theorem Fn.forRange {target : Expr} {iter : Expr} {body : List Stmt} {pos : Pos} {Q : Flow → Shared → Prop} {a b : Int} (F : Fn s₀ env l c N s) (hh : A.handled = none) (ha : -1000000 ≤ a) (ha' : a < 1000000) (hb : -1000000 ≤ b) (hb' : b < 1000000)
    (hiter : ∀ (E' : Value → Shared → Prop) (Q' : Value → Shared → Prop), (∀ r s₁ t u v, IsRange s₁.heap r a b 1 t u v → Keeps s s₁ → Q' (.ref r) s₁) → wpAny (model PG w) A (eval iter env) Q' E' s)
    (J : Nat → LV → LV → List (Addr × Obj) → Prop) (h0 : J 0 l c N)
    (step : ∀ I o (i : Nat) t l c N s E', (i : Int) < b - a → J i l c N → Fn s₀ env l c ((I, o) :: N) s → wpAny (model PG w) A (assign target env (.int (a + i) t)) (fun _ s₂ => wpAny (model PG w) A (execs body env) (fun f s₃ => match f with
      | .next | .cont => ∃ l' c' N', J (i + 1) l' c' N' ∧ Fn s₀ env l' c' ((I, o) :: N') s₃
      | .brk => Q .next s₃
      | .ret v => Q (.ret v) s₃) E' s₂) E' s)
    (fin : ∀ l c N s, J (b - a).toNat l c N → Fn s₀ env l c N s → Q .next s)
    (ht : ∀ I v, letOwnedTupleGo target (.ref I) v = pure () := by intro _ _; rfl)
    (hs : ∀ x, foldedSetIterable iter env x = pure x := by intro _; rfl) :
    wpAny (model PG w) A (exec (.For target iter body [] pos) env) Q E s := by
  refine wpAny_For (hiter _ _ fun r s₁ t u v hr k => wpAny_pyIter_range hr (small_one (by omega) (by omega) (by omega) (by omega)) ?_) hs
  have F₁ := F.kp k
  have F₂ := F₁.mk1 (a := s₁.heap.objs.size) (o := { cls := .type "range_iterator", data := .fields #[rawInt a, rawInt (Builtin.Range.rangeSize a b 1), rawInt 1] }) (kpush s₁ _ s₁.toks) (Heap.get?_push_size _ rfl) (get_size _)
  refine for_rule (Walks.range hh s₁.heap.objs.size a 1 (b - a).toNat).bound (fun i h e => ⟨_, e⟩) ?_ F₂ J h0 (fun i v o l c N s E' hi hP hJ F => ?_) (fun l c N s hJ F => fin l c N s hJ F) (ht _)
  · show (s₁.heap.push _).get? s₁.heap.objs.size = _
    rw [Heap.get?_push_size _ rfl, rangeSize_nat]
    simp
  · obtain ⟨_, t, rfl⟩ := hP
    have := step s₁.heap.objs.size o i t l c N s E' (by omega) hJ F
    rw [Int.mul_one]
    exact this

/-- for over a text's signs -/
theorem Fn.forStr {target : Expr} {iter : Expr} {body : List Stmt} {pos : Pos} {Q : Flow → Shared → Prop} {x : List Nat} (F : Fn s₀ env l c N s) (hh : A.handled = none) (hx : (x.all (· < 128)) = true)
    (hiter : ∀ (E' : Value → Shared → Prop) (Q' : Value → Shared → Prop), (∀ t, Q' (.str (T x) t) s) → wpAny (model PG w) A (eval iter env) Q' E' s)
    (J : Nat → LV → LV → List (Addr × Obj) → Prop) (h0 : J 0 l c N)
    (step : ∀ I o (i : Nat) (k : Nat) t l c N s E', x[i]? = some k → J i l c N → Fn s₀ env l c ((I, o) :: N) s → wpAny (model PG w) A (assign target env (.str (T [k]) t)) (fun _ s₂ => wpAny (model PG w) A (execs body env) (fun f s₃ => match f with
      | .next | .cont => ∃ l' c' N', J (i + 1) l' c' N' ∧ Fn s₀ env l' c' ((I, o) :: N') s₃
      | .brk => Q .next s₃
      | .ret v => Q (.ret v) s₃) E' s₂) E' s)
    (fin : ∀ l c N s, J x.length l c N → Fn s₀ env l c N s → Q .next s)
    (ht : ∀ I v, letOwnedTupleGo target (.ref I) v = pure () := by intro _ _; rfl)
    (hs : ∀ x, foldedSetIterable iter env x = pure x := by intro _; rfl) :
    wpAny (model PG w) A (exec (.For target iter body [] pos) env) Q E s := by
  refine wpAny_For (hiter _ _ fun t => wpAny_pyIter_ascii (by simpa [T] using hx) ?_) hs
  have F₂ := F.mk1 (a := s.heap.objs.size) (o := { cls := .type "str_ascii_iterator", data := .fields #[.str (T x) t, .int 0 0] }) (kpush s _ s.toks) (Heap.get?_push_size _ rfl) (get_size _)
  have W := Walks.strAscii (prog := PG) (w := w) (A := A) hh s.heap.objs.size (T x) t
  rw [show (T x).cps.size = x.length by simp [T]] at W
  refine for_rule W (fun i h e => let ⟨o, h1, _⟩ := e; ⟨o, h1⟩) ⟨_, Heap.get?_push_size _ rfl, rfl, rfl⟩ F₂ J h0 (fun i v o l c N s E' hi hP hJ F => ?_) (fun l c N s hJ F => fin l c N s hJ F) (ht _)
  obtain ⟨k, u, e, rfl⟩ := hP
  exact step _ o i k u l c N s E' (by simpa [T] using e) hJ F
end
end Mine

-- MAcomp
namespace Mine

/-- the object is a list of the given values -/
def LO (o : Obj) (vs : List Value) : Prop := o.cls = .type "list" ∧ ∃ n, o.data = .seq vs.toArray n
theorem LO.isList {o : Obj} {vs : List Value} {h : Heap} {a : Addr} (x : LO o vs) (ha : h.get? a = some o) : h.IsList a vs.toArray := ⟨o, ha, x.1, x.2⟩

section
variable {w : World} {A : Around} {E : Value → Shared → Prop} {s₀ s s₁ : Shared} {env : Env} {l c : LV} {N : List (Addr × Obj)}

/-- a comprehension over ints, put into a name -/
theorem Fn.acompI {elt iter : Expr} {x y : Str} {px py spos : Pos} {ifs : List Expr} {scope : Scope} {pos : Pos} {Q : Flow → Shared → Prop} (F : Fn s₀ env l c N s) (c' : LV) (pz : Int → Bool) (R : Int → Value → Prop)
    (h : wpAny (model PG w) A (eval iter env) (fun xv s₁ => wpAny (model PG w) A (pyIter xv) (fun it s₂ => ∃ ns, ISrc w A s ns it s₂ ∧ ns.length ≤ 1000000 ∧
      (∀ C k t s₃ E', k ∈ ns → Rd (compEnvC scope (clOf scope env) C env) [(x, .int k t)] c' s₃ → (∀ b o, s.heap.get? b = some o → s₃.heap.get? b = some o) →
        wpAny (model PG w) A (testsOf ifs (compEnvC scope (clOf scope env) C env)) (fun ok s₄ => ok = pz k ∧ Keeps s₃ s₄) E' s₃) ∧
      (∀ C k t s₃ E', k ∈ ns → pz k = true → Rd (compEnvC scope (clOf scope env) C env) [(x, .int k t)] c' s₃ → (∀ b o, s.heap.get? b = some o → s₃.heap.get? b = some o) →
        wpAny (model PG w) A (eval elt (compEnvC scope (clOf scope env) C env)) (fun y s₄ => R k y ∧ Keeps s₃ s₄) E' s₃) ∧
      (∀ D o s' ys, Fn s₀ env ((y, .ref D) :: l) c ((D, o) :: N) s' → LO o ys → Paired R (ns.filter pz) ys → Q .next s')) E s₁) E s)
    (hsw : swapsWith (.ListComp elt [⟨.Name x px, iter, ifs, 0⟩] scope pos) (some (.Name y py)) spos.line env = pure true := by kernel_rfl) (hy : env.kindOf y = some .local := by kernel_rfl) (hk0 : env.scope.kind = .function := by kernel_rfl)
    (hc' : (c'.map fun p => c.lookup p.1) = c'.map fun p => some p.2 := by kernel_rfl) (hcl : (c'.map fun p => (clOf scope env).lookup p.1) = c'.map fun p => env.cells.lookup p.1 := by kernel_rfl) (hcs : (c'.all fun p => (env.cells.lookup p.1).isSome) = true := by kernel_rfl)
    (hclos : closureFor scope env = pure (clOf scope env) := by kernel_rfl) (hcell : ∀ y ∈ scope.names, y.2 ≠ .cell := by decide) (hkind : scope.kind = .function := by kernel_rfl)
    (hnames : ∀ y ∈ scope.names, y.2 = .local → scope.names.lookup y.1 = some .local := by decide +kernel) (hx : scope.names.lookup x = some .local := by kernel_rfl)
    (hs : ∀ x, foldedSetIterable iter env x = pure x := by intro _; rfl) :
    wpAny (model PG w) A (exec (.Assign [.Name y py] (.ListComp elt [⟨.Name x px, iter, ifs, 0⟩] scope pos) spos) env) Q E s := by
  rw [exec_Assign_Name_used _ _ _ _ hsw]
  refine wpAny_bind (wpAny_standAt (wpAny_bind ?_))
  show wpAny _ A (do let _ ← comprehension (.ListComp elt [⟨.Name x px, iter, ifs, 0⟩] scope pos) scope env _ (newList []) false (eval iter env) (some (assign (.Name y py) env))) _ _ s
  refine wpAny_bind (wpAny_mono (wpAny_comprehension_free (use := some (assign (.Name y py) env)) (Q := fun _ s' => Q .next s') rfl hs hclos hkind hnames
    (wpAny_mono h (fun xv s₁ h₁ => wpAny_mono h₁ (fun it s₂ h₂ => ?_) fun _ _ e => e) fun _ _ e => e)) (fun _ s' hq => wpAny_pure (wpAny_pure hq)) fun _ _ e => e)
  obtain ⟨ns, ⟨I, fp, wr, P, St, rfl, W, hst, hfp, hk, hwr, hP⟩, hsz, ht, he, hQ⟩ := h₂
  have old : ∀ (h₃ : Heap), (∀ b o, b ∉ wr → s₂.heap.get? b = some o → h₃.get? b = some o) → ∀ b o, s.heap.get? b = some o → h₃.get? b = some o := fun h₃ H b o e =>
    H b o (fun hb => by rw [hwr b hb] at e; cases e) (kget hk b o e)
  refine comp_block_walkC (RR := fun acc C => compPost (model PG w) A E (some (assign (.Name y py) env)) (fun _ s' => Q .next s') acc C) W (Nat.le_trans hsz (by rw [sizeLine]; omega)) (pI pz) (rI R) hcell hkind hx hst hfp
    ⟨fun C i v s₃ m₃ E' hC hv hn hm hkk htk => ?_, fun C i v s₃ m₃ E' hC hv hpv hn hm hkk htk => ?_⟩ (fun D C h' tk m' ys vs hD hC hDC hns hl hpl hlen hv hF hkk => ?_)
  · obtain ⟨k, t, hn', rfl⟩ := hP i v hv
    exact ht C k t s₃ E' (List.mem_of_getElem? hn') (Rd.comp_of F hc' hcl hcs hn hm (old s₃.heap hkk)) (old s₃.heap hkk)
  · obtain ⟨k, t, hn', rfl⟩ := hP i v hv
    exact wpAny_mono (he C k t s₃ E' (List.mem_of_getElem? hn') hpv (Rd.comp_of F hc' hcl hcs hn hm (old s₃.heap hkk)) (old s₃.heap hkk)) (fun y s₄ hy => ⟨⟨k, t, rfl, hy.1⟩, hy.2⟩) fun _ _ e => e
  · have hD' := knone hk hD
    have hC' := knone hk hC
    obtain ⟨oC, _, _, hoC, _⟩ := id hns
    obtain ⟨oD, hoD, hcD, hdD⟩ := id hl
    have kk : Keeps s { s₂ with heap := h', toks := tk } := by
      obtain ⟨h₂, tk₂, rfl, k₂⟩ := hk
      exact ⟨h', tk, rfl, old h' hkk⟩
    have F₁ := F.mk1 kk hoD hD'
    have F₂ : Fn s₀ env l c ((C, oC) :: (D, oD) :: N) { s₂ with heap := h', toks := tk } := by
      have F' := F.kp kk
      obtain ⟨⟨oL, hL⟩, hCe⟩ := F.live
      have ne : ∀ b o', s.heap.get? b = some o' → C ≠ b := fun b o' e q => by rw [← q, hC'] at e; cases e
      refine ⟨F'.inn, fun p hp => ?_, List.pairwise_cons.mpr ⟨fun p hp => ?_, F₁.apart⟩⟩
      · rcases List.mem_cons.mp hp with rfl | hp
        · exact ⟨hoC, knone F.base hC', ne _ _ hL, fun n b e => let ⟨o, ho⟩ := hCe n b e; ne _ _ ho⟩
        · exact F₁.new p hp
      · rcases List.mem_cons.mp hp with rfl | hp
        · exact Ne.symm hDC
        · exact ne _ _ (F.new p hp).1
    show wpAny _ A (assign (.Name y py) env (.ref D)) _ _ _
    refine wpAny_assign_Name (F₂.st (fun s₅ F₅ => ⟨m', ?_, fun h₆ hs₆ => ?_⟩) hy hk0)
    · obtain ⟨o, es, ep, ho, r⟩ := hns
      rw [hoC] at ho; cases ho
      exact ⟨oC, es, ep, (F₅.new _ List.mem_cons_self).1, r⟩
    · exact hQ D oD _ ys.toList (F₅.drop1 (tk := s₅.toks) fun b o hb e => hs₆.extBut b o hb e) ⟨hcD, by simpa using hdD⟩ (paired_of (IntsAre.ofAt hlen fun i v e => hP i v (hv i v e)) hF)
end
end Mine

-- MEnds
namespace Mine

/-- one sign of the path, all places at once -/
def step1 (t : List Nat) (ps : List Int) (c : Nat) : List Int :=
  if c ≠ 42 then (ps.filter fun k => (t.drop k.toNat).take 1 == [c]).map (· + 1)
  else match ps with
    | [] => []
    | k :: _ => upTo k ((t.length : Int) + 1 - k).toNat
def endsP (path t : List Nat) (start : Int) : List Int := path.foldl (step1 t) [start]

section
variable {w : World} {A : Around} {E : Value → Shared → Prop} {s : Shared}
theorem new_list {vs : List Value} {Q : Value → Shared → Prop} (hsz : vs.length ≤ 1000000) (h : ∀ D o s', Keeps s s' → s'.heap.get? D = some o → s.heap.get? D = none → LO o vs → Q (.ref D) s') : wpAny (model PG w) A (newList vs) Q E s :=
  wpAny_newObj_type (h _ _ _ (kpush s _ s.toks) (Heap.get?_push_size _ rfl) (get_size _) ⟨rfl, _, rfl⟩) (by show vs.toArray.size ≤ sizeLine; rw [List.size_toArray, sizeLine]; omega)

theorem list_range {r : Addr} {a b : Int} {t u v : Tok} {Q : Value → Shared → Prop} (hh : A.handled = none) (hr : IsRange s.heap r a b 1 t u v) (ha : -1000000 ≤ a) (ha' : a < 1000000) (hb : -1000000 ≤ b) (hb' : b < 1000000)
    (h : ∀ D o s' vs, Keeps s s' → s'.heap.get? D = some o → s.heap.get? D = none → LO o vs → IntsAre vs (upTo a (b - a).toNat) → Q (.ref D) s') : wpAny (model PG w) A (call (.type "list") [.ref r]) Q E s := by
  refine call_list_range (n := (b - a).toNat) hh hr (small_one (by omega) (by omega) (by omega) (by omega)) (rangeSize_nat a b) (by omega) fun h' tk acc' c' hk hS hI => h _ _ _ acc'.toList ⟨h', tk, rfl, hk⟩ hS (get_size _) ⟨rfl, c', by simp⟩ ?_
  refine IntsAre.ofAt (by simp [upTo, hI.1]) fun i v e => ?_
  have e : acc'[i]? = some v := by simpa using e
  have hi : i < (b - a).toNat := by rw [← hI.1]; exact (Array.getElem?_eq_some_iff.mp e).1
  obtain ⟨t, rfl⟩ := hI.2 i v e
  exact ⟨a + i, t, by simp only [upTo, List.getElem?_map, List.getElem?_range hi, Option.map_some], by simp⟩

theorem eq_lit {a b : List Nat} {y : Str} {t u : Tok} {Q : Value → Shared → Prop} (hy : y = T b) (h : Q (.bool (a == b)) s) : wpAny (model PG w) A (compareOp .Eq (.str (T a) t) (.str y u)) Q E s := by
  subst hy; exact eq_T h
theorem ne_lit {a b : List Nat} {y : Str} {t u : Tok} {Q : Value → Shared → Prop} (hy : y = T b) (h : Q (.bool (a != b)) s) : wpAny (model PG w) A (compareOp .NotEq (.str (T a) t) (.str y u)) Q E s := by
  subst hy
  refine P.ne_str ?_
  simpa [T] using h

theorem mem_upTo {a : Int} {n : Nat} {k : Int} (h : k ∈ upTo a n) : a ≤ k ∧ k < a + n := by
  simp only [upTo, List.mem_map, List.mem_range] at h
  obtain ⟨i, hi, rfl⟩ := h
  omega
theorem step1_bd {t : List Nat} {ps : List Int} {c : Nat} (h : ∀ k ∈ ps, 0 ≤ k ∧ k ≤ t.length) (hl : ps.length ≤ t.length + 1) : (∀ k ∈ step1 t ps c, 0 ≤ k ∧ k ≤ t.length) ∧ (step1 t ps c).length ≤ t.length + 1 := by
  unfold step1
  split
  · refine ⟨fun k hk => ?_, ?_⟩
    · obtain ⟨j, hj, rfl⟩ := List.mem_map.mp hk
      obtain ⟨h1, h2⟩ := List.mem_filter.mp hj
      have := h j h1
      have h3 : j.toNat < t.length := by
        rcases Nat.lt_or_ge j.toNat t.length with q | q
        · exact q
        · rw [List.drop_of_length_le q] at h2; simp at h2
      omega
    · rw [List.length_map]; exact Nat.le_trans (List.length_filter_le _ _) hl
  · split
    · exact ⟨fun k hk => (nomatch hk), Nat.zero_le _⟩
    · rename_i k r
      have := h k List.mem_cons_self
      refine ⟨fun j hj => ?_, ?_⟩
      · have := mem_upTo hj; omega
      · simp [upTo]; omega
theorem endsP_bd (t : List Nat) : ∀ (path : List Nat) (ps : List Int), (∀ k ∈ ps, 0 ≤ k ∧ k ≤ t.length) → ps.length ≤ t.length + 1 → (∀ k ∈ path.foldl (step1 t) ps, 0 ≤ k ∧ k ≤ t.length) ∧ (path.foldl (step1 t) ps).length ≤ t.length + 1
  | [], ps, h, hl => ⟨h, hl⟩
  | c :: r, ps, h, hl => endsP_bd t r _ (step1_bd h hl).1 (step1_bd h hl).2
theorem take_foldl {path t : List Nat} {start : Int} {i k : Nat} (e : path[i]? = some k) : endsP (path.take (i + 1)) t start = step1 t (endsP (path.take i) t start) k := by
  unfold endsP
  rw [List.take_add_one, e, Option.toList_some, List.foldl_append]; rfl

theorem ends_spec {Q : Value → Shared → Prop} {path t : List Nat} {tp tt ts : Tok} {start : Nat} (G : Gr w s.heap) (hr : A.depth < recursionLimit) (hh : A.handled = none) (hu : A.units + 200 < cLine)
    (hpa : (path.all (· < 128)) = true) (hp : path.length ≤ 1000) (ht : t.length ≤ 1000) (hst : start ≤ t.length)
    (h : ∀ D s', Keeps s s' → s.heap.get? D = none → IL s'.heap D (endsP path t start) → Q (.ref D) s') : wpAny (model PG w) A (call (.ref 73) [.str (T path) tp, .str (T t) tt, .int start ts]) Q E s := by
  refine enter 73 [("path", .str (T path) tp), ("text", .str (T t) tt), ("start", .int start ts)] [("path", .str (T path) tp), ("start", .int start ts)] [("text", .str (T t) tt)] G hr ?_
  intro L s₁ E' hL F
  refine wpAny_execs_cons (wpAny_Assign_Name (List_ (Calls.spliced_cons (F.ld rfl (Calls.spliced_nil (new_list (by simp) fun D₂ o s₂ k₂ ho hn₂ lo => ?_))))))
  refine (F.mk1 k₂ ho hn₂).st fun s₃ F₃ => ?_
  have F₃ : Fn s (envK w L 73) [("path", .str (T path) tp), ("places", .ref D₂)] [("text", .str (T t) tt)] [(D₂, o)] s₃ := F₃.weakl rfl
  refine wpAny_execs_cons (F₃.forStr hh hpa (fun E₂ Q₂ hq => F₃.ld rfl (hq _))
    (fun i l c N => ∃ D o vs, l = ([("path", .str (T path) tp), ("places", .ref D)] : LV) ∧ c = ([("text", .str (T t) tt)] : LV) ∧ N = [(D, o)] ∧ LO o vs ∧ IntsAre vs (endsP (path.take i) t start)) ⟨_, _, _, rfl, rfl, rfl, lo, .cons _ _ .nil⟩ ?_ ?_)
  · rintro I oI i k tk l c N s₄ E₄ hi ⟨D, oD, vs, rfl, rfl, rfl, lo, hvs⟩ F₄
    obtain ⟨hbd, hln⟩ := endsP_bd t (path.take i) [(start : Int)] (by simpa using hst) (by simp)
    change ∀ k ∈ endsP (path.take i) t start, _ at hbd
    change (endsP (path.take i) t start).length ≤ _ at hln
    have hnx := take_foldl (t := t) (start := start) hi
    generalize endsP (path.take i) t start = ps at *
    refine wpAny_assign_Name (F₄.stc fun s₅ F₅ => ?_)
    have hD : ∀ {s₆}, Keeps s₅ s₆ → IL s₆.heap D ps := fun k6 => ⟨vs, lo.isList ((F₅.kp k6).new (D, oD) (by simp)).1, hvs⟩
    refine wpAny_execs_cons (wpAny_If (wpAny_isTrue_Compare1 (F₅.ldc rfl (Calls.Constant_str (ne_lit (b := [42]) (by decide +kernel) (wpAny_truthy_bool ?_))))))
    split
    · rename_i hc
      have hc : k ≠ 42 := by simpa using hc
      have F₆ := F₅.tk (s₅.toks + 1)
      refine wpAny_execs_cons (F₆.acompI [("text", .str (T t) tt), ("sign", .str (T [k]) tk)] (fun j => (t.drop j.toNat).take 1 == [k]) (fun j y => ∃ u, y = .int (j + 1) u) ?_)
      refine F₆.ld rfl (ISrc.list hh (hD (ktok _)) krfl fun it s₇ hS => ⟨ps, hS, by omega, ?_, ?_, ?_⟩)
      · intro C j u s₈ E₈ hj R kk
        have := hbd j hj
        obtain ⟨i, rfl⟩ : ∃ i : Nat, j = i := ⟨j.toNat, by omega⟩
        refine wpAny_tests_one (wpAny_isTrue_Compare1 (Subscript_ (R.ldc rfl (wpAny_Slice (R.ld rfl (wpAny_BinOp (R.ld rfl (wpAny_Constant_int (add_int (wpAny_pure ?_)))))))))) 
        refine tail_ss (i := i) (j := i + 1) (fun t' s' k' => ?_) (by omega) (by omega)
        refine (R.kp (kt (ktok _) k')).ldc rfl (eq_T (wpAny_truthy_bool ⟨?_, kt (ktok _) k'⟩))
        simp
      · intro C j u s₈ E₈ hj hp R kk
        exact wpAny_BinOp (R.ld rfl (wpAny_Constant_int (add_int ⟨⟨_, rfl⟩, ktok _⟩)))
      · intro D' o' s' ys F' lo' hF
        refine wpAny_execs_nil (wpAny_execs_nil ⟨_, _, _, ⟨D', o', ys, rfl, rfl, rfl, lo', ?_⟩, ?_⟩)
        · rw [hnx, step1.eq_def, if_pos hc]
          exact paired_ints' hF
        · have F'' := F'.perm (N' := (I, oI) :: (D', o') :: [(D, oD)]) (List.Perm.swap ..)
          exact F''.weak (by simp) rfl rfl
    · rename_i hc
      have hc : k = 42 := by simpa using hc
      have F₆ := F₅.tk (s₅.toks + 1)
      refine wpAny_execs_cons (wpAny_If (wpAny_isTrue_Compare1 (F₆.ld rfl (List_ (Calls.spliced_nil (new_list (by simp) fun D₇ o₇ s₇ k₇ ho₇ hn₇ lo₇ => ?_))))))
      have F₇ := F₆.kp k₇
      obtain ⟨us, hus, hius⟩ := hD (kt (ktok _) k₇)
      refine ne_intsK (ns := ps) (ms := []) hus hius (lo₇.isList ho₇) .nil (by show A.units + 3 + 64 < cLine; omega) (wpAny_truthy_bool ?_)
      split
      · rename_i hne
        have hne : ps ≠ [] := by simpa using hne
        obtain ⟨k0, pr, rfl⟩ : ∃ k0 pr, ps = k0 :: pr := by
          cases ps with
          | nil => exact absurd rfl hne
          | cons a b => exact ⟨a, b, rfl⟩
        have hk0 := hbd k0 List.mem_cons_self
        obtain ⟨u0, hu0⟩ := IntsAre.item hius (i := 0) (n := k0) rfl
        refine wpAny_execs_cons (wpAny_Assign_Name (F₇.callt1 G (F₇.callt2 G (Subscript_ (F₇.ld rfl (wpAny_Constant_int (item_list hus (by decide) (by decide) (x := .int k0 u0) (by simpa using hu0) ?_))))))) 
        refine wpAny_BinOp ((F₇.tk _).callb1 G ((F₇.tk _).ldc rfl (len_T (by omega) (wpAny_Constant_int (add_int (call_range_2 ?_))))))
        refine list_range hh (IsRange.new ..) (by omega) (by omega) (by omega) (by omega) fun D₉ o₉ s₉ vs₉ k₉ ho₉ hn₉ lo₉ hi₉ => ?_
        have F₉ := (F₇.kp (kt (ktok _) (kpush _ _ _))).mk1 k₉ ho₉ hn₉
        refine F₉.st fun s' F' => wpAny_execs_nil (wpAny_execs_nil (wpAny_execs_nil ⟨_, _, _, ⟨D₉, o₉, vs₉, rfl, rfl, rfl, lo₉, ?_⟩, ?_⟩))
        · rw [hnx, step1, if_neg (by simp [hc])]
          exact hi₉
        · have F'' := F'.perm (List.Perm.swap ..)
          exact F''.weak (by simp) rfl rfl
      · rename_i hne
        have hne : ps = [] := by simpa using hne
        subst hne
        refine wpAny_execs_nil (wpAny_execs_nil (wpAny_execs_nil ⟨_, _, _, ⟨D, oD, vs, rfl, rfl, rfl, lo, ?_⟩, F₇.weak (by simp) rfl rfl⟩))
        rw [hnx, step1, if_neg (by simp [hc])]
        exact hvs
  · rintro l c N s₄ ⟨D, oD, vs, rfl, rfl, rfl, lo, hvs⟩ F₄
    rw [List.take_length] at hvs
    obtain ⟨hg, hn, _⟩ := F₄.new (D, oD) (by simp)
    exact wpAny_execs_cons (wpAny_Return_some (F₄.ld rfl (h D s₄ F₄.base hn ⟨vs, lo.isList hg, hvs⟩)))
end
end Mine

-- MHalved
namespace Mine

theorem Paired.at {α β : Type} {R : α → β → Prop} : ∀ {l₁ : List α} {l₂ : List β}, Paired R l₁ l₂ → ∀ {i : Nat} {b : β}, l₂[i]? = some b → ∃ a, l₁[i]? = some a ∧ R a b
  | _, _, .nil, i, b, e => by simp at e
  | _, _, .cons h _, 0, b, e => by simp at e; subst e; exact ⟨_, by simp, h⟩
  | _, _, .cons _ r, i + 1, b, e => by simp at e; obtain ⟨a, h1, h2⟩ := Paired.at r e; exact ⟨a, by simpa using h1, h2⟩
theorem Paired.len {α β : Type} {R : α → β → Prop} : ∀ {l₁ : List α} {l₂ : List β}, Paired R l₁ l₂ → l₁.length = l₂.length
  | _, _, .nil => rfl
  | _, _, .cons _ t => by simp [Paired.len t]
theorem Paired.mono {α β : Type} {R R' : α → β → Prop} (h : ∀ a b, R a b → R' a b) : ∀ {l₁ : List α} {l₂ : List β}, Paired R l₁ l₂ → Paired R' l₁ l₂
  | _, _, .nil => .nil
  | _, _, .cons x t => .cons (h _ _ x) (Paired.mono h t)

/-- a list of the given texts; of the given lists of ints -/
def SL (h : Heap) (a : Addr) (ps : List (List Nat)) : Prop := ∃ vs : List Value, h.IsList a vs.toArray ∧ Paired (fun v p => ∃ t, v = Value.str (T p) t) vs ps
def RL (h : Heap) (a : Addr) (rows : List (List Int)) : Prop := ∃ vs : List Value, h.IsList a vs.toArray ∧ Paired (fun v r => ∃ b, v = Value.ref b ∧ IL h b r) vs rows
theorem SL.to {s s' : Shared} {a : Addr} {ps : List (List Nat)} (x : SL s.heap a ps) (k : Keeps s s') : SL s'.heap a ps := let ⟨vs, h, i⟩ := x; ⟨vs, isList_keeps h (kget k), i⟩
theorem RL.to {s s' : Shared} {a : Addr} {rows : List (List Int)} (x : RL s.heap a rows) (k : Keeps s s') : RL s'.heap a rows :=
  let ⟨vs, h, i⟩ := x; ⟨vs, isList_keeps h (kget k), Paired.mono (fun _ _ ⟨b, e, y⟩ => ⟨b, e, y.to k⟩) i⟩

theorem LB.drop {ns : List Int} {x : Int} {r : Nat} (h : LB ns x r) : ns.drop r = ns.filter fun k => decide (x ≤ k) := by
  induction ns generalizing r with
  | nil => simp
  | cons n ns ih =>
    obtain ⟨h1, h2, h3⟩ := h
    cases r with
    | zero =>
      rw [List.drop_zero, eq_comm, List.filter_eq_self]
      intro k hk
      obtain ⟨i, hi⟩ := List.getElem?_of_mem hk
      exact decide_eq_true (h3 i k (Nat.zero_le _) hi)
    | succ r =>
      have := h2 0 n (by omega) rfl
      rw [List.drop_succ_cons, List.filter_cons_of_neg (by simp; omega)]
      exact ih ⟨by simpa using h1, fun i m hi e => h2 (i + 1) m (by omega) (by simpa using e), fun i m hi e => h3 (i + 1) m (by omega) (by simpa using e)⟩
theorem LB.at {ns : List Int} {x : Int} {r : Nat} (h : LB ns x r) : ns[r]? = ns.find? fun k => decide (x ≤ k) := by
  rw [← List.head?_filter, ← h.drop]; simp
theorem LB.ne_RB {ns : List Int} {x : Int} {r r' : Nat} (h : LB ns x r) (h' : RB ns x r') : r = r' ↔ x ∉ ns := by
  constructor
  · rintro rfl hx
    obtain ⟨i, hi⟩ := List.getElem?_of_mem hx
    rcases Nat.lt_or_ge i r with q | q
    · have := h.2.1 i x q hi; omega
    · have := h'.2.2 i x q hi; omega
  · intro hx
    rcases Nat.lt_trichotomy r r' with q | q | q
    · obtain ⟨n, hn⟩ := some_of_lt (ns := ns) (i := r) (by have := h'.1; omega)
      have h1 := h.2.2 r n (Nat.le_refl _) hn
      have h2 := h'.2.1 r n q hn
      have : n = x := by omega
      subst this
      exact absurd (List.mem_of_getElem? hn) hx
    · exact q
    · obtain ⟨n, hn⟩ := some_of_lt (ns := ns) (i := r') (by have := h.1; omega)
      have h1 := h.2.1 r' n q hn
      have h2 := h'.2.2 r' n (Nat.le_refl _) hn
      omega

def midP (ps : List (List Nat)) (rows : List (List Int)) (n : Nat) (start : Int) : Option Int :=
  (List.range n).foldl (fun pl j => pl.bind fun p => ((rows.getD (j + 1) []).find? fun k => decide (p ≤ k)).map fun k => k + ((ps.getD (j + 1) []).length : Int)) (some (start + ((ps.getD 0 []).length : Int)))
theorem midP_succ (ps : List (List Nat)) (rows : List (List Int)) (n : Nat) (start : Int) : midP ps rows (n + 1) start = (midP ps rows n start).bind fun p => ((rows.getD (n + 1) []).find? fun k => decide (p ≤ k)).map fun k => k + ((ps.getD (n + 1) []).length : Int) := by
  unfold midP; rw [List.range_succ, List.foldl_append]; rfl
theorem midP_none (ps : List (List Nat)) (rows : List (List Int)) (start : Int) {n m : Nat} (h : midP ps rows n start = none) (hnm : n ≤ m) : midP ps rows m start = none := by
  induction m with
  | zero => have : n = 0 := by omega
            rw [← this]; exact h
  | succ m ih =>
    rcases Nat.lt_or_ge m n with q | q
    · have : n = m + 1 := by omega
      rw [← this]; exact h
    · rw [midP_succ, ih q]; rfl
def halvedP (ps : List (List Nat)) (rows : List (List Int)) (start : Int) : List Int :=
  if start ∈ rows.getD 0 [] then
    match midP ps rows (ps.length - 2) start with
    | none => []
    | some p => ((rows.getD (ps.length - 1) []).filter fun k => decide (p ≤ k)).map fun k => k + ((ps.getD (ps.length - 1) []).length : Int)
  else []

section
variable {w : World} {A : Around} {E : Value → Shared → Prop} {s : Shared}
theorem item_neg {value slice : Expr} {l : Addr} {items : Array Value} {k : Int} {u : Tok} {x : Value} {Q : Value → Shared → Prop} (hl : s.heap.IsList l items) (h0 : k < 0) (h1 : -(items.size : Int) ≤ k) (h2 : -(2 ^ 63) ≤ k)
    (hx : items[(k + items.size).toNat]? = some x) (h : Q x s)
    (hs : subscripted slice false (.ref l) (.int k u) = operate [.ref l, .int k u] (getItem (.ref l) (.int k u)) := by with_unfolding_all rfl) :
    wpAny (model PG w) A (subscriptTail value slice (.ref l) (.int k u)) Q E s :=
  tail_any hl.typeIs slot_list_getitem.lookup (wpAny_getItem_list_neg hl h0 h1 h2 hx h) hs
theorem item_any {value slice : Expr} {l : Addr} {items : Array Value} {k : Int} {u : Tok} {x : Value} {Q : Value → Shared → Prop} (hl : s.heap.IsList l items) (h0 : 0 ≤ k) (h1 : k < 2 ^ 63)
    (hx : items[k.toNat]? = some x) (h : Q x s)
    (hs : subscripted slice false (.ref l) (.int k u) = operate [.ref l, .int k u] (getItem (.ref l) (.int k u)) := by with_unfolding_all rfl) :
    wpAny (model PG w) A (subscriptTail value slice (.ref l) (.int k u)) Q E s :=
  tail_any hl.typeIs slot_list_getitem.lookup (wpAny_getItem_list hl h0 h1 hx h) hs
theorem tail_from {value slice : Expr} {l : Addr} {vs : List Value} {a : Nat} {ua : Tok} {Q : Value → Shared → Prop} (hl : s.heap.IsList l vs.toArray) (hsz : vs.length ≤ 1000000)
    (h : ∀ D o s', Keeps s s' → s'.heap.get? D = some o → s.heap.get? D = none → LO o (vs.drop a) → Q (.ref D) s')
    (hs : subscripted slice false (.ref l) (.ref s.heap.objs.size) = operate [.ref s.heap.objs.size, .ref l] (getItem (.ref l) (.ref s.heap.objs.size)) := by with_unfolding_all rfl) :
    wpAny (model PG w) A (subscriptTail value slice (.ref l) (.ref s.heap.objs.size)) Q E { s with heap := s.heap.push { cls := .type "slice", data := .fields #[.int a ua, .none, .none] } } := by
  have hl' := hl.push (o := { cls := .type "slice", data := .fields #[.int a ua, .none, .none] })
  refine tail_any (T := "list") hl'.typeIs slot_list_getitem.lookup (wpAny_getItem_list_slice hl' (Heap.IsSliceOf.new ..) (.int _ _) .none .none (by simp) ?_ (by simp [sizeLine]; omega)) hs
  rw [slicePick_from']
  refine h _ _ _ (kt (kpush s _ s.toks) (kpush _ _ s.toks)) (Heap.get?_push_size _ rfl) ?_ ⟨rfl, _, rfl⟩
  exact knone (kpush s _ s.toks) (get_size _)

theorem IntsAre.dropK : ∀ {vs : List Value} {ns : List Int}, IntsAre vs ns → ∀ r, IntsAre (vs.drop r) (ns.drop r)
  | _, _, h, 0 => by simpa using h
  | _, _, .nil, r + 1 => by simpa using IntsAre.nil
  | _, _, .cons n t q, r + 1 => by simpa using IntsAre.dropK q r
theorem getD_of {α : Type} {l : List α} {i : Nat} {d x : α} (h : l[i]? = some x) : l.getD i d = x := by rw [List.getD_eq_getElem?_getD, h]; rfl
theorem item_of {α : Type} {l : List α} {i : Nat} (h : i < l.length) : ∃ x, l[i]? = some x := ⟨l[i], by simp [h]⟩

theorem halved_spec {Q : Value → Shared → Prop} {ps : List (List Nat)} {rows : List (List Int)} {ap ar : Addr} {start : Int} {ts : Tok} (G : Gr w s.heap) (hr : A.depth + 1 < recursionLimit) (hh : A.handled = none)
    (hps : SL s.heap ap ps) (hrows : RL s.heap ar rows) (hlen : rows.length = ps.length) (h2 : 2 ≤ ps.length) (hbd : ps.length ≤ 1000) (hasc : ∀ row ∈ rows, Asc row ∧ row.length ≤ 10000) (hpl : ∀ p ∈ ps, p.length ≤ 1000)
    (h : ∀ D s', Keeps s s' → s.heap.get? D = none → IL s'.heap D (halvedP ps rows start) → Q (.ref D) s') : wpAny (model PG w) A (call (.ref 68) [.ref ap, .ref ar, .int start ts]) Q E s := by
  refine enter 68 [("pieces", .ref ap), ("rows", .ref ar), ("start", .int start ts)] [("rows", .ref ar), ("start", .int start ts)] [("pieces", .ref ap)] G (by omega) ?_
  intro L s₁ E' hL F
  obtain ⟨vp, hvp, hvps⟩ := hps
  obtain ⟨vr, hvr, hvrs⟩ := hrows
  have lp : vp.length = ps.length := Paired.len hvps
  have lr : vr.length = rows.length := Paired.len hvrs
  -- a row, a piece, at any later time
  have row : ∀ {i : Nat}, i < rows.length → ∃ r b, rows[i]? = some r ∧ vr[i]? = some (.ref b) ∧ IL s.heap b r ∧ Asc r ∧ r.length ≤ 10000 := fun {i} hi => by
    obtain ⟨r, hr⟩ := item_of hi
    obtain ⟨v, hv, b, rfl, hb⟩ := Paired.at hvrs hr
    exact ⟨r, b, hr, hv, hb, hasc r (List.mem_of_getElem? hr)⟩
  have piece : ∀ {i : Nat}, i < ps.length → ∃ p t, ps[i]? = some p ∧ vp[i]? = some (.str (T p) t) ∧ p.length ≤ 1000 := fun {i} hi => by
    obtain ⟨p, hp⟩ := item_of hi
    obtain ⟨v, hv, t, rfl⟩ := Paired.at hvps hp
    exact ⟨p, t, hp, hv, hpl p (List.mem_of_getElem? hp)⟩
  have hd : (A.deeper (envK w L 68)).depth < recursionLimit := by show A.depth + 1 < recursionLimit; exact hr
  obtain ⟨r0, b0, e0, v0, il0, as0, ln0⟩ := row (i := 0) (by omega)
  obtain ⟨p0, t0, f0, u0, pl0⟩ := piece (i := 0) (by omega)
  have isr : ∀ {s₆ : Shared}, Keeps s s₆ → s₆.heap.IsList ar vr.toArray := fun k => isList_keeps hvr (kget k)
  have isp : ∀ {s₆ : Shared}, Keeps s s₆ → s₆.heap.IsList ap vp.toArray := fun k => isList_keeps hvp (kget k)
  refine wpAny_execs_cons (wpAny_If (wpAny_isTrue_Compare1 (F.callf2 (a := 51) G (Subscript_ (F.ld rfl (wpAny_Constant_int (item_list (isr (F.tk _).base) (by decide) (by decide) (x := .ref b0) (by simpa using v0) ((F.tk _).ld rfl ⟨(F.tk _).gr G, ?_⟩))))))))
  refine bisect_left_spec ((F.tk _).gr G) hd (il0.to (F.tk _).base) as0 (by omega) fun r t₂ s₂ hL2 k₂ => ?_
  have F₂ := (F.tk _).kp k₂
  refine F₂.callf2 (a := 42) G (Subscript_ (F₂.ld rfl (wpAny_Constant_int (item_list (isr (F₂.tk _).base) (by decide) (by decide) (x := .ref b0) (by simpa using v0) ((F₂.tk _).ld rfl ⟨(F₂.tk _).gr G, ?_⟩))))) 
  refine bisect_right_spec ((F₂.tk _).gr G) hd (il0.to (F₂.tk _).base) as0 (by omega) fun r' t₃ s₃ hR3 k₃ => eq_int (wpAny_truthy_bool ?_)
  have F₃ : Fn s (envK w L 68) [("rows", .ref ar), ("start", .int start ts)] [("pieces", .ref ap)] [] s₃ := (F₂.tk _).kp k₃
  clear F F₂ k₂ k₃
  have h0 : rows.getD 0 [] = r0 := getD_of e0
  -- the empty answer
  have nil : ∀ {l c N s₄} {E₄}, Fn s (envK w L 68) l c N s₄ → halvedP ps rows start = [] → ∀ {pos : Pos}, wpAny (model PG w) (A.deeper (envK w L 68)) (eval (.List [] pos) (envK w L 68)) Q E₄ s₄ := fun F₄ e pos =>
    List_ (Calls.spliced_nil (new_list (by simp) fun D o s₅ k₅ ho hn lo => h D s₅ (kt F₄.base k₅) (knone F₄.base hn) ⟨[], lo.isList ho, by rw [e]; exact .nil⟩))
  split
  · rename_i hc
    have hc : (r : Int) = r' := by simpa using hc
    have hc : r = r' := by omega
    have hx := (LB.ne_RB hL2 hR3).mp hc
    refine wpAny_execs_cons (wpAny_Return_some (nil F₃ ?_))
    rw [halvedP, h0, if_neg hx]
  · rename_i hc
    have hc : ¬ (r : Int) = r' := by simpa using hc
    have hc : ¬ r = r' := by omega
    have hx : start ∈ r0 := Decidable.byContradiction fun q => hc ((LB.ne_RB hL2 hR3).mpr q)
    refine wpAny_execs_nil (wpAny_execs_cons (wpAny_Assign_Name (wpAny_BinOp (F₃.ld rfl (F₃.callb1 G (Subscript_ (F₃.ldc rfl (wpAny_Constant_int (item_list (isp (F₃.tk _).base) (by decide) (by decide) (x := .str (T p0) t0) (by simpa using u0) (len_T (by omega) (add_int ((F₃.tk _).st fun s₄ F₄ => ?_))))))))))))
    obtain ⟨tp, F₄⟩ : ∃ tp, Fn s (envK w L 68) [("rows", .ref ar), ("place", .int (start + p0.length) tp)] [("pieces", .ref ap)] [] s₄ := ⟨_, F₄.weakl rfl⟩
    have hm0 : midP ps rows 0 start = some (start + p0.length) := by unfold midP; rw [getD_of f0]; rfl
    generalize start + (p0.length : Int) = pl at F₄ hm0
    refine wpAny_execs_cons (F₄.forRange (a := 1) (b := (ps.length : Int) - 1) hh (by decide) (by decide) (by omega) (by omega) (fun E₅ Q₅ hq => ?_)
      (fun i l c N => ∃ p tp, l = ([("rows", .ref ar), ("place", .int p tp)] : LV) ∧ c = ([("pieces", .ref ap)] : LV) ∧ N = [] ∧ midP ps rows i start = some p) ⟨pl, tp, rfl, rfl, rfl, hm0⟩ ?_ ?_)
    · refine F₄.callt2 G (wpAny_Constant_int (wpAny_BinOp ((F₄.tk _).callb1 G ((F₄.tk _).ldc rfl (len_list (isp (F₄.tk _).base) (by simp; omega) (wpAny_Constant_int (sub_int (call_range_2 ?_))))))))
      rw [show (vp.toArray.size : Int) = ps.length by simp [lp]]
      exact hq _ _ _ _ _ (IsRange.new ..) (kt (ktok _) (kpush _ _ _))
    · rintro I oI i ti l c N s₅ E₅ hi ⟨p, tp, rfl, rfl, rfl, hm⟩ F₅
      have hi' : i + 1 < ps.length := by omega
      obtain ⟨rk, bk, ek, vk, ilk, ask, lnk⟩ := row (i := i + 1) (by omega)
      obtain ⟨pk, tpk, fk, uk, plk⟩ := piece (i := i + 1) hi'
      have hix : ((1 : Int) + i).toNat = i + 1 := by omega
      have hms := midP_succ ps rows i start
      rw [hm, getD_of ek, getD_of fk, Option.bind_some] at hms
      refine wpAny_assign_Name (F₅.st fun s₆ F₆ => ?_)
      refine wpAny_execs_cons (wpAny_Assign_Name (F₆.callf2 (a := 51) G (Subscript_ (F₆.ld rfl (F₆.ld rfl (item_list (isr F₆.base) (by omega) (by omega) (x := .ref bk) (by rw [hix]; simpa using vk) (F₆.ld rfl ⟨F₆.gr G, ?_⟩)))))))
      refine bisect_left_spec (F₆.gr G) hd (ilk.to F₆.base) ask (by omega) fun r t₇ s₇ hL7 k₇ => (F₆.kp k₇).st fun s₈ F₈ => ?_
      obtain ⟨vs, hvs, his⟩ := ilk
      have hlen' : vs.length = rk.length := his.length
      rw [← hL7.at] at hms
      refine wpAny_execs_cons (wpAny_If (wpAny_isTrue_Compare1 (F₈.ld rfl (F₈.callb1 G (Subscript_ (F₈.ld rfl (F₈.ld rfl (item_list (isr F₈.base) (by omega) (by omega) (x := .ref bk) (by rw [hix]; simpa using vk) (len_list (isList_keeps hvs (kget F₈.base)) (by simp; omega) (eq_int (wpAny_truthy_bool ?_)))))))))))
      rw [show (vs.toArray.size : Int) = rk.length by simp [hlen']]
      split
      · rename_i hc
        have hc : (r : Int) = rk.length := by simpa using hc
        have hc : r = rk.length := by omega
        rw [List.getElem?_eq_none (by omega)] at hms
        refine wpAny_execs_cons (wpAny_Return_some (nil (F₈.tk _) ?_))
        rw [halvedP, h0, if_pos hx, midP_none ps rows start hms (by omega)]
      · rename_i hc
        have hc : ¬ (r : Int) = rk.length := by simpa using hc
        have hrl : r < rk.length := by have := hL7.1; omega
        obtain ⟨n, hn⟩ := some_of_lt hrl
        obtain ⟨un, hun⟩ := IntsAre.item his hn
        rw [hn, Option.map_some] at hms
        have F₉ := F₈.tk (s₈.toks + 1 + 1)
        refine wpAny_execs_nil (wpAny_execs_cons (wpAny_Assign_Name (wpAny_BinOp (Subscript_ (Subscript_ (F₉.ld rfl (F₉.ld rfl (item_list (isr F₉.base) (by omega) (by omega) (x := .ref bk) (by rw [hix]; simpa using vk) (F₉.ld rfl (item_any (isList_keeps hvs (kget F₉.base)) (by omega) (by omega) (x := .int n un) (by simpa using hun) ?_))))))))))
        refine F₉.callb1 G (Subscript_ (F₉.ldc rfl (F₉.ld rfl (item_list (isp F₉.base) (by omega) (by omega) (x := .str (T pk) tpk) (by rw [hix]; simpa using uk) (len_T (by omega) (add_int ((F₉.tk _).st fun s' F' => ?_)))))))
        exact wpAny_execs_nil ⟨_, _, [], ⟨n + pk.length, _, rfl, rfl, rfl, hms⟩, F'.weakl rfl⟩
    · rintro l c N s₅ ⟨p, tp, rfl, rfl, rfl, hm⟩ F₅
      have hn2 : ((ps.length : Int) - 1 - 1).toNat = ps.length - 2 := by omega
      rw [hn2] at hm
      obtain ⟨rk, bk, ek, vk, ilk, ask, lnk⟩ := row (i := ps.length - 1) (by omega)
      obtain ⟨pk, tpk, fk, uk, plk⟩ := piece (i := ps.length - 1) (by omega)
      have hres : halvedP ps rows start = (rk.filter fun k => decide (p ≤ k)).map fun k => k + (pk.length : Int) := by
        rw [halvedP, h0, if_pos hx, hm, getD_of ek, getD_of fk]
      have ixr : ((-1 : Int) + (vr.toArray.size : Nat)).toNat = ps.length - 1 := by simp [lr]; omega
      have ixp : ((-1 : Int) + (vp.toArray.size : Nat)).toNat = ps.length - 1 := by simp [lp]; omega
      refine wpAny_execs_cons (wpAny_Return_some (F₅.compI [("pieces", .ref ap)] (fun _ => true) (fun j y => ∃ u, y = .int (j + (pk.length : Int)) u) ?_))
      refine Subscript_ (Subscript_ (F₅.ld rfl (UnaryOp_ (wpAny_Constant_int (neg_int (item_neg (isr (F₅.tk _).base) (by decide) (by simp; omega) (by decide) (x := .ref bk) (by rw [ixr]; simpa using vk) ?_))))))
      have F₆ := F₅.tk (s₅.toks + 1 + 1)
      refine wpAny_Slice (F₆.callf2 (a := 51) G (Subscript_ (F₆.ld rfl (UnaryOp_ (wpAny_Constant_int (neg_int (item_neg (isr (F₆.tk _).base) (by decide) (by simp; omega) (by decide) (x := .ref bk) (by rw [ixr]; simpa using vk) ((F₆.tk _).ld rfl ⟨(F₆.tk _).gr G, ?_⟩)))))))) 
      refine bisect_left_spec ((F₆.tk _).gr G) hd (ilk.to (F₆.tk _).base) ask (by omega) fun r t₇ s₇ hL7 k₇ => wpAny_pure (wpAny_pure ?_)
      have F₇ := (F₆.tk _).kp k₇
      obtain ⟨vs, hvs, his⟩ := ilk
      have hlen' : vs.length = rk.length := his.length
      refine tail_from (isList_keeps hvs (kget F₇.base)) (by omega) fun D o s₈ k₈ ho hn lo => ?_
      have kk : Keeps s₅ s₈ := kt (ktok _) (kt (ktok _) (kt k₇ k₈))
      refine ISrc.list hh (ns := rk.filter fun k => decide (p ≤ k)) ⟨vs.drop r, lo.isList ho, ?_⟩ kk fun it s₉ hS => ⟨_, hS, ?_, ?_, ?_, ?_⟩
      · rw [← hL7.drop]
        exact IntsAre.dropK his r
      · exact Nat.le_trans (List.length_filter_le _ _) (by omega)
      · intro C j u s₃ E₃ hj R kk
        exact wpAny_tests_nil ⟨rfl, krfl⟩
      · intro C j u s₃ E₃ hj hp R kk
        have kp3 : s₃.heap.IsList ap vp.toArray := isList_keeps hvp fun b o e => kk b o (kget F₅.base b o e)
        have G₃ : Gr w s₃.heap := (F₅.gr G).keeps kk
        exact wpAny_BinOp (R.ld rfl (R.callb1 G₃ (Subscript_ (R.ldc rfl (UnaryOp_ (wpAny_Constant_int (neg_int (item_neg kp3 (by decide) (by simp; omega) (by decide) (x := .str (T pk) tpk) (by rw [ixp]; simpa using uk) (len_T (by omega) (add_int ⟨⟨_, rfl⟩, ktok _⟩)))))))))) 
      · intro D' s' ys kk' hD hl hF
        refine h D' s' (kt F₅.base kk') (knone F₅.base hD) ⟨ys.toList, by simpa using hl.isList, ?_⟩
        rw [hres]
        have := paired_ints' (f := fun k => k + (pk.length : Int)) hF
        simpa using this
end
end Mine

-- MList
namespace Mine

/-- a plain list -/
def LP (o : Obj) (vs : List Value) : Prop := ∃ n, o = { cls := .type "list", dict := none, data := .seq vs.toArray n, slots := #[] }
theorem LP.lo {o : Obj} {vs : List Value} (x : LP o vs) : LO o vs := by obtain ⟨n, rfl⟩ := x; exact ⟨rfl, n, rfl⟩

section
variable {w : World} {A : Around} {E : Value → Shared → Prop} {s : Shared}
theorem new_listP {vs : List Value} {Q : Value → Shared → Prop} (hsz : vs.length ≤ 1000000) (h : ∀ D o s', Keeps s s' → s'.heap.get? D = some o → s.heap.get? D = none → LP o vs → Q (.ref D) s') : wpAny (model PG w) A (newList vs) Q E s :=
  wpAny_newObj_type (h _ _ _ (kpush s _ s.toks) (Heap.get?_push_size _ rfl) (get_size _) ⟨_, rfl⟩) (by show vs.toArray.size ≤ sizeLine; rw [List.size_toArray, sizeLine]; omega)

theorem set_at {l : Addr} {o : Obj} {vs : List Value} {k : Int} {t : Tok} {v : Value} {Q : Unit → Shared → Prop} (ho : s.heap.get? l = some o) (lo : LO o vs) (h0 : 0 ≤ k) (hfit : k < 2 ^ 63) (hk : k < vs.length)
    (hQ : ∀ o' h', h'.get? l = some o' → LO o' (vs.set k.toNat v) → Heap.SameBut l s.heap h' → Q () { s with heap := h' }) :
    wpAny (model PG w) A (setItem (.ref l) (.int k t) v) Q E s :=
  wpAny_setItem_list (lo.isList ho) h0 hfit (by simpa using hk) fun h' hl hs => let ⟨o', ho', hc, n, hd⟩ := hl; hQ o' h' ho' ⟨hc, n, by simpa using hd⟩ hs

theorem set_neg {l : Addr} {o : Obj} {vs : List Value} {k : Int} {t : Tok} {v : Value} {Q : Unit → Shared → Prop} (ho : s.heap.get? l = some o) (lo : LO o vs) (h0 : k < 0) (h1 : -(vs.length : Int) ≤ k) (hfit : -(2 ^ 63) ≤ k)
    (hQ : ∀ o' h', h'.get? l = some o' → LO o' (vs.set (k + vs.length).toNat v) → (∀ ws, LP o ws → LP o' (vs.set (k + vs.length).toNat v)) → Heap.SameBut l s.heap h' → Q () { s with heap := h' }) :
    wpAny (model PG w) A (setItem (.ref l) (.int k t) v) Q E s := by
  have hl := lo.isList ho
  obtain ⟨hcls, ne, hdat⟩ := lo
  have hidx : seqIndex? k vs.toArray.size = some (k + vs.length).toNat := by
    rw [seqIndex_neg h0 (by simpa using h1)]; simp
  have hlt : (k + vs.length).toNat < vs.length := by omega
  have hx' : vs.toArray[(k + vs.length).toNat]? = some vs[(k + vs.length).toNat] := by simp [hlt]
  obtain ⟨n', hd'⟩ := Obj.data_mapSeq hdat (·.setIfInBounds (k + vs.length).toNat v)
  have fin := hQ _ (s.heap.update l (Obj.mapSeq (·.setIfInBounds (k + vs.length).toNat v))) (Heap.get?_update_self _ ho (Obj.isFreed_of_seq hd')) ⟨(Obj.cls_mapSeq ..).trans hcls, n', by rw [hd']; simp⟩
    (fun ws hp => by
      obtain ⟨m, rfl⟩ := hp
      have e : ws.toArray = vs.toArray := by injection hdat
      exact ⟨_, by show Obj.mapSeq _ _ = _; rw [e]; simp [Obj.mapSeq]; rfl⟩) (Heap.SameBut.update ..)
  clear hQ
  generalize hJ : (k + vs.length).toNat = J at *
  unfold setItem
  try with_reducible refine wpAny_holding ?_
  first | refine wpAny_bind (wpAny_pure ?_) | skip
  refine wpAny_bind (wpAny_sequenceKey hl.typeIs (by decide) ?_)
  refine wpAny_bind (wpAny_callSpecial?_slot (name := Str.ofString "__setitem__") hl.typeIs slot_list_setitem
    (wpAny_call_entry slot_list_setitem hl.typeIs entry_list_setitem ?_ (args_list_setitem _ _ _)))
  show wpAny _ _ (Builtin.List.listSubscript? (.int k t) >>= _) _ _ s
  refine wpAny_bind (wpAny_listSubscript_int (fitsIndex_neg h0 hfit) ?_)
  clear hfit
  obtain ⟨j, rfl⟩ : ∃ j : Nat, k = Int.negSucc j := by
    cases k with
    | ofNat n => exact absurd h0 (Int.not_lt.mpr (Int.natCast_nonneg n))
    | negSucc n => exact ⟨n, rfl⟩
  show wpAny _ _ ((Builtin.List.listItems (.ref l) >>= fun xs => pure ((seqIndex? (Int.negSucc j) xs.size).bind fun i => xs[i]?.map (i, ·))) >>= _) _ _ s
  refine wpAny_bind (wpAny_bind ?_)
  show wpAny _ _ (seqItems? (.ref l) >>= _) _ _ s
  refine wpAny_bind (wpAny_seqItems ho hdat (wpAny_pure (wpAny_pure ?_)))
  rw [hidx]
  simp only [Option.bind_some, hx', Option.map_some]
  show wpAny _ _ (setSeqItemAt l J v >>= _) _ _ s
  refine wpAny_bind (wpAny_setSeqItemAt ho hdat ?_)
  first
    | exact wpAny_bind (wpAny_pure (wpAny_pure ⟨.none, rfl, wpAny_pure fin⟩))
    | exact wpAny_pure ⟨.none, rfl, wpAny_pure fin⟩

theorem append_P {l : Addr} {o : Obj} {vs : List Value} {v : Value} {Q : Value → Shared → Prop} (ho : s.heap.get? l = some o) (lp : LP o vs) (hsz : vs.length ≤ 1000000)
    (hQ : ∀ o' h', h'.get? l = some o' → LP o' (vs ++ [v]) → Heap.SameBut l s.heap h' → Q .none { s with heap := h' }) : wpAny (model PG w) A (call (.builtin "list.append") [.ref l, v]) Q E s := by
  obtain ⟨n, rfl⟩ := lp
  refine wpAny_list_append_plain ⟨n, ho⟩ (fun h' hl hs => ?_) (by simp [sizeLine]; omega)
  obtain ⟨m, hm⟩ := hl
  exact hQ _ h' hm ⟨m, by simp⟩ hs
end
end Mine

-- MPieces
namespace Mine

def setLast (pcs : List (List Nat)) (p : List Nat) : List (List Nat) := pcs.set (pcs.length - 1) p
def lastOf (pcs : List (List Nat)) : List Nat := pcs.getD (pcs.length - 1) []
/-- one turn of the reading -/
def parse1 (rest : List Nat) (part : Nat) (pcs : List (List Nat)) : Option (Nat × Nat × List (List Nat)) :=
  if part ≠ 2 ∧ (rest.take 1 = [97] ∨ rest.take 1 = [98]) then some (1, part, setLast pcs (lastOf pcs ++ rest.take 1))
  else if part ≠ 2 ∧ (rest.take 2 = [92, 46] ∨ rest.take 2 = [92, 63]) then some (2, part, setLast pcs (lastOf pcs ++ (rest.drop 1).take 1))
  else if part = 1 ∧ rest.take 1 = [41] then some (1, 2, pcs)
  else if (part = 0 ∨ part = 2) ∧ rest.take 6 = [40, 63, 62, 46, 42, 63] then some (6, 1, pcs ++ [[]])
  else if (part = 0 ∨ part = 2) ∧ rest.take 2 = [46, 42] then some (2, 3, pcs ++ [[]])
  else none
/-- the reading comes through -/
inductive Parses : List Nat → Nat → List (List Nat) → List (List Nat) → Prop
  | done {pcs} : Parses [] 3 pcs pcs
  | step {rest part pcs n part' pcs' r} : rest ≠ [] → n ≤ rest.length → parse1 rest part pcs = some (n, part', pcs') → Parses (rest.drop n) part' pcs' r → Parses rest part pcs r

def strV (v : Value) (p : List Nat) : Prop := ∃ t, v = Value.str (T p) t
theorem Paired.set {α β : Type} {R : α → β → Prop} {a : α} {b : β} (h : R a b) : ∀ {l₁ : List α} {l₂ : List β} (i : Nat), Paired R l₁ l₂ → Paired R (l₁.set i a) (l₂.set i b)
  | _, _, _, .nil => .nil
  | _, _, 0, .cons _ r => .cons h r
  | _, _, i + 1, .cons x r => .cons x (Paired.set h i r)
theorem Paired.app {α β : Type} {R : α → β → Prop} : ∀ {l₁ m₁ : List α} {l₂ m₂ : List β}, Paired R l₁ l₂ → Paired R m₁ m₂ → Paired R (l₁ ++ m₁) (l₂ ++ m₂)
  | _, _, _, _, .nil, h => h
  | _, _, _, _, .cons x r, h => .cons x (Paired.app r h)
theorem lastOf_setLast {pcs : List (List Nat)} {p : List Nat} (h : 0 < pcs.length) : lastOf (setLast pcs p) = p := by
  unfold lastOf setLast
  rw [List.length_set, List.getD_eq_getElem?_getD, List.getElem?_set_self (by omega)]; rfl
theorem lastOf_app (pcs : List (List Nat)) (p : List Nat) : lastOf (pcs ++ [p]) = p := by
  unfold lastOf
  rw [List.getD_eq_getElem?_getD]; simp
theorem take_two (pat : List Nat) (i : Nat) : ((pat.drop i).drop 1).take 1 = (pat.drop (i + 1)).take (i + 2 - (i + 1)) := by
  rw [List.drop_drop]; congr 1; omega

theorem T_inj (a b : List Nat) : (T a = T b) ↔ a = b := by simp [T]
theorem beq_dec {α : Type} [DecidableEq α] (a b : α) : (a == b) = decide (b = a) := by
  by_cases h : b = a
  · subst h; simp
  · rw [decide_eq_false h, beq_eq_false_iff_ne]; exact fun q => h q.symm

section
variable {w : World} {A : Around} {E : Value → Shared → Prop} {s : Shared}
theorem in_two {D : Addr} {o : Obj} {a b : Str} {a' b' x : List Nat} {t u v : Tok} {Q : Value → Shared → Prop} (ho : s.heap.get? D = some o) (lo : LO o [.str a t, .str b u]) (ha : a = T a') (hb : b = T b') (h : Q (.bool (decide (x = a' ∨ x = b'))) s) :
    wpAny (model PG w) A (compareOp .In (.str (T x) v) (.ref D)) Q E s := by
  refine in_list_strs (lo.isList ho) (ys := [a, b]) (.cons _ _ (.cons _ _ .nil)) ?_
  have e : ([a, b].any (· == T x)) = decide (x = a' ∨ x = b') := by
    subst ha hb
    simp only [List.any_cons, List.any_nil, Bool.or_false, beq_dec, Bool.decide_or, T_inj]
  rw [e]; exact h
theorem in_ints2 {D : Addr} {o : Obj} {a b k : Int} {t u v : Tok} {Q : Value → Shared → Prop} (ho : s.heap.get? D = some o) (lo : LO o [.int a t, .int b u]) (h : Q (.bool (decide (k = a ∨ k = b))) s) :
    wpAny (model PG w) A (compareOp .In (.int k v) (.ref D)) Q E s := by
  refine in_list_ints (lo.isList ho) (ns := [a, b]) (.cons _ _ (.cons _ _ .nil)) ?_
  have e : ([a, b].any (· == k)) = decide (k = a ∨ k = b) := by
    simp only [List.any_cons, List.any_nil, Bool.or_false, beq_dec, Bool.decide_or]
  rw [e]; exact h
theorem add_T {a b : List Nat} {t u : Tok} {Q : Value → Shared → Prop} (hsz : a.length + b.length ≤ 1000000) (h : ∀ t' tk, Q (.str (T (a ++ b)) t') { s with toks := tk }) : wpAny (model PG w) A (binaryOp .Add (.str (T a) t) (.str (T b) u)) Q E s :=
  PyProof.Rows.add_str (fun t' tk => by rw [T_app]; exact h t' tk) (by rw [T_len, T_len, sizeLine]; omega)

theorem gen_post {α : Type} {M : Model} {t : Sem α} {P : α → Shared → Prop} (h : ∀ (Q' : α → Shared → Prop) (E' : Value → Shared → Prop), (∀ f s, P f s → Q' f s) → wpAny M A t Q' E' s) : wpAny M A t P E s := h P E fun _ _ x => x
theorem List1 {M : Model} {env : Env} {e : Expr} {pos : Pos} {Q : Value → Shared → Prop} (h : wpAny M A (eval e env) (fun v s₁ => wpAny M A (newList [v]) Q E s₁) E s) (hs : starEach [e] env = [(false, eval e env)] := by rfl) :
    wpAny M A (eval (.List [e] pos) env) Q E s := by
  refine List_ ?_
  rw [hs]
  exact Calls.spliced_cons (wpAny_mono h (fun v s₁ h₁ => Calls.spliced_nil h₁) fun _ _ e => e)
theorem List2 {M : Model} {env : Env} {e e' : Expr} {pos : Pos} {Q : Value → Shared → Prop} (h : wpAny M A (eval e env) (fun v s₁ => wpAny M A (eval e' env) (fun v' s₂ => wpAny M A (newList [v, v']) Q E s₂) E s₁) E s) (hs : starEach [e, e'] env = [(false, eval e env), (false, eval e' env)] := by rfl) :
    wpAny M A (eval (.List [e, e'] pos) env) Q E s := by
  refine List_ ?_
  rw [hs]
  exact Calls.spliced_cons (wpAny_mono h (fun v s₁ h₁ => Calls.spliced_cons (wpAny_mono h₁ (fun v' s₂ h₂ => Calls.spliced_nil h₂) fun _ _ e => e)) fun _ _ e => e)

theorem Fn.slice_ik {s₀ : Shared} {env : Env} {l c : LV} {N : List (Addr × Obj)} {xn n : Str} {x : List Nat} {i k kk : Nat} {tx ti : Tok} {p1 p2 p3 p4 p5 p6 p7 : Pos} {Q : Value → Shared → Prop} (F : Fn s₀ env l c N s)
    (hx : l.lookup xn = some (.str (T x) tx)) (hi : l.lookup n = some (.int i ti)) (hsz : x.length ≤ 1000000) (h : ∀ t' s', Keeps s s' → Q (.str (T ((x.drop i).take k)) t') s')
    (hlx : env.kindOf xn = some .local := by kernel_rfl) (hln : env.kindOf n = some .local := by kernel_rfl) (hk : env.scope.kind = .function := by kernel_rfl) (hd1 : (xn == ("__debug__" : Str)) = false := by rfl) (hd2 : (n == ("__debug__" : Str)) = false := by rfl) :
    wpAny (model PG w) A (eval (.Subscript (.Name xn p1) (.Slice (some (.Name n p2)) (some (.BinOp (.Name n p3) .Add (.Constant (.int k) kk p4) p5)) none p6) p7) env) Q E s := by
  refine Subscript_ (F.ld hx (wpAny_Slice (F.ld hi (wpAny_BinOp (F.ld hi (wpAny_Constant_int (add_int (wpAny_pure ?_))) hln hk hd2)) hln hk hd2)) hlx hk hd1)
  refine tail_ss (i := i) (j := i + k) (fun t' s' k' => ?_) (by omega) hsz
  rw [Nat.add_sub_cancel_left]
  exact h t' s' (kt (ktok _) k')

set_option maxHeartbeats 4000000 in
theorem pieces_spec {Q : Value → Shared → Prop} {pat : List Nat} {tp : Tok} {r : List (List Nat)} (G : Gr w s.heap) (hr : A.depth < recursionLimit) (hh : A.handled = none) (hu : A.units + 200 < cLine) (hp : pat.length ≤ 1000) (hpar : Parses pat 0 [[]] r)
    (h : ∀ D s', Keeps s s' → s.heap.get? D = none → SL s'.heap D r → Q (.ref D) s') : wpAny (model PG w) A (call (.ref 58) [.str (T pat) tp]) Q E s := by
  refine enter 58 [("pattern", .str (T pat) tp)] [("pattern", .str (T pat) tp)] [] G hr ?_
  intro L s₁ E' hL F
  refine wpAny_execs_cons (wpAny_Assign_Name (List1 (Calls.Constant_str (new_listP (by simp) fun D o s₂ k₂ ho hn lp => ?_))))
  refine ((F.tk _).mk1 k₂ ho hn).st fun s₃ F₃ => ?_
  refine wpAny_execs_cons (wpAny_Assign_Name (wpAny_Constant_int ((F₃.tk _).st fun s₄ F₄ => ?_)))
  refine wpAny_execs_cons (wpAny_Assign_Name (wpAny_Constant_int ((F₄.tk _).st fun s₅ F₅ => ?_)))
  refine wpAny_execs_cons (wpAny_While (codeAny_whileLoop (fun n s' => ∃ (i part : Nat) (pcs : List (List Nat)) (o : Obj) (vs : List Value) (t1 t2 : Tok), Fn s (envK w L 58) [("pattern", .str (T pat) tp), ("pieces", .ref D), ("part", .int part t1), ("i", .int i t2)] [] [(D, o)] s' ∧
      LP o vs ∧ Paired strV vs pcs ∧ Parses (pat.drop i) part pcs r ∧ 0 < pcs.length ∧ pcs.length ≤ i + 1 ∧ (lastOf pcs).length ≤ i ∧ i ≤ pat.length ∧ n = pat.length - i) ?_ _ ⟨0, 0, [[]], o, _, _, _, F₅.weakl rfl, lp, .cons ⟨_, by rfl⟩ .nil, by simpa using hpar, by simp, by simp, by simp [lastOf], Nat.zero_le _, rfl⟩))
  rintro n s₆ ⟨i, part, pcs, o, vs, t1, t2, F, lp, hpv, hpar, hpos, hpl, hll, hi, rfl⟩
  refine wpAny_isTrue_Compare1 (F.ld rfl (F.callb1 G (F.ld rfl (len_T (by omega) (lt_int (wpAny_truthy_bool ?_))))))
  have hlv : vs.length = pcs.length := Paired.len hpv
  split
  · rename_i hlt
    have hlt : i < pat.length := by simpa using hlt
    generalize hR : pat.drop i = R at hpar
    have hRl : R.length = pat.length - i := by rw [← hR]; simp
    cases hpar with
    | done => simp at hRl; omega
    | step hne hnl hp1 hrest =>
      rename_i n part' pcs'
      obtain ⟨vl, hvl, tl, rfl⟩ := Paired.at hpv (i := pcs.length - 1) (b := lastOf pcs) (by unfold lastOf; rw [List.getD_eq_getElem?_getD, List.getElem?_eq_getElem (by omega)]; rfl)
      have F₀ := F.tk (s₆.toks + 1 + 1)
      generalize ({ s₆ with toks := s₆.toks + 1 + 1 } : Shared) = s₇ at F₀
      clear F
      have ix : ((-1 : Int) + (vs.toArray.size : Nat)).toNat = pcs.length - 1 := by simp [hlv]; omega
      have ix' : ((-1 : Int) + (vs.length : Nat)).toNat = pcs.length - 1 := by omega
      refine gen_post fun Qp Ep hQp => ?_
      -- the turn's end
      have fin : ∀ (s₉ : Shared) (i' part'' : Nat) (pcs'' : List (List Nat)) (o₉ : Obj) (vs₉ : List Value) (t1 t2 : Tok), Fn s (envK w L 58) [("pattern", .str (T pat) tp), ("pieces", .ref D), ("part", .int part'' t1), ("i", .int i' t2)] [] [(D, o₉)] s₉ → LP o₉ vs₉ → Paired strV vs₉ pcs'' →
          i' = i + n → part'' = part' → pcs'' = pcs' → 0 < n → 0 < pcs''.length → pcs''.length ≤ i' + 1 → (lastOf pcs'').length ≤ i' → Qp .next s₉ := by
        rintro s₉ i' part'' pcs'' o₉ vs₉ t1 t2 F₉ lp₉ hpv₉ rfl rfl rfl hn0 h1 h2 h3
        exact hQp .next s₉ ⟨pat.length - (i + n), by omega, i + n, part'', pcs'', o₉, vs₉, t1, t2, F₉, lp₉, hpv₉, by rw [← List.drop_drop, hR]; exact hrest, h1, h2, h3, by omega, rfl⟩
      clear hQp
      unfold parse1 at hp1
      refine wpAny_execs_cons (wpAny_If (wpAny_mono (Q := fun b s' => b = decide (part ≠ 2 ∧ (R.take 1 = [97] ∨ R.take 1 = [98])) ∧ Keeps s₇ s') ?_ (fun b s₈ hb => ?_) fun _ _ e => e))
      · refine isTrue_and (wpAny_isTrue_Compare1 (F₀.ld rfl (wpAny_Constant_int (ne_int (wpAny_truthy_bool ?_)))))
        split
        · rename_i h2
          have h2 : part ≠ 2 := by intro q; subst q; simp at h2
          refine isTrue_and (wpAny_isTrue_Compare1 ((F₀.tk _).slice_ik (k := 1) rfl rfl (by omega) fun t' s' k' => List2 (Calls.Constant_str (Calls.Constant_str (new_list (by simp) fun D₂ o₂ s₉ k₉ ho₉ hn₉ lo₉ => in_two (a' := [97]) (b' := [98]) ho₉ lo₉ (by decide +kernel) (by decide +kernel) (wpAny_truthy_bool ?_))))))
          have kk : Keeps s₇ s₉ := kt (ktok _) (kt k' (kt (ktok _) k₉))
          rw [hR]
          split
          · rename_i h3
            exact isTrue_and_nil ⟨(decide_eq_true ⟨h2, of_decide_eq_true h3⟩).symm, kk⟩
          · rename_i h3
            exact ⟨(decide_eq_false fun q => h3 (decide_eq_true q.2)).symm, kk⟩
        · rename_i h2
          have h2 : (part : Int) = 2 := by simpa [bne] using h2
          have h2 : part = 2 := by omega
          exact ⟨(decide_eq_false fun q => q.1 h2).symm, ktok _⟩
      · obtain ⟨rfl, k₈⟩ := hb
        have F₁ := F₀.kp k₈
        split
        · rename_i hc
          have hc := of_decide_eq_true hc
          rw [if_pos hc] at hp1
          cases hp1
          obtain ⟨hg, _, _⟩ := F₁.new (D, o) (by simp)
          refine wpAny_execs_cons (wpAny_Assign_Subscript (wpAny_BinOp (Subscript_ (F₁.ld rfl (UnaryOp_ (wpAny_Constant_int (neg_int (item_neg (lp.lo.isList hg) (by decide) (by simp; omega) (by decide) (x := .str (T (lastOf pcs)) tl) (by rw [ix]; simpa using hvl) ?_))))))))
          refine (F₁.tk _).slice_ik (k := 1) rfl rfl (by omega) fun t' s' k' => add_T (by simp; omega) fun t'' tk => ?_
          rw [hR]
          have F₃ := (F₁.tk _).kp (kt k' (ktok tk))
          generalize hs₃ : ({ s' with toks := tk } : Shared) = s₃ at F₃ ⊢
          obtain ⟨hg', _, _⟩ := F₃.new (D, o) (by simp)
          refine F₃.ld rfl (UnaryOp_ (wpAny_Constant_int (neg_int (set_neg hg' lp.lo (by decide) (by omega) (by decide) fun o' h' ho' lo' hlp hs' => ?_))))
          have F₄ := ((F₃.tk (s₃.toks + 1 + 1)).upd (tk := s₃.toks + 1 + 1) (fun b ob hb e => hs'.extBut b ob hb e) ho')
          refine wpAny_execs_cons (wpAny_AugAssign_Name (F₄.ldn rfl (wpAny_Constant_int (iadd_int ((F₄.tk _).st fun s₅ F₅ => wpAny_execs_nil (wpAny_execs_nil ?_))))))
          have lp' := hlp _ lp
          rw [ix'] at lp'
          refine fin _ (i + 1) part (setLast pcs (lastOf pcs ++ R.take 1)) o' _ _ _ (F₅.weakl rfl) lp' (Paired.set ⟨_, rfl⟩ _ hpv) rfl rfl rfl (by decide) (by simpa [setLast] using hpos) (by simp [setLast]; omega) ?_
          rw [lastOf_setLast hpos]
          simp
          omega
        · rename_i hc
          have hc : ¬ (part ≠ 2 ∧ (R.take 1 = [97] ∨ R.take 1 = [98])) := fun q => hc (decide_eq_true q)
          rw [if_neg hc] at hp1
          refine wpAny_execs_cons (wpAny_If (wpAny_mono (Q := fun b s' => b = decide (part ≠ 2 ∧ (R.take 2 = [92, 46] ∨ R.take 2 = [92, 63])) ∧ Keeps s₈ s') ?_ (fun b s₈ hb => ?_) fun _ _ e => e))
          · refine isTrue_and (wpAny_isTrue_Compare1 (F₁.ld rfl (wpAny_Constant_int (ne_int (wpAny_truthy_bool ?_)))))
            split
            · rename_i h2
              have h2 : part ≠ 2 := by intro q; subst q; simp at h2
              refine isTrue_and (wpAny_isTrue_Compare1 ((F₁.tk _).slice_ik (k := 2) rfl rfl (by omega) fun t' s' k' => List2 (Calls.Constant_str (Calls.Constant_str (new_list (by simp) fun D₂ o₂ s₉ k₉ ho₉ hn₉ lo₉ => in_two (a' := [92, 46]) (b' := [92, 63]) ho₉ lo₉ (by decide +kernel) (by decide +kernel) (wpAny_truthy_bool ?_))))))
              have kk : Keeps s₈ s₉ := kt (ktok _) (kt k' (kt (ktok _) k₉))
              rw [hR]
              split
              · rename_i h3
                exact isTrue_and_nil ⟨(decide_eq_true ⟨h2, of_decide_eq_true h3⟩).symm, kk⟩
              · rename_i h3
                exact ⟨(decide_eq_false fun q => h3 (decide_eq_true q.2)).symm, kk⟩
            · rename_i h2
              have h2 : (part : Int) = 2 := by simpa [bne] using h2
              have h2 : part = 2 := by omega
              exact ⟨(decide_eq_false fun q => q.1 h2).symm, ktok _⟩
          · obtain ⟨rfl, k₈⟩ := hb
            have F₁ := F₁.kp k₈
            split
            · rename_i hc
              have hc := of_decide_eq_true hc
              rw [if_pos hc] at hp1
              cases hp1
              obtain ⟨hg, _, _⟩ := F₁.new (D, o) (by simp)
              refine wpAny_execs_cons (wpAny_Assign_Subscript (wpAny_BinOp (Subscript_ (F₁.ld rfl (UnaryOp_ (wpAny_Constant_int (neg_int (item_neg (lp.lo.isList hg) (by decide) (by simp; omega) (by decide) (x := .str (T (lastOf pcs)) tl) (by rw [ix]; simpa using hvl) ?_))))))))
              refine Subscript_ ((F₁.tk _).ld rfl (wpAny_Slice (wpAny_BinOp ((F₁.tk _).ld rfl (wpAny_Constant_int (add_int (wpAny_BinOp ((F₁.tk _).ld rfl (wpAny_Constant_int (add_int (wpAny_pure ?_))))))))))) 
              refine tail_ss (i := i + 1) (j := i + 2) (fun t' s' k' => ?_) (by omega) (by omega)
              rw [← take_two, hR]
              refine add_T (by simp; omega) fun t'' tk => ?_
              have F₃ := (F₁.tk _).kp (kt k' (ktok tk))
              generalize hs₃ : ({ s' with toks := tk } : Shared) = s₃ at F₃ ⊢
              obtain ⟨hg', _, _⟩ := F₃.new (D, o) (by simp)
              refine F₃.ld rfl (UnaryOp_ (wpAny_Constant_int (neg_int (set_neg hg' lp.lo (by decide) (by omega) (by decide) fun o' h' ho' lo' hlp hs' => ?_))))
              have F₄ := ((F₃.tk (s₃.toks + 1 + 1)).upd (tk := s₃.toks + 1 + 1) (fun b ob hb e => hs'.extBut b ob hb e) ho')
              refine wpAny_execs_cons (wpAny_AugAssign_Name (F₄.ldn rfl (wpAny_Constant_int (iadd_int ((F₄.tk _).st fun s₅ F₅ => wpAny_execs_nil (wpAny_execs_nil (wpAny_execs_nil ?_)))))))
              have lp' := hlp _ lp
              rw [ix'] at lp'
              refine fin _ (i + 2) part (setLast pcs (lastOf pcs ++ (R.drop 1).take 1)) o' _ _ _ (F₅.weakl rfl) lp' (Paired.set ⟨_, rfl⟩ _ hpv) rfl rfl rfl (by decide) (by simpa [setLast] using hpos) (by simp [setLast]; omega) ?_
              rw [lastOf_setLast hpos]
              simp
              omega
            · rename_i hc
              have hc : ¬ (part ≠ 2 ∧ (R.take 2 = [92, 46] ∨ R.take 2 = [92, 63])) := fun q => hc (decide_eq_true q)
              rw [if_neg hc] at hp1
              refine wpAny_execs_cons (wpAny_If (wpAny_mono (Q := fun b s' => b = decide (part = 1 ∧ R.take 1 = [41]) ∧ Keeps s₈ s') ?_ (fun b s₈ hb => ?_) fun _ _ e => e))
              · refine isTrue_and (wpAny_isTrue_Compare1 (F₁.ld rfl (wpAny_Constant_int (eq_int (wpAny_truthy_bool ?_)))))
                split
                · rename_i h2
                  have h2 : (part : Int) = 1 := by simpa using h2
                  have h2 : part = 1 := by omega
                  refine isTrue_and (wpAny_isTrue_Compare1 ((F₁.tk _).slice_ik (k := 1) rfl rfl (by omega) fun t' s' k' => Calls.Constant_str (eq_lit (b := [41]) (by decide +kernel) (wpAny_truthy_bool ?_))))
                  have kk : Keeps s₈ s' := kt (ktok _) k'
                  rw [hR]
                  split
                  · rename_i h3
                    exact isTrue_and_nil ⟨(decide_eq_true ⟨h2, by simpa using h3⟩).symm, kt kk (ktok _)⟩
                  · rename_i h3
                    exact ⟨(decide_eq_false fun q => h3 (by simpa using q.2)).symm, kt kk (ktok _)⟩
                · rename_i h2
                  have h2 : ¬ (part : Int) = 1 := by simpa using h2
                  exact ⟨(decide_eq_false fun q => h2 (by omega)).symm, ktok _⟩
              · obtain ⟨rfl, k₈⟩ := hb
                have F₁ := F₁.kp k₈
                split
                · rename_i hc
                  have hc := of_decide_eq_true hc
                  rw [if_pos hc] at hp1
                  cases hp1
                  refine wpAny_execs_cons (wpAny_Assign_Name (wpAny_Constant_int ((F₁.tk _).st fun s₄ F₄ => ?_)))
                  refine wpAny_execs_cons (wpAny_AugAssign_Name (F₄.ldn rfl (wpAny_Constant_int (iadd_int ((F₄.tk _).st fun s₅ F₅ => wpAny_execs_nil (wpAny_execs_nil (wpAny_execs_nil (wpAny_execs_nil ?_))))))))
                  exact fin _ (i + 1) 2 pcs o vs _ _ (F₅.weakl rfl) lp hpv rfl rfl rfl (by decide) hpos (by omega) (by omega)
                · rename_i hc
                  have hc : ¬ (part = 1 ∧ R.take 1 = [41]) := fun q => hc (decide_eq_true q)
                  rw [if_neg hc] at hp1
                  refine wpAny_execs_cons (wpAny_If (wpAny_mono (Q := fun b s' => b = decide ((part = 0 ∨ part = 2) ∧ R.take 6 = [40, 63, 62, 46, 42, 63]) ∧ Keeps s₈ s') ?_ (fun b s₈ hb => ?_) fun _ _ e => e))
                  · refine isTrue_and (wpAny_isTrue_Compare1 (F₁.ld rfl (List2 (wpAny_Constant_int (wpAny_Constant_int (new_list (by simp) fun D₂ o₂ s₉ k₉ ho₉ hn₉ lo₉ => in_ints2 ho₉ lo₉ (wpAny_truthy_bool ?_)))))))
                    have kk : Keeps s₈ s₉ := kt (ktok _) k₉
                    split
                    · rename_i h2
                      have h2 : part = 0 ∨ part = 2 := by have := of_decide_eq_true h2; omega
                      refine isTrue_and (wpAny_isTrue_Compare1 ((F₁.kp kk).slice_ik (k := 6) rfl rfl (by omega) fun t' s' k' => Calls.Constant_str (eq_lit (b := [40, 63, 62, 46, 42, 63]) (by decide +kernel) (wpAny_truthy_bool ?_))))
                      rw [hR]
                      split
                      · rename_i h3
                        exact isTrue_and_nil ⟨(decide_eq_true ⟨h2, by simpa using h3⟩).symm, kt kk (kt k' (ktok _))⟩
                      · rename_i h3
                        exact ⟨(decide_eq_false fun q => h3 (by simpa using q.2)).symm, kt kk (kt k' (ktok _))⟩
                    · rename_i h2
                      have h2 : ¬ (part = 0 ∨ part = 2) := fun q => h2 (decide_eq_true (by omega))
                      exact ⟨(decide_eq_false fun q => h2 q.1).symm, kk⟩
                  · obtain ⟨rfl, k₈⟩ := hb
                    have F₁ := F₁.kp k₈
                    split
                    · rename_i hc
                      have hc := of_decide_eq_true hc
                      rw [if_pos hc] at hp1
                      cases hp1
                      obtain ⟨hg, _, _⟩ := F₁.new (D, o) (by simp)
                      have plain : PlainL s₈.heap D vs.toArray := by obtain ⟨m, rfl⟩ := lp; exact ⟨_, m, hg, rfl, rfl, rfl⟩
                      refine wpAny_execs_cons (wpAny_Expr (wpAny_Call_append rfl rfl rfl rfl (F₁.ld rfl ⟨D, vs.toArray, rfl, plain, Calls.Constant_str (append_P ((F₁.tk _).new (D, o) (by simp)).1 lp (by omega) fun o' h' ho' lp' hs' => ?_)⟩)))
                      have F₄ := ((F₁.tk (s₈.toks + 1)).upd (tk := s₈.toks + 1) (fun b ob hb e => hs'.extBut b ob hb e) ho')
                      refine wpAny_execs_cons (wpAny_Assign_Name (wpAny_Constant_int ((F₄.tk _).st fun s₅ F₅ => ?_)))
                      refine wpAny_execs_cons (wpAny_AugAssign_Name (F₅.ldn rfl (wpAny_Constant_int (iadd_int ((F₅.tk _).st fun s₆ F₆ => wpAny_execs_nil (wpAny_execs_nil (wpAny_execs_nil (wpAny_execs_nil (wpAny_execs_nil ?_)))))))))
                      refine fin _ (i + 6) 1 (pcs ++ [[]]) o' _ _ _ (F₆.weakl rfl) lp' (Paired.app hpv (.cons ⟨_, by rfl⟩ .nil)) rfl rfl rfl (by decide) (by simp) (by simp; omega) ?_
                      rw [lastOf_app]; exact Nat.zero_le _
                    · rename_i hc
                      have hc : ¬ ((part = 0 ∨ part = 2) ∧ R.take 6 = [40, 63, 62, 46, 42, 63]) := fun q => hc (decide_eq_true q)
                      rw [if_neg hc] at hp1
                      refine wpAny_execs_cons (wpAny_If (wpAny_mono (Q := fun b s' => b = decide ((part = 0 ∨ part = 2) ∧ R.take 2 = [46, 42]) ∧ Keeps s₈ s') ?_ (fun b s₈ hb => ?_) fun _ _ e => e))
                      · refine isTrue_and (wpAny_isTrue_Compare1 (F₁.ld rfl (List2 (wpAny_Constant_int (wpAny_Constant_int (new_list (by simp) fun D₂ o₂ s₉ k₉ ho₉ hn₉ lo₉ => in_ints2 ho₉ lo₉ (wpAny_truthy_bool ?_)))))))
                        have kk : Keeps s₈ s₉ := kt (ktok _) k₉
                        split
                        · rename_i h2
                          have h2 : part = 0 ∨ part = 2 := by have := of_decide_eq_true h2; omega
                          refine isTrue_and (wpAny_isTrue_Compare1 ((F₁.kp kk).slice_ik (k := 2) rfl rfl (by omega) fun t' s' k' => Calls.Constant_str (eq_lit (b := [46, 42]) (by decide +kernel) (wpAny_truthy_bool ?_))))
                          rw [hR]
                          split
                          · rename_i h3
                            exact isTrue_and_nil ⟨(decide_eq_true ⟨h2, by simpa using h3⟩).symm, kt kk (kt k' (ktok _))⟩
                          · rename_i h3
                            exact ⟨(decide_eq_false fun q => h3 (by simpa using q.2)).symm, kt kk (kt k' (ktok _))⟩
                        · rename_i h2
                          have h2 : ¬ (part = 0 ∨ part = 2) := fun q => h2 (decide_eq_true (by omega))
                          exact ⟨(decide_eq_false fun q => h2 q.1).symm, kk⟩
                      · obtain ⟨rfl, k₈⟩ := hb
                        have F₁ := F₁.kp k₈
                        split
                        · rename_i hc
                          have hc := of_decide_eq_true hc
                          rw [if_pos hc] at hp1
                          cases hp1
                          obtain ⟨hg, _, _⟩ := F₁.new (D, o) (by simp)
                          have plain : PlainL s₈.heap D vs.toArray := by obtain ⟨m, rfl⟩ := lp; exact ⟨_, m, hg, rfl, rfl, rfl⟩
                          refine wpAny_execs_cons (wpAny_Expr (wpAny_Call_append rfl rfl rfl rfl (F₁.ld rfl ⟨D, vs.toArray, rfl, plain, Calls.Constant_str (append_P ((F₁.tk _).new (D, o) (by simp)).1 lp (by omega) fun o' h' ho' lp' hs' => ?_)⟩)))
                          have F₄ := ((F₁.tk (s₈.toks + 1)).upd (tk := s₈.toks + 1) (fun b ob hb e => hs'.extBut b ob hb e) ho')
                          refine wpAny_execs_cons (wpAny_Assign_Name (wpAny_Constant_int ((F₄.tk _).st fun s₅ F₅ => ?_)))
                          refine wpAny_execs_cons (wpAny_AugAssign_Name (F₅.ldn rfl (wpAny_Constant_int (iadd_int ((F₅.tk _).st fun s₆ F₆ => wpAny_execs_nil (wpAny_execs_nil (wpAny_execs_nil (wpAny_execs_nil (wpAny_execs_nil (wpAny_execs_nil ?_))))))))))
                          refine fin _ (i + 2) 3 (pcs ++ [[]]) o' _ _ _ (F₆.weakl rfl) lp' (Paired.app hpv (.cons ⟨_, by rfl⟩ .nil)) rfl rfl rfl (by decide) (by simp) (by simp; omega) ?_
                          rw [lastOf_app]; exact Nat.zero_le _
                        · rename_i hc
                          have hc : ¬ ((part = 0 ∨ part = 2) ∧ R.take 2 = [46, 42]) := fun q => hc (decide_eq_true q)
                          rw [if_neg hc] at hp1
                          cases hp1
  · rename_i hlt
    have hlt : i = pat.length := by
      have : ¬ i < pat.length := by simpa using hlt
      omega
    subst hlt
    have hpar : Parses [] part pcs r := by simpa using hpar
    cases hpar with
    | step hne => exact absurd rfl hne
    | done =>
      have F₇ := F.tk (s₆.toks + 1 + 1)
      obtain ⟨hg, hn0, _⟩ := F₇.new (D, o) (by simp)
      refine wpAny_execs_nil (wpAny_execs_cons (wpAny_Return_some (IfExp_ (wpAny_isTrue_Compare1 (F₇.ld rfl (wpAny_Constant_int (eq_int (wpAny_truthy_bool ?_))))))))
      rw [if_pos (by decide)]
      have F₈ := F₇.tk (s₆.toks + 1 + 1 + 1)
      exact F₈.ld rfl (h D _ F₈.base hn0 ⟨vs, lp.lo.isList hg, hpv⟩)
end
end Mine

-- MTrans
namespace Mine

noncomputable def es16 (P : Params) : Array DictEntry := match (obK P 16).data with
  | .dict es _ => es
  | _ => #[]

section
variable {w : World} {A : Around} {E : Value → Shared → Prop} {s : Shared}
theorem tab16 (G : Gr w s.heap) : s.heap.MapOf (intKind PG w) 16 (fun k => findBy (intKind PG w).is (es16 w.params) k) := by
  refine ⟨obK w.params 16, es16 w.params, ?_, G.k _ _ (by kernel_rfl), ⟨by kernel_rfl, by kernel_rfl, by kernel_rfl⟩, ?_, ?_, fun _ => rfl⟩
  rotate_left
  · show (obK w.params 16).data = .dict (es16 w.params) 24
    kernel_rfl
  · intro e he
    have : (es16 w.params).toList.all (fun e => match e.key with | .int k _ => e.hash == (intKind PG w).hash k | _ => false) = true := by kernel_rfl
    have := List.all_eq_true.mp this e (by simpa using he)
    obtain ⟨h, k, v⟩ := e
    cases k with
    | int k t => exact ⟨k, by simp [intKind, Value.isInt], by simpa using this⟩
    | _ => simp at this

theorem sub_key_lookup : isSubtype (.type "KeyError") (.type "LookupError") = pure true := by rw [isSubtype_type]; kernel_rfl

theorem look_miss {c : Nat} {Q : Builtin.Str.Mapped → Shared → Prop} (hh : A.handled = none) (G : Gr w s.heap) (hm : findBy (intKind PG w).is (es16 w.params) (c : Int) = none) (h : ∀ s', Keeps s s' → Q .keep s') :
    wpAny (model PG w) A (Builtin.Str.tableLookup (.ref 16) c) Q E s := by
  unfold Builtin.Str.tableLookup
  refine wpAny_bind (wpAny_attempt (wpAny_bind ?_))
  show wpAny _ _ (mkInt c) _ _ s
  refine wpAny_mkInt ?_
  refine wpAny_getItem_missing_of (intKind_is PG w c _) (by decide) hh (tab16 (G.to (ktok _))) hm fun h' e hx => ?_
  show wpAny _ _ (isInstance (.ref e) (.type "LookupError") >>= _) _ _ _
  obtain ⟨ob, t, he, hc, hd⟩ := hx.there
  refine wpAny_bind (wpAny_isInstance (T := "KeyError") ⟨ob, he, hc⟩ sub_key_lookup ?_)
  exact wpAny_bind (wpAny_rule (wpAny_pure (h _ ⟨h', _, rfl, hx.keeps⟩)))
theorem look_hit {c : Nat} {x : Str} {t : Tok} {Q : Builtin.Str.Mapped → Shared → Prop} (G : Gr w s.heap) (hm : findBy (intKind PG w).is (es16 w.params) (c : Int) = some (.str x t)) (h : ∀ s', Keeps s s' → Q (.text x) s') :
    wpAny (model PG w) A (Builtin.Str.tableLookup (.ref 16) c) Q E s := by
  unfold Builtin.Str.tableLookup
  refine wpAny_bind (wpAny_attempt (wpAny_bind ?_))
  show wpAny _ _ (mkInt c) _ _ s
  refine wpAny_mkInt ?_
  refine wpAny_getItem_of (intKind_is PG w c _) (tab16 (G.to (ktok _))) hm ?_
  show wpAny _ _ (pure (Builtin.Str.Mapped.text x)) _ _ _
  exact wpAny_pure (h _ (ktok _))

theorem find97 (P : Params) : findBy (intKind PG w).is (es16 P) ((97 : Nat) : Int) = none := by kernel_rfl
theorem find98 (P : Params) : findBy (intKind PG w).is (es16 P) ((98 : Nat) : Int) = none := by kernel_rfl
theorem find46 (P : Params) : ∃ t, findBy (intKind PG w).is (es16 P) ((46 : Nat) : Int) = some (.str (T [92, 46]) t) := ⟨_, rfl⟩
theorem find63 (P : Params) : ∃ t, findBy (intKind PG w).is (es16 P) ((63 : Nat) : Int) = some (.str (T [92, 63]) t) := ⟨_, rfl⟩

/-- a sign, as escaped -/
def esc1 (c : Nat) : List Nat := if c = 46 ∨ c = 63 then [92, c] else [c]
def esc (l : List Nat) : List Nat := l.flatMap esc1
def okSign (c : Nat) : Prop := c = 97 ∨ c = 98 ∨ c = 46 ∨ c = 63

theorem esc_len (l : List Nat) : (esc l).length ≤ 2 * l.length := by
  induction l with
  | nil => simp [esc]
  | cons c r ih =>
    have : (esc1 c).length ≤ 2 := by unfold esc1; split <;> simp
    simp only [esc, List.flatMap_cons, List.length_append, List.length_cons] at *
    omega
theorem trans_spec {x : List Nat} {t : Tok} {Q : Value → Shared → Prop} (hh : A.handled = none) (G : Gr w s.heap) (hx : ∀ c ∈ x, okSign c) (hl : x.length ≤ 1000) (h : ∀ t' s', Keeps s s' → Q (.str (T (esc x)) t') s') :
    wpAny (model PG w) A (call (.builtin "str.translate") [.str (T x) t, .ref 16]) Q E s := by
  refine wpAny_call_entry F.slot_str_translate (typeIs_str s _ t) F.entry_str_translate ?_ (F.args_str_translate_2 _ _)
  show wpAny _ _ (if ((T x).length == 0) = true then _ else _) _ _ s
  by_cases h0 : x = []
  · subst h0
    rw [if_pos (by decide)]
    refine wpAny_bind (wpAny_rule ?_)
    show wpAny _ _ (ret (.str (T []) t)) _ _ s
    exact wpAny_pure ⟨_, rfl, h t s krfl⟩
  · have hl0 : ¬ ((T x).length == 0) = true := by
      rw [T_len]; simpa using h0
    rw [if_neg hl0]
    dsimp only
    refine wpAny_bind (forIn_array_ _ (fun rest st s' => ∃ done, x = done ++ rest ∧ Keeps s s' ∧ st.1.reverse.foldl (fun acc p => acc ++ p.cps) #[] = (esc done).toArray ∧ st.2.1 = (esc done).length ∧ st.2.2.2.2 = false ∧ ∀ p ∈ st.2.2.2.1, p = (97, some 97) ∨ p = (98, some 98)) _ ?_ ?_ _ _ ⟨[], by simp [T], krfl, by simp [esc], by simp [esc], rfl, by simp⟩)
    · rintro c rest ⟨pieces, total, fast, known, ad⟩ s₁ ⟨done, hxd, k, hp, ht, ha, hkn⟩
      dsimp only at hp ht ha hkn ⊢
      subst ha
      have hc : okSign c := hx c (by rw [hxd]; simp)
      have hdl : done.length ≤ 1000 := by rw [hxd] at hl; simp at hl; omega
      have htl : total ≤ 2000 := by have := esc_len done; omega
      rw [if_neg (by simp [Builtin.Str.tooLong, sizeLine]; omega)]
      -- a sign that stays, a sign that is escaped
      have nextK : ∀ (kn' : List (Nat × Option Nat)) (s₂ : Shared), Keeps s₁ s₂ → (c = 97 ∨ c = 98) → (∀ p ∈ kn', p = (97, some 97) ∨ p = (98, some 98)) → ∃ done, x = done ++ rest ∧ Keeps s s₂ ∧ List.foldl (fun acc p => acc ++ p.cps) #[] (List.reverse ((⟨#[c]⟩ : Str) :: pieces)) = (esc done).toArray ∧ total + 1 = (esc done).length ∧ false = false ∧ ∀ p ∈ kn', p = (97, some 97) ∨ p = (98, some 98) := fun kn' s₂ k2 hc' hkn' => by
        have e1 : esc1 c = [c] := by unfold esc1; rw [if_neg (by omega)]
        refine ⟨done ++ [c], by rw [hxd]; simp, kt k k2, ?_, ?_, rfl, hkn'⟩
        · rw [List.reverse_cons, List.foldl_append, hp]; simp [esc, e1]
        · rw [ht]; simp [esc, e1]
      have nextT : ∀ (kn' : List (Nat × Option Nat)) (s₂ : Shared), Keeps s₁ s₂ → (c = 46 ∨ c = 63) → (∀ p ∈ kn', p = (97, some 97) ∨ p = (98, some 98)) → ∃ done, x = done ++ rest ∧ Keeps s s₂ ∧ List.foldl (fun acc p => acc ++ p.cps) #[] (List.reverse (T [92, c] :: pieces)) = (esc done).toArray ∧ total + (T [92, c]).length = (esc done).length ∧ false = false ∧ ∀ p ∈ kn', p = (97, some 97) ∨ p = (98, some 98) := fun kn' s₂ k2 hc' hkn' => by
        have e1 : esc1 c = [92, c] := by unfold esc1; rw [if_pos (by omega)]
        refine ⟨done ++ [c], by rw [hxd]; simp, kt k k2, ?_, ?_, rfl, hkn'⟩
        · rw [List.reverse_cons, List.foldl_append, hp]; simp [esc, e1, T]
        · rw [ht, T_len]; simp [esc, e1]
      have lookK : ∀ {s₂ : Shared} {Q' : Builtin.Str.Mapped → Shared → Prop} {E'}, Keeps s s₂ → (c = 97 ∨ c = 98) → (∀ s', Keeps s₂ s' → Q' .keep s') → wpAny (model PG w) A.in1 (Builtin.Str.tableLookup (.ref 16) c) Q' E' s₂ := fun k2 hc' hq => by
        rcases hc' with rfl | rfl
        · exact look_miss hh (G.to k2) (find97 _) hq
        · exact look_miss hh (G.to k2) (find98 _) hq
      have lookT : ∀ {s₂ : Shared} {Q' : Builtin.Str.Mapped → Shared → Prop} {E'}, Keeps s s₂ → (c = 46 ∨ c = 63) → (∀ s', Keeps s₂ s' → Q' (.text (T [92, c])) s') → wpAny (model PG w) A.in1 (Builtin.Str.tableLookup (.ref 16) c) Q' E' s₂ := fun k2 hc' hq => by
        rcases hc' with rfl | rfl
        · obtain ⟨t, e⟩ := find46 (w := w) w.params; exact look_hit (G.to k2) e hq
        · obtain ⟨t, e⟩ := find63 (w := w) w.params; exact look_hit (G.to k2) e hq
      have hcc : (c = 97 ∨ c = 98) ∨ (c = 46 ∨ c = 63) := by unfold okSign at hc; omega
      cases fast with
      | false =>
        rw [if_neg (by decide), if_neg (by decide)]
        rcases hcc with hc' | hc'
        · exact wpAny_bind (lookK k hc' fun s₂ k2 => wpAny_pure (nextK _ _ k2 hc' hkn))
        · exact wpAny_bind (lookT k hc' fun s₂ k2 => wpAny_pure (nextT _ _ k2 hc' hkn))
      | true =>
        rw [if_pos rfl]
        cases hlk : known.lookup c with
        | some a =>
          have hm : (c, a) ∈ known := by
            clear hkn nextK nextT
            induction known with
            | nil => cases hlk
            | cons q r ih =>
              obtain ⟨b, d⟩ := q
              rw [List.lookup_cons] at hlk
              cases hq : c == b with
              | true => rw [hq] at hlk; cases hlk; rw [eq_of_beq hq]; exact List.mem_cons_self
              | false => rw [hq] at hlk; exact List.mem_cons_of_mem _ (ih hlk)
          have hc' : c = 97 ∨ c = 98 := by rcases hkn _ hm with e | e <;> cases e <;> simp
          have ha : a = some c := by rcases hkn _ hm with e | e <;> cases e <;> rfl
          subst ha
          exact wpAny_bind (wpAny_pure (wpAny_pure (nextK _ _ krfl hc' hkn)))
        | none =>
          rcases hcc with hc' | hc'
          · refine wpAny_bind (lookK k hc' fun s₂ k2 => ?_)
            refine wpAny_bind (wpAny_pure (wpAny_pure (nextK ((c, some c) :: known) _ k2 hc' ?_)))
            intro p hp
            rcases List.mem_cons.mp hp with rfl | hp
            · rcases hc' with rfl | rfl
              · exact .inl rfl
              · exact .inr rfl
            · exact hkn p hp
          · refine wpAny_bind (lookT k hc' fun s₂ k2 => ?_)
            have e : ((T [92, c]).length == 1 && (T [92, c]).cps.all fun x => decide (x < 128)) = false := by rw [T_len]; rfl
            dsimp only
            simp only [e, Bool.false_eq_true, if_false]
            refine wpAny_bind (wpAny_pure (wpAny_bind (wpAny_rule ?_)))
            exact wpAny_bind (lookT (kt k k2) hc' fun s₃ k3 => wpAny_pure (nextT _ _ (kt k2 k3) hc' hkn))
    · rintro ⟨pieces, total, fast, known, ad⟩ s₁ ⟨done, hxd, k, hp, ht, ha, hkn⟩
      dsimp only at hp ht ha hkn ⊢
      have hxd : x = done := by simpa using hxd
      subst hxd
      have htl : total ≤ 2000 := by have := esc_len x; omega
      rw [if_neg (by simp [Builtin.Str.tooLong, sizeLine]; omega)]
      show wpAny _ _ (do ret (← mkStr _)) _ _ s₁
      rw [hp]
      refine wpAny_bind (wpAny_mkStr ?_ (by have := esc_len x; simp [Str.length, sizeLine]; omega))
      exact wpAny_pure ⟨_, rfl, h _ _ (kt k (ktok _))⟩
end
end Mine

-- MEsc
namespace Mine
section
variable {w : World} {A : Around} {E : Value → Shared → Prop} {s : Shared}
theorem escape_spec {Q : Value → Shared → Prop} {x : List Nat} {t : Tok} (G : Gr w s.heap) (hr : A.depth < recursionLimit) (hh : A.handled = none) (hx : ∀ c ∈ x, okSign c) (hl : x.length ≤ 1000) (h : ∀ t' s', Keeps s s' → Q (.str (T (esc x)) t') s') :
    wpAny (model PG w) A (call (.ref 26) [.str (T x) t]) Q E s := by
  refine enter 26 [("pattern", .str (T x) t)] [("pattern", .str (T x) t)] [] G hr ?_
  intro L s₁ E' hL F
  refine wpAny_execs_cons (wpAny_If (isTrue_plain (F.callb2 G (F.ld rfl (F.gb (v := .type "str") G ?_)))))
  refine IsiPair.str_str (wpAny_truthy_bool ?_)
  rw [if_pos rfl]
  refine wpAny_execs_cons (wpAny_Return_some (wpAny_Call_method (T := "str") (id := "str.translate") rfl rfl rfl PySem.F.plainAttrs_str PySem.F.slot_str_translate PySem.F.type_str_translate (F.ld rfl ⟨typeIs_str _ _ _, (by intro a e; cases e), ?_⟩)))
  refine Calls.callWith_builtin rfl (Calls.evalArgs_plain (Calls.spliced_cons (F.gl (v := .ref 16) G (Calls.spliced_nil ?_))))
  exact trans_spec hh (F.gr G) hx hl fun t' s' k => h t' s' (kt F.base k)
end
end Mine

-- MMap
namespace Mine

namespace MF
theorem slot_map_init : Slot "map" "__init__" "object.__init__" :=
  .of (owner := "object") (n := "__init__") (by rw [typeLookup_type, builtinLookup_eq_fast]; kernel_rfl) (by decide +kernel) (by decide +kernel) (by decide +kernel)
    (by first | exact .inl (by decide +kernel) | exact .inr (by decide +kernel)) (by rw [isSubtype_type]; kernel_rfl)
theorem slot_map_next : Slot "map" "__next__" "map.__next__" :=
  .of (owner := "map") (n := "__next__") (by rw [typeLookup_type, builtinLookup_eq_fast]; kernel_rfl) (by decide +kernel) (by decide +kernel) (by decide +kernel)
    (by first | exact .inl (by decide +kernel) | exact .inr (by decide +kernel)) (by rw [isSubtype_type]; kernel_rfl)
theorem slot_map_iter : Slot "map" "__iter__" "map.__iter__" :=
  .of (owner := "map") (n := "__iter__") (by rw [typeLookup_type, builtinLookup_eq_fast]; kernel_rfl) (by decide +kernel) (by decide +kernel) (by decide +kernel)
    (by first | exact .inl (by decide +kernel) | exact .inr (by decide +kernel)) (by rw [isSubtype_type]; kernel_rfl)
theorem entry_map_next : entryFor table "map.__next__" = some Builtin.«map.__next__» := entryFor_of_tree (by kernel_rfl)
theorem args_map_next_1 (a : Value) : argsOk "map.__next__" ⟨[a], []⟩ := by unfold argsOk; kernel_rfl
theorem args_map_iter_1 (a : Value) : argsOk "map.__iter__" ⟨[a], []⟩ := by unfold argsOk; kernel_rfl
theorem mro_map : mroOf (.type "map") = pure [.type "map", .type "object"] := by rw [mroOf_type]; kernel_rfl
theorem lookup_map_new : typeLookup (.type "map") "__new__" = pure (some (.builtin "map.__new__")) := by rw [typeLookup_type, builtinLookup_eq_fast]; kernel_rfl
theorem called_map : TypeCalled "map" "map.__new__" "object.__init__" :=
  ⟨by decide +kernel, by decide +kernel, ⟨_, _, mro_map⟩, madeBy_type mro_map lookup_map_new (by decide +kernel), by decide +kernel, by rw [isSubtype_type]; kernel_rfl, slot_map_init⟩
theorem typeCall_map_2 (a b : Value) : checkTypeCall "map" ⟨[a, b], []⟩ = pure () := by kernel_rfl
theorem newCall_map_2 (a b : Value) : checkBuiltinCall "map.__new__" ⟨[.type "map", a, b], []⟩ = pure () := by kernel_rfl
theorem entry_map_new : entryFor table "map.__new__" = some Builtin.«map.__new__» := entryFor_of_tree (by kernel_rfl)
theorem sub_map : isSubtype (.type "map") (.type "map") = pure true := by rw [isSubtype_type]; kernel_rfl
theorem entry_map_iter : entryFor table "map.__iter__" = some Builtin.«dict_keyiterator.__iter__» :=
  entryFor_alias (id' := "dict_keyiterator.__iter__") (by kernel_rfl) (by first | rfl | decide +kernel | (unfold String.splitOn; simp +decide [String.splitOnAux])) (by decide +kernel) (by kernel_rfl)
end MF

def itObj (l : Addr) (i : Nat) : Obj := { cls := .type "list_iterator", data := .fields #[.ref l, .int i 0] }
def mapObj (t f : Addr) : Obj := { cls := .type "map", data := .fields #[.ref t, .ref f] }
def tupObj (it : Addr) : Obj := { cls := .type "tuple", data := .seq #[.ref it] }

theorem meets_map_new (f l : Addr) (items : Array Value) : Meets (Builtin.«map.__new__» ⟨[.type "map", .ref f, .ref l], []⟩) (fun _ R s => s.heap.IsList l items ∧
    R (.ok (.ret (.ref ((s.heap.push (itObj l 0)).push (tupObj s.heap.objs.size)).objs.size)))
      { s with heap := ((s.heap.push (itObj l 0)).push (tupObj s.heap.objs.size)).push (mapObj (s.heap.push (itObj l 0)).objs.size f) }) :=
  .of_wp fun prog w A R s h => by
    obtain ⟨hl, h⟩ := h
    have e : Builtin.SmallTypes.newClass "map" ⟨[.type "map", .ref f, .ref l], []⟩ = pure (.type "map", [.ref f, .ref l]) := by
      unfold Builtin.SmallTypes.newClass
      show (isSubtype (.type "map") (.type "map") >>= _) = _
      rw [MF.sub_map]; rfl
    unfold Builtin.«map.__new__»
    rw [e]
    show wpAny _ _ (Builtin.SmallTypes.iterAll [.ref l] >>= _) _ _ s
    unfold Builtin.SmallTypes.iterAll
    simp only [List.forIn_cons, List.forIn_nil]
    refine wpAny_bind (wpAny_bind (wpAny_bind (wpAny_bind (wpAny_holding (wpAny_pyIter_list hl ?_)))))
    refine wpAny_pure (wpAny_pure (wpAny_pure ?_))
    refine wpAny_bind (wpAny_newObj_type (T := "tuple") ?_ (by show (1 : Nat) ≤ sizeLine; decide))
    refine wpAny_bind (m := newObj (.type "map") (.fields #[.ref (s.heap.push (itObj l 0)).objs.size, .ref f])) (wpAny_newObj_type (T := "map") ?_ (by show (2 : Nat) ≤ sizeLine + 2; decide))
    exact wpAny_pure ⟨_, rfl, h⟩
end Mine

-- MMap2
namespace Mine

/-- the places that the ground lies in -/
noncomputable def gAddrs (w : World) : List Addr := (KF w).map (·.1) ++ [mainGlobals, builtinsNs, cStatics]
theorem mem_of_look {K : Frag} {a : Addr} {o : Obj} (h : K.lookup a = some o) : a ∈ K.map (·.1) := by
  induction K with
  | nil => cases h
  | cons q r ih =>
    obtain ⟨b, d⟩ := q
    rw [List.lookup_cons] at h
    cases hq : a == b with
    | true => rw [eq_of_beq hq]; exact List.mem_cons_self
    | false => rw [hq] at h; exact List.mem_cons_of_mem _ (ih h)
theorem look_of_mem {K : Frag} {a : Addr} (h : a ∈ K.map (·.1)) : ∃ o, K.lookup a = some o := by
  induction K with
  | nil => cases h
  | cons q r ih =>
    obtain ⟨b, d⟩ := q
    rw [List.lookup_cons]
    cases hq : a == b with
    | true => exact ⟨d, rfl⟩
    | false =>
      rcases List.mem_cons.mp h with e | e
      · simp at e; simp [e] at hq
      · exact ih e
theorem Gr.at {w : World} {h h' : Heap} (G : Gr w h) (hk : ∀ b ∈ gAddrs w, ∀ o, h.get? b = some o → h'.get? b = some o) : Gr w h' := by
  refine ⟨fun a o e => hk a (List.mem_append_left _ (mem_of_look e)) o (G.k a o e), ?_⟩
  obtain ⟨p, lo, mg, mb, T⟩ := G.t
  refine ⟨p, lo, mg, mb, T.g.at' (hk _ (List.mem_append_right _ (by simp))), T.b.at' (hk _ (List.mem_append_right _ (by simp))), ?_, T.builtins, T.free⟩
  obtain ⟨mc, h1, h2⟩ := T.nolimit
  exact ⟨mc, h1.at' (hk _ (List.mem_append_right _ (by simp))), h2⟩
theorem Gr.live {w : World} {h : Heap} (G : Gr w h) : ∀ b ∈ gAddrs w, ∃ o, h.get? b = some o := by
  intro b hb
  obtain ⟨p, lo, mg, mb, T⟩ := G.t
  rcases List.mem_append.mp hb with hb | hb
  · obtain ⟨o, e⟩ := look_of_mem hb
    exact ⟨o, G.k _ _ e⟩
  · simp at hb
    obtain ⟨mc, h1, h2⟩ := T.nolimit
    rcases hb with rfl | rfl | rfl
    · obtain ⟨o, _, _, e, _⟩ := T.g; exact ⟨o, e⟩
    · obtain ⟨o, _, _, e, _⟩ := T.b; exact ⟨o, e⟩
    · obtain ⟨o, _, _, e, _⟩ := h1; exact ⟨o, e⟩

section
variable {w : World} {A : Around} {E : Value → Shared → Prop} {s : Shared}

theorem call_map {f l : Addr} {items : Array Value} {Q : Value → Shared → Prop} (hl : s.heap.IsList l items)
    (h : ∀ m t it s', Keeps s s' → s'.heap.get? m = some (mapObj t f) → s'.heap.get? t = some (tupObj it) → s'.heap.get? it = some (itObj l 0) → s.heap.get? it = none → s.heap.get? m = none → s.heap.get? t = none → it < t → t < m → Q (.ref m) s') :
    wpAny (model PG w) A (call (.type "map") [.ref f, .ref l]) Q E s := by
  refine callType_new MF.called_map (by decide) (MF.typeCall_map_2 _ _) (MF.newCall_map_2 _ _) (fun obj => PySem.F.initArgs_range_2 obj _ _) MF.entry_map_new (meets_map_new f l items) ⟨hl, ?_⟩
  have fresh : ∀ a, s.heap.objs.size ≤ a → s.heap.get? a = none := fun a ha => by
    cases e : s.heap.get? a with
    | none => rfl
    | some o' => exact absurd (Heap.lt_size e) (Nat.not_lt.mpr ha)
  have e1 : (s.heap.push (itObj l 0)).objs.size = s.heap.objs.size + 1 := Heap.size_push ..
  have e2 : ((s.heap.push (itObj l 0)).push (tupObj s.heap.objs.size)).objs.size = s.heap.objs.size + 2 := by rw [Heap.size_push, e1]
  refine ⟨⟨_, Heap.get?_push_size _ rfl, rfl⟩, h _ (s.heap.push (itObj l 0)).objs.size s.heap.objs.size _ ⟨_, s.toks, rfl, fun b o e => Heap.get?_push_of_some _ (Heap.get?_push_of_some _ (Heap.get?_push_of_some _ e))⟩ (Heap.get?_push_size _ rfl)
    (Heap.get?_push_of_some _ (Heap.get?_push_size _ rfl)) (Heap.get?_push_of_some _ (Heap.get?_push_of_some _ (Heap.get?_push_size _ rfl))) (get_size _) (fresh _ (by rw [e2]; omega)) (fresh _ (by rw [e1]; omega)) (by rw [e1]; exact Nat.lt_succ_self _) (by rw [e1, e2]; exact Nat.lt_succ_self _)⟩

/-- the map's walk -/
def mapP (ps : List (List Nat)) (i : Nat) (v : Value) : Prop := ∃ p t, ps[i]? = some p ∧ v = .str (T (esc p)) t
def mapSt (w : World) (m t it l : Addr) (vs : List Value) (i : Nat) (h : Heap) : Prop := h.get? m = some (mapObj t 26) ∧ h.get? t = some (tupObj it) ∧ h.IsListIter it l i ∧ h.IsList l vs.toArray ∧ Gr w h

theorem walks_map {m t it l : Addr} {vs : List Value} {ps : List (List Nat)} (hh : A.handled = none) (hr : A.depth < recursionLimit) (hv : Paired strV vs ps) (hok : ∀ p ∈ ps, (∀ c ∈ p, okSign c) ∧ p.length ≤ 1000)
    (h1 : it ≠ m) (h2 : it ≠ t) (h3 : it ≠ l) (h4 : it ∉ gAddrs w) :
    Walks PG w A m ([m, t, it, l] ++ gAddrs w) [it] vs.length (mapP ps) (mapSt w m t it l vs) where
  sub := fun b hb => by simp at hb; simp [hb]
  frame := fun i h h' st hk => by
    obtain ⟨a, b, c, d, G⟩ := st
    refine ⟨hk m (by simp) _ a, hk t (by simp) _ b, ?_, ?_, G.at fun b hb o e => hk b (List.mem_append_right _ hb) o e⟩
    · exact c.at fun o e => hk it (by simp) o e
    · exact d.at fun o e => hk l (by simp) o e
  item := fun i s Q E hi st hQ => by
    obtain ⟨a, b, c, d, G⟩ := st
    obtain ⟨p, hp⟩ := item_of (l := ps) (i := i) (by rw [← Paired.len hv]; exact hi)
    obtain ⟨v, hvi, tv, rfl⟩ := Paired.at hv hp
    have hT : s.TypeIs (.ref m) "map" := ⟨_, a, rfl⟩
    unfold pyNext
    refine wpAny_bind (wpAny_attempt (wpAny_callSpecial?_slot (name := Str.ofString "__next__") hT MF.slot_map_next (wpAny_call_entry MF.slot_map_next hT MF.entry_map_next ?_ (MF.args_map_next_1 _))))
    show wpAny _ _ (field (.ref m) 0 >>= _) _ _ s
    refine wpAny_bind (wpAny_field a rfl (x := .ref t) rfl ?_)
    refine wpAny_bind (wpAny_seqItems b rfl ?_)
    dsimp only
    rw [← Array.forIn_toList]
    simp only [List.forIn_cons, List.forIn_nil]
    refine wpAny_bind (wpAny_bind (wpAny_bind (wpAny_holding (wpAny_nextOf_list_item c d (x := .str (T p) tv) (by simpa using hvi) fun h₁ c₁ hs₁ => ?_))))
    refine wpAny_pure (wpAny_pure ?_)
    have a₁ : h₁.get? m = some (mapObj t 26) := hs₁.extBut _ _ (Ne.symm h1) a
    refine wpAny_bind (wpAny_field a₁ rfl (x := .ref 26) rfl ?_)
    have G₁ : Gr w h₁ := G.at fun b hb o e => hs₁.extBut _ _ (fun q => h4 (q ▸ hb)) e
    refine wpAny_bind (wpAny_holding (escape_spec (s := { s with heap := h₁ }) G₁ hr hh (hok p (List.mem_of_getElem? hp)).1 (hok p (List.mem_of_getElem? hp)).2 fun t' s' k => ?_))
    refine wpAny_bind (wpAny_letGo (wpAny_pure ⟨_, rfl, wpAny_pure ?_⟩))
    obtain ⟨h₂, tk₂, rfl, k₂⟩ := k
    refine hQ _ h₂ tk₂ ⟨p, t', hp, rfl⟩ ⟨k₂ _ _ a₁, k₂ _ _ (hs₁.extBut _ _ (Ne.symm h2) b), ?_, ?_, G₁.keeps k₂⟩ fun b o hb e => k₂ b o (hs₁.extBut b o (by simpa using hb) e)
    · exact c₁.at fun o e => k₂ _ o e
    · exact d.at fun o e => k₂ _ o (hs₁.extBut _ _ (Ne.symm h3) e)
  done := fun s Q E st hQ => by
    obtain ⟨a, b, c, d, G⟩ := st
    have hT : s.TypeIs (.ref m) "map" := ⟨_, a, rfl⟩
    unfold pyNext
    refine wpAny_bind (wpAny_attempt (wpAny_callSpecial?_slot (name := Str.ofString "__next__") hT MF.slot_map_next (wpAny_call_entry MF.slot_map_next hT MF.entry_map_next ?_ (MF.args_map_next_1 _))))
    show wpAny _ _ (field (.ref m) 0 >>= _) _ _ s
    refine wpAny_bind (wpAny_field a rfl (x := .ref t) rfl ?_)
    refine wpAny_bind (wpAny_seqItems b rfl ?_)
    dsimp only
    rw [← Array.forIn_toList]
    simp only [List.forIn_cons, List.forIn_nil]
    refine wpAny_bind (wpAny_bind (wpAny_bind (wpAny_holding (wpAny_nextOf_list_end hh c d (by simp) fun h' x he' hx' => ?_))))
    obtain ⟨o, ho, hc⟩ := hx'
    refine wpAny_bind (wpAny_isInstance (T := "StopIteration") (b := true) ⟨o, ho, hc⟩ isSubtype_stop ?_)
    exact wpAny_pure (hQ h' s.toks fun b o hb e => he' b o (by simpa using hb) e)
  self := fun i s Q E st hQ => by
    obtain ⟨a, b, c, d, G⟩ := st
    have hT : s.TypeIs (.ref m) "map" := ⟨_, a, rfl⟩
    refine wpAny_pyIter_slot hT MF.slot_map_iter (wpAny_call_entry MF.slot_map_iter hT MF.entry_map_iter ?_ (MF.args_map_iter_1 _))
    show wpAny _ _ (ret (.ref m)) _ _ s
    exact wpAny_pure ⟨_, rfl, "map", _, hT, MF.slot_map_next.lookup, hQ⟩
end
end Mine

-- MMap3
namespace Mine
namespace MF
theorem map_no_len : typeLookup (.type "map") "__len__" = pure none := by rw [typeLookup_type, builtinLookup_eq_fast]; kernel_rfl
theorem map_no_hint : typeLookup (.type "map") "__length_hint__" = pure none := by rw [typeLookup_type, builtinLookup_eq_fast]; kernel_rfl
end MF

section
variable {w : World} {A : Around} {s : Shared} {R : Result → Shared → Prop}
variable {I : Addr} {fp wr : List Addr} {G : Array GenState → Array GenState → Prop} {n : Nat} {P : Nat → Value → Prop} {St : Nat → Shared → Prop}

theorem extend_map (W : WalksS PG w A.in1 I fp wr G n P St) (hT : ∀ i s, St i s → s.TypeIs (.ref I) "map") (S : Addr) (res : Value) (c₀ : Nat) (hst : St 0 s) (hSf : S ∉ fp) (hI : I ∈ fp)
    (hS : s.heap.get? S = some { cls := .type "list", data := .seq #[] c₀ })
    (hR : ∀ s' acc' c', Moved (S :: wr) G s s' → s'.heap.get? S = some { cls := .type "list", dict := none, data := .seq acc' c', slots := #[] } → ItemsOf P acc' n → R (.ok (.ret res)) s') (hn : n ≤ sizeLine) :
    wpAny (model PG w) A.in1 (Builtin.List.listExtendWith (.ref S) (.ref I) res)
      (fun fin s' => match fin with | .done f => R (.ok f) s' | .again c' => c'.quiet = true ∧ codeAny (model PG w) A c' R s') (fun e s' => R (.error e) s') s := by
  have hSI : S ≠ I := fun e => hSf (e ▸ hI)
  unfold Builtin.List.listExtendWith
  refine wpAny_bind (wpAny_typeOf (hT 0 _ hst) ?_)
  have h1 : Builtin.List.listSameRef (.ref S) (.ref I) = false := by simp [Builtin.List.listSameRef, hSI]
  have h2 : (Value.type "map" == Value.type "list") = false := by decide
  have h3 : (Value.type "map" == Value.type "tuple") = false := by decide
  simp only [h1, h2, h3, Bool.or_false, Bool.false_eq_true, if_false]
  refine wpAny_bind (W.self 0 _ _ _ hst ?_)
  refine wpAny_bind (wpAny_holding ?_)
  unfold Builtin.List.listLengthHint
  refine wpAny_bind (wpAny_specialOf (hT 0 _ hst) MF.map_no_len ?_)
  show wpAny _ A.in1 (specialOf (Value.ref I) (Str.ofString "__length_hint__") >>= _) _ _ _
  refine wpAny_bind (wpAny_specialOf (hT 0 _ hst) MF.map_no_hint ?_)
  refine wpAny_pure ?_
  show wpAny _ A.in1 (rule "list.extend.makes-room" >>= fun _ => Builtin.List.listTouch (.ref S) >>= fun _ =>
    again (.builtin "list.extend.loop" ⟨[.ref S, .ref I, res], []⟩)) _ _ _
  refine wpAny_bind (wpAny_rule ?_)
  refine wpAny_bind ?_
  show wpAny _ A.in1 (updateSeq S (·.push .none) >>= fun _ => updateSeq S (·.pop)) _ _ _
  refine wpAny_bind (wpAny_updateSeq hS rfl ?_)
  have hS₂ := Heap.get?_update_self (Obj.mapSeq (·.push Value.none)) hS rfl
  refine wpAny_updateSeq (hz := by seq_fits) hS₂ rfl ?_
  have hS₃ := Heap.get?_update_self (Obj.mapSeq (·.pop)) hS₂ rfl
  have oth : ∀ b o, b ≠ S → s.heap.get? b = some o → ((s.heap.update S (Obj.mapSeq (·.push Value.none))).update S (Obj.mapSeq (·.pop))).get? b = some o :=
    fun b o hb e => (Heap.get?_update_other _ _ (Ne.symm hb)).trans ((Heap.get?_update_other _ _ (Ne.symm hb)).trans e)
  refine wpAny_pure ⟨plainId_quiet F.plain_extend_loop _, codeAny_extend_loopS W hn _ hSf _ n 0 _ _ _ rfl (Nat.zero_le _)
    (W.frame 0 s _ s.toks hst (Nat.le_refl _) fun b hb o e => oth b o (fun h => hSf (h ▸ hb)) e) hS₃ (ItemsOf.nil P) fun s' acc' c' hm hS' hacc => ?_⟩
  exact hR s' acc' c' (Moved.trans W.gtrans ((Moved.refl W.grefl).then_heap (Nat.le_refl _) fun b o hb e => oth b o (fun h => hb (h ▸ List.mem_cons_self)) e) hm) hS' hacc

theorem list_init_map (W : WalksS PG w A.in1 I fp wr G n P St) (hT : ∀ i s, St i s → s.TypeIs (.ref I) "map") (S : Addr) (hst : St 0 s) (hSf : S ∉ fp) (hI : I ∈ fp)
    (hS : s.heap.get? S = some { cls := .type "list", data := .seq #[] })
    (hR : ∀ s' acc' c', Moved (S :: wr) G s s' → s'.heap.get? S = some { cls := .type "list", dict := none, data := .seq acc' c', slots := #[] } → ItemsOf P acc' n → R (.ok (.ret .none)) s') (hn : n ≤ sizeLine) :
    wpAny (model PG w) A.in1 (Builtin.«list.__init__» ⟨[.ref S, .ref I], []⟩)
      (fun fin s' => match fin with | .done f => R (.ok f) s' | .again c' => c'.quiet = true ∧ codeAny (model PG w) A c' R s') (fun e s' => R (.error e) s') s := by
  show wpAny _ A.in1 (do let old ← Builtin.List.listItems (.ref S); Builtin.List.listUpdate (.ref S) (fun _ => #[]); letGo old.toList.reverse; Builtin.List.listExtendWith (.ref S) (.ref I) .none) _ _ s
  refine wpAny_bind ?_
  unfold Builtin.List.listItems
  refine wpAny_bind (wpAny_seqItems hS rfl (wpAny_pure ?_))
  show wpAny _ A.in1 (updateSeq S (fun _ => #[]) >>= fun _ => letGo (#[] : Array Value).toList.reverse >>= fun _ => Builtin.List.listExtendWith (.ref S) (.ref I) .none) _ _ s
  refine wpAny_bind (wpAny_updateSeq hS rfl ?_)
  have hS₂ := Heap.get?_update_self (Obj.mapSeq (fun _ => (#[] : Array Value))) hS rfl
  have oth : ∀ b o, b ≠ S → s.heap.get? b = some o → (s.heap.update S (Obj.mapSeq (fun _ => (#[] : Array Value)))).get? b = some o :=
    fun b o hb e => (Heap.get?_update_other _ _ (Ne.symm hb)).trans e
  refine wpAny_bind (wpAny_letGo ?_)
  refine extend_map (hn := hn) W hT S .none _ (W.frame 0 s _ s.toks hst (Nat.le_refl _) fun b hb o e => oth b o (fun h => hSf (h ▸ hb)) e) hSf hI hS₂ fun s' acc' c' hm hS' hacc => ?_
  exact hR s' acc' c' (Moved.trans W.gtrans ((Moved.refl W.grefl).then_heap (Nat.le_refl _) fun b o hb e => oth b o (fun h => hb (h ▸ List.mem_cons_self)) e) hm) hS' hacc
end

section
variable {w : World} {A : Around} {E : Value → Shared → Prop} {s : Shared}
theorem Paired.ofAt {α β : Type} {R : α → β → Prop} : ∀ {l₁ : List α} {l₂ : List β}, l₁.length = l₂.length → (∀ (i : Nat) (a : α), l₁[i]? = some a → ∃ b, l₂[i]? = some b ∧ R a b) → Paired R l₁ l₂
  | [], [], _, _ => .nil
  | a :: l₁, b :: l₂, hl, h => by
    obtain ⟨b', e, r⟩ := h 0 a (by simp)
    simp at e; subst e
    exact .cons r (Paired.ofAt (by simpa using hl) fun i x hx => by simpa using h (i + 1) x (by simpa using hx))
  | [], b :: l₂, hl, _ => by simp at hl
  | a :: l₁, [], hl, _ => by simp at hl

theorem list_map_spec {l : Addr} {vs : List Value} {ps : List (List Nat)} {Q : Value → Shared → Prop} (G : Gr w s.heap) (hh : A.handled = none) (hr : A.depth < recursionLimit) (hl : s.heap.IsList l vs.toArray) (hv : Paired strV vs ps) (hok : ∀ p ∈ ps, (∀ c ∈ p, okSign c) ∧ p.length ≤ 1000) (hn : vs.length ≤ 1000000)
    (h : ∀ D o s' vs', Keeps s s' → s'.heap.get? D = some o → s.heap.get? D = none → LP o vs' → Paired strV vs' (ps.map esc) → Q (.ref D) s') :
    wpAny (model PG w) A (call (.type "map") [.ref 26, .ref l]) (fun m s₁ => wpAny (model PG w) A (call (.type "list") [m]) Q E s₁) E s := by
  refine call_map hl fun m t it s₁ k a b c n1 n2 n3 h12 h23 => ?_
  have G₁ := G.to k
  obtain ⟨ol, hol, _⟩ := id hl
  have hlt : it ∉ gAddrs w := fun q => by
    obtain ⟨o, e⟩ := G.live it q
    rw [n1] at e; cases e
  have hil : it ≠ l := fun q => by rw [q, hol] at n1; cases n1
  have itm : it ≠ m := Nat.ne_of_lt (Nat.lt_trans h12 h23)
  have itt : it ≠ t := Nat.ne_of_lt h12
  have W := (walks_map (w := w) (A := A.in1.in1) (m := m) (t := t) (it := it) (l := l) hh hr hv hok itm itt hil hlt).toS
  have hst : mapSt w m t it l vs 0 s₁.heap := ⟨a, b, ⟨_, c, rfl, rfl⟩, isList_keeps hl (kget k), G₁⟩
  have hfp : ∀ b ∈ [m, t, it, l] ++ gAddrs w, b < s₁.heap.objs.size := fun x hx => by
    rcases List.mem_append.mp hx with hx | hx
    · simp at hx
      rcases hx with rfl | rfl | rfl | rfl
      · exact Heap.lt_size a
      · exact Heap.lt_size b
      · exact Heap.lt_size c
      · exact Heap.lt_size (kget k _ _ hol)
    · obtain ⟨o, e⟩ := G₁.live x hx
      exact Heap.lt_size e
  have hSf : s₁.heap.objs.size ∉ [m, t, it, l] ++ gAddrs w := fun hm => Nat.lt_irrefl _ (hfp _ hm)
  refine callType_codes (Q₁ := fun obj s₂ => obj = .ref s₁.heap.objs.size ∧ s₂ = { s₁ with heap := s₁.heap.push { cls := .type "list", data := .seq #[] } }) F.called_list (F.typeCall_list_1 _) F.entry_list_init
    (code_list_new _ ⟨rfl, rfl⟩) fun obj s₂ h₂ => ?_
  obtain ⟨rfl, rfl⟩ := h₂
  have hS : (s₁.heap.push { cls := .type "list", data := .seq #[] }).get? s₁.heap.objs.size = some { cls := .type "list", data := .seq #[] } := Heap.get?_push_size _ rfl
  refine ⟨⟨_, hS, rfl⟩, F.args_list_init_2 _ _, list_init_map (hn := Nat.le_trans hn (by rw [sizeLine]; omega)) W (fun i s st => ⟨_, st.1, rfl⟩) _ (W.frame 0 s₁ _ s₁.toks hst (Nat.le_refl _) fun b _ o e => Heap.get?_push_of_some _ e) hSf (by simp) hS fun s' acc' c' hm hS' hacc => ?_⟩
  refine ⟨rfl, h s₁.heap.objs.size _ s' acc'.toList ?_ hS' (knone k (get_size _)) ⟨c', by simp⟩ ?_⟩
  · have e := Moved.eq_with hm
    obtain ⟨h₁, tk₁, rfl, k₁⟩ := k
    refine ⟨s'.heap, s'.toks, e, fun b o eb => hm.heap b o ?_ (Heap.get?_push_of_some _ (k₁ b o eb))⟩
    intro hb
    simp at hb
    rcases hb with rfl | rfl
    · exact absurd (Heap.lt_size (k₁ _ _ eb)) (Nat.lt_irrefl _)
    · rw [n1] at eb; cases eb
  · refine Paired.ofAt (by simp [hacc.1, Paired.len hv]) fun i v e => ?_
    obtain ⟨p, tk, hp, rfl⟩ := hacc.2 i v (by simpa using e)
    exact ⟨esc p, by simp [hp], tk, rfl⟩
end
end Mine

-- MCut
namespace Mine

/-- the path cut at its stars -/
def cut (path : List Nat) : List (List Nat) := (Txt.split (T path) (T [42])).map (·.cps.toList)
/-- glued with stars -/
def jn : List (List Nat) → List Nat
  | [] => []
  | [p] => p
  | p :: q :: r => p ++ 42 :: jn (q :: r)
theorem T_of (x : Str) : T x.cps.toList = x := by cases x; simp [T]
theorem cut_T (path : List Nat) : (cut path).map T = Txt.split (T path) (T [42]) := by
  unfold cut
  rw [List.map_map]
  refine (List.map_congr_left fun x _ => ?_).trans (List.map_id _)
  exact T_of x
theorem join_T : ∀ ps : List (List Nat), Str.join (T [42]) (ps.map T) = T (jn ps)
  | [] => rfl
  | [p] => rfl
  | p :: q :: r => by
    show T p ++ T [42] ++ Str.join (T [42]) ((q :: r).map T) = _
    rw [join_T (q :: r), T_app, T_app]
    simp [jn]
theorem cut_jn (path : List Nat) : jn (cut path) = path := by
  have := StrLaws.join_split (T path) (T [42])
  rw [← cut_T, join_T, T_inj] at this
  exact this
theorem cut_free (path : List Nat) : ∀ p ∈ cut path, 42 ∉ p := by
  intro p hp
  unfold cut at hp
  obtain ⟨x, hx, rfl⟩ := List.mem_map.mp hp
  exact StrLaws.split_free (T path) 42 x hx
theorem split_len (path : List Nat) (h : path ≠ []) : ((cut path).length : Int) = Txt.count (T path) (T [42]) + 1 := by
  unfold cut
  rw [List.length_map]
  unfold Txt.split Txt.count
  have h1 : (decide ((T path).length < (T [42]).length) || decide (Builtin.Str.strKind (T path) < Builtin.Str.strKind (T [42]))) = false := by
    have : 1 ≤ path.length := List.length_pos_iff.mpr h
    have e1 : (T [42]).length = 1 := by decide +kernel
    have e2 : Builtin.Str.strKind (T [42]) = 1 := by decide +kernel
    have e3 : 1 ≤ Builtin.Str.strKind (T path) := by unfold Builtin.Str.strKind; split <;> (try split) <;> omega
    rw [T_len, e1, e2, decide_eq_false (by omega), decide_eq_false (by omega)]; rfl
  rw [h1, if_neg (by decide)]
  split
  · rename_i h2
    have h2 := List.isEmpty_iff.mp h2
    rw [h2]; rfl
  · rw [length_partsBetween]; simp
theorem mem_jn : ∀ {ps : List (List Nat)} {p : List Nat}, p ∈ ps → (∀ c ∈ p, c ∈ jn ps) ∧ p.length ≤ (jn ps).length
  | [q], p, h => by
    have : p = q := by simpa using h
    subst this; exact ⟨fun c hc => hc, Nat.le_refl _⟩
  | q :: q' :: r, p, h => by
    rcases List.mem_cons.mp h with rfl | h
    · exact ⟨fun c hc => List.mem_append_left _ hc, by simp [jn]⟩
    · obtain ⟨h1, h2⟩ := mem_jn (ps := q' :: r) h
      refine ⟨fun c hc => List.mem_append_right _ (List.mem_cons_of_mem _ (h1 c hc)), ?_⟩
      simp only [jn, List.length_append, List.length_cons] at *
      omega
theorem cut_ne (path : List Nat) : cut path ≠ [] := by
  unfold cut
  intro h
  have : Txt.split (T path) (T [42]) = [] := List.map_eq_nil_iff.mp h
  unfold Txt.split at this
  split at this
  · cases this
  · split at this
    · cases this
    · have := congrArg List.length this
      rw [length_partsBetween] at this
      simp at this
/-- glued plainly -/
theorem glued_T : ∀ ps : List (List Nat), Txt.join (T []) (ps.map T) = T ps.flatten := by
  intro ps
  cases ps with
  | nil => rfl
  | cons p r =>
    have : ∀ (r : List (List Nat)) (acc : List Nat), (r.map T).foldl (fun (acc : Array Nat) (q : Str) => acc ++ (T []).cps ++ q.cps) acc.toArray = (acc ++ r.flatten).toArray := by
      intro r
      induction r with
      | nil => intro acc; simp
      | cons q r ih =>
        intro acc
        have e : acc.toArray ++ (T []).cps ++ (T q).cps = (acc ++ q).toArray := by simp [T]
        rw [List.map_cons, List.foldl_cons, e, ih]; simp
    show (⟨_⟩ : Str) = _
    have h := this r p
    simp only [List.map_cons, List.drop_succ_cons, List.drop_zero, List.headD_cons, List.flatten_cons]
    show (⟨(r.map T).foldl (fun (acc : Array Nat) (q : Str) => acc ++ (T []).cps ++ q.cps) p.toArray⟩ : Str) = _
    rw [h]; rfl
end Mine

-- MTp
namespace Mine

/-- a further piece, in its group -/
def G1 (e : List Nat) : List Nat := [40, 63, 62, 46, 42, 63] ++ e ++ [41]
def wrapTo (i : Nat) (es : List (List Nat)) : List (List Nat) := es.mapIdx fun j e => if 1 ≤ j ∧ j ≤ i then G1 e else e
/-- the parts of the pattern, the pattern -/
def partsOf (ps : List (List Nat)) : List (List Nat) := (wrapTo (ps.length - 2) (ps.map esc)).set (ps.length - 1) ([46, 42] ++ esc (ps.getD (ps.length - 1) []))
def patOf (ps : List (List Nat)) : List Nat := (partsOf ps).flatten

theorem wrapTo_zero (es : List (List Nat)) : wrapTo 0 es = es := by
  unfold wrapTo
  apply List.ext_getElem?
  intro j
  rw [List.getElem?_mapIdx]
  cases es[j]? with
  | none => rfl
  | some e => rw [Option.map_some, if_neg (by omega)]
theorem wrapTo_len (i : Nat) (es : List (List Nat)) : (wrapTo i es).length = es.length := by simp [wrapTo]
theorem wrapTo_at {i j : Nat} {es : List (List Nat)} {e : List Nat} (h : es[j]? = some e) (hj : i < j) : (wrapTo i es)[j]? = some e := by
  unfold wrapTo
  rw [List.getElem?_mapIdx, h, Option.map_some, if_neg (by omega)]
theorem wrapTo_succ {i : Nat} {es : List (List Nat)} {e : List Nat} (h : es[i + 1]? = some e) : (wrapTo i es).set (i + 1) (G1 e) = wrapTo (i + 1) es := by
  apply List.ext_getElem?
  intro j
  by_cases hj : i + 1 = j
  · subst hj
    have hlt : i + 1 < (wrapTo i es).length := by rw [wrapTo_len]; exact (List.getElem?_eq_some_iff.mp h).1
    rw [List.getElem?_set_self hlt]
    unfold wrapTo
    rw [List.getElem?_mapIdx, h, Option.map_some, if_pos (by omega)]
  · rw [List.getElem?_set_ne hj]
    unfold wrapTo
    rw [List.getElem?_mapIdx, List.getElem?_mapIdx]
    cases es[j]? with
    | none => rfl
    | some x =>
      rw [Option.map_some, Option.map_some]
      by_cases h1 : 1 ≤ j ∧ j ≤ i
      · rw [if_pos h1, if_pos (by omega)]
      · rw [if_neg h1, if_neg (by omega)]

theorem strs_of : ∀ {vs : List Value} {qs : List (List Nat)}, Paired strV vs qs → ∃ l : List (Str × Tok), vs = strValues l ∧ l.map (·.1) = qs.map T
  | _, _, .nil => ⟨[], rfl, rfl⟩
  | _, _, .cons ⟨t, e⟩ r => by
    obtain ⟨l, h1, h2⟩ := strs_of r
    subst e h1
    exact ⟨(T _, t) :: l, rfl, by rw [List.map_cons, List.map_cons, h2]⟩
theorem of_strs : ∀ (l : List (Str × Tok)), Paired strV (strValues l) ((l.map (·.1)).map (·.cps.toList))
  | [] => .nil
  | (x, t) :: r => .cons ⟨t, by rw [T_of]⟩ (of_strs r)
theorem joinOk_T (qs : List (List Nat)) (h : qs.flatten.length ≤ 1000000) : JoinOk (T []) (qs.map T) = true := by
  have : ∀ (qs : List (List Nat)) (n : Nat), (qs.map T).foldl (fun a t => a + t.length + (T []).length) n = n + qs.flatten.length := by
    intro qs
    induction qs with
    | nil => intro n; simp
    | cons q r ih =>
      intro n
      rw [List.map_cons, List.foldl_cons, ih, T_len, T_len]; simp; omega
  unfold JoinOk
  rw [List.foldl_toArray, this]
  simp [Builtin.Str.tooLong, sizeLine]
  simp at h
  omega
theorem flatten_le : ∀ (qs : List (List Nat)) (b : Nat), (∀ q ∈ qs, q.length ≤ b) → qs.flatten.length ≤ b * qs.length
  | [], b, _ => by simp
  | q :: r, b, h => by
    have h1 := h q List.mem_cons_self
    have h2 := flatten_le r b fun x hx => h x (List.mem_cons_of_mem _ hx)
    rw [List.flatten_cons, List.length_append, List.length_cons, Nat.mul_succ]; omega
theorem jn_len : ∀ ps : List (List Nat), ps.length ≤ (jn ps).length + 1
  | [] => by simp
  | [p] => by simp
  | p :: q :: r => by
    have := jn_len (q :: r)
    simp only [jn, List.length_append, List.length_cons] at *
    omega
theorem partsOf_le {ps : List (List Nat)} (h : ∀ p ∈ ps, p.length ≤ 20) : ∀ q ∈ partsOf ps, q.length ≤ 47 := by
  intro q hq
  unfold partsOf at hq
  have hg : ∀ x ∈ wrapTo (ps.length - 2) (ps.map esc), x.length ≤ 47 := by
    intro x hx
    unfold wrapTo at hx
    obtain ⟨j, hj⟩ := List.getElem?_of_mem hx
    rw [List.getElem?_mapIdx] at hj
    cases he : (ps.map esc)[j]? with
    | none => rw [he] at hj; cases hj
    | some e =>
      rw [he, Option.map_some] at hj
      obtain ⟨p, hp, rfl⟩ := List.mem_map.mp (List.mem_of_getElem? he)
      have h1 := esc_len p
      have h2 := h p hp
      split at hj
      · cases hj; simp [G1]; omega
      · cases hj; omega
  rcases List.mem_or_eq_of_mem_set hq with h1 | h1
  · exact hg q h1
  · subst h1
    have h1 := esc_len (ps.getD (ps.length - 1) [])
    have h2 : (ps.getD (ps.length - 1) []).length ≤ 20 := by
      rw [List.getD_eq_getElem?_getD]
      cases he : ps[ps.length - 1]? with
      | none => simp
      | some p => exact h p (List.mem_of_getElem? he)
    rw [List.length_append]
    show 2 + _ ≤ 47
    omega
theorem patOf_le {ps : List (List Nat)} (h : ∀ p ∈ ps, p.length ≤ 20) (hn : ps.length ≤ 21) : (patOf ps).length ≤ 1000 := by
  have := flatten_le (partsOf ps) 47 (partsOf_le h)
  have e : (partsOf ps).length = ps.length := by simp [partsOf, wrapTo_len]
  unfold patOf
  rw [e] at this
  omega
end Mine

-- MTp2
namespace Mine
section
variable {w : World} {A : Around} {E : Value → Shared → Prop} {s : Shared}

theorem str_meth1 {env : Env} {o e : Expr} {name : Str} {apos pos : Pos} {id : String} {Q : Value → Shared → Prop}
    (h : wpAny (model PG w) A (eval o env) (fun ov s₁ => ∃ x t, ov = .str x t ∧ wpAny (model PG w) A (eval e env) (fun v s₂ => wpAny (model PG w) A (call (.builtin id) [.str x t, v]) Q E s₂) E s₁) E s)
    (slot : Slot "str" name id) (hty : typeOf (.builtin id) = pure (.type "method_descriptor"))
    (hbase : attributeBase o name env (eval o env) = eval o env := by rfl)
    (hs : starEach [e] env = [(false, eval e env)] := by rfl) (hline : (apos.endLine == pos.line) = true := by rfl) :
    wpAny (model PG w) A (eval (.Call (.Attribute o name apos) [e] [] pos) env) Q E s := by
  have hb : backTo pos (starEach [e] env) = [(false, eval e env)] := by rw [hs]; rfl
  refine wpAny_Call_method (T := "str") (id := id) hbase (by rw [hb]; rfl) hline PySem.F.plainAttrs_str slot hty (wpAny_mono h (fun ov s₁ h₁ => ?_) fun _ _ x => x)
  obtain ⟨x, t, rfl, h₁⟩ := h₁
  refine ⟨typeIs_str _ _ _, (by intro a e; cases e), ?_⟩
  rw [hb]
  exact Calls.callWith_builtin rfl (Calls.evalArgs_plain (Calls.spliced_cons (wpAny_mono h₁ (fun v s₂ h₂ => Calls.spliced_nil h₂) fun _ _ e => e)))

theorem split_spec {path : List Nat} {y : Str} {t u : Tok} {Q : Value → Shared → Prop} (hy : y = T [42]) (hp : path.length ≤ 1000) (h : ∀ D s' vs, Keeps s s' → s'.heap.IsList D vs.toArray → Paired strV vs (cut path) → Q (.ref D) s') :
    wpAny (model PG w) A (call (.builtin "str.split") [.str (T path) t, .str y u]) Q E s := by
  subst hy
  refine SCG.split1 (Fm := fun s' => Keeps s s') (fun s' ob k x => kt x (kpush _ _ _)) krfl (by decide +kernel) (fun D l s' hl hF hI => h D s' (strValues l) hF hI ?_) (by rw [T_len, sizeLine]; omega) ?_
  · have := of_strs l
    rw [hl] at this
    exact this
  · rw [length_partsBetween]
    have := StrLaws.occ_length_le (T path) (T [42]) 0 (T path).length ((T path).length + 1)
    rw [T_len] at this ⊢
    rw [sizeLine]; omega

theorem join_spec {D : Addr} {vs : List Value} {qs : List (List Nat)} {x : Str} {t : Tok} {Q : Value → Shared → Prop} (hx : x = T []) (hl : s.heap.IsList D vs.toArray) (hv : Paired strV vs qs) (hsz : qs.flatten.length ≤ 1000000)
    (h : ∀ t' k, Q (.str (T qs.flatten) t') { s with toks := k }) : wpAny (model PG w) A (call (.builtin "str.join") [.str x t, .ref D]) Q E s := by
  subst hx
  obtain ⟨l, rfl, hlq⟩ := strs_of hv
  exact SC.join hl hlq (joinOk_T qs hsz) fun t' k => by rw [glued_T]; exact h t' k

set_option maxHeartbeats 4000000 in
theorem tp_spec {Q : Value → Shared → Prop} {path : List Nat} {tp : Tok} (G : Gr w s.heap) (hr : A.depth + 1 < recursionLimit) (hh : A.handled = none) (hp : path.length ≤ 20) (hok : ∀ c ∈ path, okSign c ∨ c = 42) (h2 : 2 ≤ (cut path).length)
    (h : ∀ t' s', Keeps s s' → Q (.str (T (patOf (cut path))) t') s') : wpAny (model PG w) A (call (.ref 33) [.str (T path) tp]) Q E s := by
  refine enter 33 [("path", .str (T path) tp)] [("path", .str (T path) tp)] [] G (by omega) ?_
  intro L s₁ E' hL F
  have hd : (A.deeper (envK w L 33)).depth < recursionLimit := by show A.depth + 1 < recursionLimit; exact hr
  have hmem : ∀ p ∈ cut path, (∀ c ∈ p, okSign c) ∧ p.length ≤ 20 := fun p hpm => by
    obtain ⟨h1, h2⟩ := mem_jn hpm
    rw [cut_jn] at h1 h2
    refine ⟨fun c hc => ?_, by omega⟩
    rcases hok c (h1 c hc) with q | q
    · exact q
    · subst q; exact absurd hc (cut_free path p hpm)
  have hlen : (cut path).length ≤ 21 := by have := jn_len (cut path); rw [cut_jn] at this; omega
  have hpat := patOf_le (fun p hp => (hmem p hp).2) hlen
  generalize hps : cut path = ps at *
  refine wpAny_execs_cons (wpAny_Assign_Name (F.callt1 (T := "list") G (F.callt2 (T := "map") G (F.gl (v := .ref 26) G ?_))))
  refine str_meth1 (F.ld rfl ⟨_, _, rfl, Calls.Constant_str (split_spec (by decide +kernel) (by omega) fun l s₂ vs k₂ hl hv => ?_)⟩) PySem.F.slot_str_split PySem.F.type_str_split
  rw [hps] at hv
  have k₂ : Keeps s₁ s₂ := kt (ktok _) k₂
  refine list_map_spec ((F.kp k₂).gr G) hh hd hl hv (fun p hp => ⟨(hmem p hp).1, by have := (hmem p hp).2; omega⟩) (by have := Paired.len hv; omega) fun D o s₃ vs₃ k₃ ho hn lp hv₃ => ?_
  refine ((F.kp k₂).mk1 k₃ ho hn).st fun s₄ F₄ => ?_
  have F₄ : Fn s (envK w L 33) [("parts", .ref D)] [] [(D, o)] s₄ := F₄.weakl rfl
  have lv : vs₃.length = ps.length := by have := Paired.len hv₃; simpa using this
  have hle : (ps.map esc).length = ps.length := by simp
  refine wpAny_execs_cons (F₄.forRange (a := 1) (b := (ps.length : Int) - 1) hh (by decide) (by decide) (by omega) (by omega) (fun E₅ Q₅ hq => ?_)
    (fun i l c N => ∃ o vs, l = ([("parts", .ref D)] : LV) ∧ c = ([] : LV) ∧ N = [(D, o)] ∧ LO o vs ∧ Paired strV vs (wrapTo i (ps.map esc))) ⟨o, vs₃, rfl, rfl, rfl, lp.lo, by rw [wrapTo_zero]; exact hv₃⟩ ?_ ?_)
  · obtain ⟨hg, _, _⟩ := (F₄.tk (s₄.toks + 1)).new (D, o) (by simp)
    refine F₄.callt2 G (wpAny_Constant_int (wpAny_BinOp ((F₄.tk _).callb1 G ((F₄.tk _).ld rfl (len_list (lp.lo.isList hg) (by simp; omega) (wpAny_Constant_int (sub_int (call_range_2 ?_))))))))
    rw [show (vs₃.toArray.size : Int) = ps.length by simp [lv]]
    exact hq _ _ _ _ _ (IsRange.new ..) (kt (ktok _) (kpush _ _ _))
  · rintro I oI i ti l c N s₅ E₅ hi ⟨o₅, vs₅, rfl, rfl, rfl, lp₅, hv₅⟩ F₅
    have lv₅ : vs₅.length = ps.length := by have := Paired.len hv₅; rw [wrapTo_len] at this; simpa using this
    obtain ⟨e, he⟩ := item_of (l := ps.map esc) (i := i + 1) (by omega)
    obtain ⟨p, hpp, rfl⟩ : ∃ p, ps[i + 1]? = some p ∧ e = esc p := by
      rw [List.getElem?_map] at he
      cases hq : ps[i + 1]? with
      | none => rw [hq] at he; cases he
      | some p => rw [hq] at he; cases he; exact ⟨p, rfl, rfl⟩
    have hel : (esc p).length ≤ 40 := by have := esc_len p; have := (hmem p (List.mem_of_getElem? hpp)).2; omega
    obtain ⟨v, hvi, tv, rfl⟩ := Paired.at hv₅ (wrapTo_at (i := i) he (by omega))
    have hix : ((1 : Int) + i).toNat = i + 1 := by omega
    have F₅ := F₅.perm (N' := (D, o₅) :: [(I, oI)]) (List.Perm.swap ..)
    refine wpAny_assign_Name (F₅.st fun s₆ F₆ => ?_)
    obtain ⟨hg, _, _⟩ := F₆.new (D, o₅) (by simp)
    obtain ⟨hg', _, _⟩ := (F₆.tk (s₆.toks + 1)).new (D, o₅) (by simp)
    refine wpAny_execs_cons (wpAny_Assign_Subscript (JoinedStr_many (joinParts_cons (Calls.Constant_str ⟨by decide +kernel, joinParts_cons (FormattedValue_plain (Subscript_ ((F₆.tk _).ld rfl ((F₆.tk _).ld rfl (item_any (lp₅.isList hg') (by omega) (by omega) (x := .str (T (esc p)) tv) (by rw [hix]; simpa using hvi) ?_)))))⟩))))
    have e1 : Str.empty ++ Str.ofString "(?>.*?" = T [40, 63, 62, 46, 42, 63] := by decide +kernel
    have e2 : Str.ofString ")" = T [41] := by decide +kernel
    rw [e1]
    refine formatField_str (fun t' tk => ⟨by rw [T_app, T_len, sizeLine]; simp; omega, ?_⟩) (by rw [T_len, sizeLine]; omega)
    refine joinParts_cons (Calls.Constant_str (k := 0) ⟨by rw [T_app, e2, T_app, T_len, sizeLine]; simp; omega, joinParts_nil ?_ (by rw [T_app, e2, T_app, T_len, sizeLine]; simp; omega)⟩)
    rw [T_app, e2, T_app]
    have F₇ := F₆.tk (tk + 1 + 1)
    obtain ⟨hg7, _, _⟩ := F₇.new (D, o₅) (by simp)
    refine F₇.ld rfl (F₇.ld rfl (set_at hg7 lp₅ (by omega) (by omega) (by omega) fun o' h' ho' lp' hs' => ?_))
    have F₈ := (F₇.upd (tk := tk + 1 + 1) (fun b ob hb e => hs'.extBut b ob hb e) ho')
    refine wpAny_execs_nil ⟨_, _, _, ⟨o', _, rfl, rfl, rfl, lp', ?_⟩, ?_⟩
    · rw [hix, ← wrapTo_succ he]
      exact Paired.set ⟨_, rfl⟩ _ hv₅
    · exact (F₈.perm (List.Perm.swap ..)).weakl rfl
  · rintro l c N s₅ ⟨o₅, vs₅, rfl, rfl, rfl, lp₅, hv₅⟩ F₅
    have hn2 : ((ps.length : Int) - 1 - 1).toNat = ps.length - 2 := by omega
    rw [hn2] at hv₅
    have lv₅ : vs₅.length = ps.length := by have := Paired.len hv₅; rw [wrapTo_len] at this; simpa using this
    obtain ⟨p, hpp⟩ := item_of (l := ps) (i := ps.length - 1) (by omega)
    have hel : (esc p).length ≤ 40 := by have := esc_len p; have := (hmem p (List.mem_of_getElem? hpp)).2; omega
    obtain ⟨v, hvi, tv, rfl⟩ := Paired.at hv₅ (wrapTo_at (i := ps.length - 2) (j := ps.length - 1) (e := esc p) (by rw [List.getElem?_map, hpp]; rfl) (by omega))
    have ix : ((-1 : Int) + (vs₅.toArray.size : Nat)).toNat = ps.length - 1 := by simp [lv₅]; omega
    have ix' : ((-1 : Int) + (vs₅.length : Nat)).toNat = ps.length - 1 := by omega
    obtain ⟨hg', _, _⟩ := (F₅.tk (s₅.toks + 1 + 1 + 1)).new (D, o₅) (by simp)
    refine wpAny_execs_cons (wpAny_Assign_Subscript (JoinedStr_many (joinParts_cons (Calls.Constant_str ⟨by decide +kernel, joinParts_cons (FormattedValue_plain (Subscript_ ((F₅.tk _).ld rfl (UnaryOp_ (wpAny_Constant_int (neg_int (item_neg (lp₅.isList hg') (by decide) (by simp; omega) (by decide) (x := .str (T (esc p)) tv) (by rw [ix]; simpa using hvi) ?_)))))))⟩))))
    have e1 : Str.empty ++ Str.ofString ".*" = T [46, 42] := by decide +kernel
    rw [e1]
    refine formatField_str (fun t' tk => ⟨by rw [T_app, T_len, sizeLine]; simp; omega, joinParts_nil ?_ (by rw [T_app, T_len, sizeLine]; simp; omega)⟩) (by rw [T_len, sizeLine]; omega)
    rw [T_app]
    have F₇ := F₅.tk (tk + 1)
    obtain ⟨hg7, _, _⟩ := (F₇.tk (tk + 1 + 1 + 1)).new (D, o₅) (by simp)
    refine F₇.ld rfl (UnaryOp_ (wpAny_Constant_int (neg_int (set_neg hg7 lp₅ (by decide) (by omega) (by decide) fun o' h' ho' lp' _ hs' => ?_))))
    have F₈ := ((F₇.tk (tk + 1 + 1 + 1)).upd (tk := tk + 1 + 1 + 1) (fun b ob hb e => hs'.extBut b ob hb e) ho')
    obtain ⟨hg8, _, _⟩ := F₈.new (D, o') (by simp)
    have hv' : Paired strV (vs₅.set ((-1 : Int) + (vs₅.length : Nat)).toNat (Value.str (T ([46, 42] ++ esc p)) tk)) (partsOf ps) := by
      unfold partsOf
      rw [ix', getD_of hpp]
      exact Paired.set ⟨_, rfl⟩ _ hv₅
    refine wpAny_execs_cons (wpAny_Return_some (str_meth1 (Calls.Constant_str ⟨_, _, rfl, (F₈.tk _).ld rfl (join_spec (by decide +kernel) (lp'.isList hg8) hv' (by show (patOf ps).length ≤ _; omega) fun t' k => ?_)⟩) PySem.F.slot_str_join PySem.F.type_str_join))
    exact h _ _ ((F₈.tk _).base)
end
end Mine

-- MParse
namespace Mine

theorem setLast_app (i : List (List Nat)) (q p : List Nat) : setLast (i ++ [q]) p = i ++ [p] := by
  unfold setLast
  rw [List.length_append, List.length_singleton, Nat.add_sub_cancel, List.set_append_right _ _ (Nat.le_refl _)]
  simp

/-- the reading of an escaped piece -/
theorem parse_esc {part : Nat} (hpart : part ≠ 2) : ∀ (p : List Nat) (rest : List Nat) (i : List (List Nat)) (q : List Nat) (r : List (List Nat)), (∀ c ∈ p, okSign c) → Parses rest part (i ++ [q ++ p]) r → Parses (esc p ++ rest) part (i ++ [q]) r
  | [], rest, i, q, r, _, h => by simpa [esc] using h
  | c :: p, rest, i, q, r, hok, h => by
    have hc := hok c List.mem_cons_self
    have ih := parse_esc hpart p rest i (q ++ [c]) r (fun x hx => hok x (List.mem_cons_of_mem _ hx)) (by simpa using h)
    have hcc : (c = 97 ∨ c = 98) ∨ (c = 46 ∨ c = 63) := by unfold okSign at hc; omega
    rcases hcc with hc' | hc'
    · have e1 : esc1 c = [c] := by unfold esc1; rw [if_neg (by omega)]
      have e : esc (c :: p) ++ rest = c :: (esc p ++ rest) := by simp [esc, e1]
      rw [e]
      refine .step (n := 1) (part' := part) (pcs' := i ++ [q ++ [c]]) (by simp) (by simp) ?_ (by simpa using ih)
      unfold parse1
      rw [if_pos ⟨hpart, by simpa using hc'⟩, lastOf_app, setLast_app]
      simp
    · have e1 : esc1 c = [92, c] := by unfold esc1; rw [if_pos (by omega)]
      have e : esc (c :: p) ++ rest = 92 :: c :: (esc p ++ rest) := by simp [esc, e1]
      rw [e]
      refine .step (n := 2) (part' := part) (pcs' := i ++ [q ++ [c]]) (by simp) (by simp) ?_ (by simpa using ih)
      unfold parse1
      rw [if_neg (by simp), if_pos ⟨hpart, by simpa using hc'⟩, lastOf_app, setLast_app]
      simp
theorem parse_group {part : Nat} (hpart : part = 0 ∨ part = 2) {p rest : List Nat} {pcs r : List (List Nat)} (hok : ∀ c ∈ p, okSign c) (h : Parses rest 2 (pcs ++ [p]) r) : Parses (G1 (esc p) ++ rest) part pcs r := by
  have e : G1 (esc p) ++ rest = 40 :: 63 :: 62 :: 46 :: 42 :: 63 :: (esc p ++ (41 :: rest)) := by simp [G1]
  rw [e]
  refine .step (n := 6) (part' := 1) (pcs' := pcs ++ [[]]) (by simp) (by simp) ?_ ?_
  · unfold parse1
    rw [if_neg (by simp), if_neg (by simp), if_neg (by simp), if_pos ⟨hpart, by simp⟩]
  · show Parses (esc p ++ (41 :: rest)) 1 (pcs ++ [[]]) r
    refine parse_esc (by decide) p (41 :: rest) pcs [] r hok ?_
    refine .step (n := 1) (part' := 2) (pcs' := pcs ++ [[] ++ p]) (by simp) (by simp) ?_ (by simpa using h)
    unfold parse1
    rw [if_neg (by simp), if_neg (by simp), if_pos ⟨rfl, by simp⟩]
theorem parse_last {part : Nat} (hpart : part = 0 ∨ part = 2) {p : List Nat} {pcs : List (List Nat)} (hok : ∀ c ∈ p, okSign c) : Parses ([46, 42] ++ esc p) part pcs (pcs ++ [p]) := by
  refine .step (n := 2) (part' := 3) (pcs' := pcs ++ [[]]) (by simp) (by simp) ?_ ?_
  · unfold parse1
    rw [if_neg (by simp), if_neg (by simp), if_neg (by simp), if_neg (by simp), if_pos ⟨hpart, by simp⟩]
  · show Parses (esc p) 3 (pcs ++ [[]]) (pcs ++ [p])
    have := parse_esc (part := 3) (by decide) p [] pcs [] (pcs ++ [p]) hok (by simpa using Parses.done)
    simpa using this
theorem parse_tail : ∀ (mid : List (List Nat)) (pl : List Nat) (part : Nat) (pcs : List (List Nat)), (part = 0 ∨ part = 2) → (∀ p ∈ mid, ∀ c ∈ p, okSign c) → (∀ c ∈ pl, okSign c) → Parses ((mid.map fun p => G1 (esc p)).flatten ++ ([46, 42] ++ esc pl)) part pcs (pcs ++ mid ++ [pl])
  | [], pl, part, pcs, hp, _, hl => by simpa using parse_last hp hl
  | p :: mid, pl, part, pcs, hp, hm, hl => by
    have ih := parse_tail mid pl 2 (pcs ++ [p]) (.inr rfl) (fun q hq => hm q (List.mem_cons_of_mem _ hq)) hl
    have := parse_group hp (hm p List.mem_cons_self) ih
    simpa using this
theorem partsOf_eq (p0 pl : List Nat) (mid : List (List Nat)) : partsOf (p0 :: (mid ++ [pl])) = esc p0 :: ((mid.map fun p => G1 (esc p)) ++ [[46, 42] ++ esc pl]) := by
  have hl : (p0 :: (mid ++ [pl])).length = mid.length + 2 := by simp
  unfold partsOf
  rw [hl]
  have e1 : mid.length + 2 - 2 = mid.length := by omega
  have e2 : mid.length + 2 - 1 = mid.length + 1 := by omega
  rw [e1, e2]
  have hg : (p0 :: (mid ++ [pl])).getD (mid.length + 1) [] = pl := by
    rw [List.getD_eq_getElem?_getD, List.getElem?_cons_succ, List.getElem?_append_right (Nat.le_refl _)]; simp
  rw [hg]
  apply List.ext_getElem?
  intro j
  by_cases hj : mid.length + 1 = j
  · subst hj
    rw [List.getElem?_set_self (by rw [wrapTo_len]; simp), List.getElem?_cons_succ, List.getElem?_append_right (by simp)]
    simp
  · rw [List.getElem?_set_ne hj]
    unfold wrapTo
    rw [List.getElem?_mapIdx]
    cases j with
    | zero => simp
    | succ j =>
      rw [List.map_cons, List.getElem?_cons_succ, List.getElem?_cons_succ, List.map_append]
      rcases Nat.lt_or_ge j mid.length with h | h
      · rw [List.getElem?_append_left (by simpa using h), List.getElem?_append_left (by simpa using h), List.getElem?_map, List.getElem?_map]
        rw [List.getElem?_eq_getElem h]
        simp only [Option.map_some]
        rw [if_pos (by omega)]
      · rw [List.getElem?_append_right (by simpa using h), List.getElem?_append_right (by simpa using h)]
        have : j - mid.length ≠ 0 := by omega
        simp [this]
theorem parse_pat {ps : List (List Nat)} (h2 : 2 ≤ ps.length) (hok : ∀ p ∈ ps, ∀ c ∈ p, okSign c) : Parses (patOf ps) 0 [[]] ps := by
  obtain ⟨p0, qs, rfl⟩ : ∃ p0 qs, ps = p0 :: qs := by cases ps with | nil => simp at h2 | cons a b => exact ⟨a, b, rfl⟩
  have hq : qs ≠ [] := by rintro rfl; simp at h2
  obtain ⟨mid, pl, rfl⟩ : ∃ mid pl, qs = mid ++ [pl] := ⟨qs.dropLast, qs.getLast hq, (List.dropLast_concat_getLast hq).symm⟩
  have e : patOf (p0 :: (mid ++ [pl])) = esc p0 ++ ((mid.map fun p => G1 (esc p)).flatten ++ ([46, 42] ++ esc pl)) := by
    unfold patOf
    rw [partsOf_eq]; simp
  rw [e]
  refine parse_esc (part := 0) (by decide) p0 _ [] [] _ (hok p0 List.mem_cons_self) ?_
  have := parse_tail mid pl 0 [p0] (.inl rfl) (fun p hp => hok p (List.mem_cons_of_mem _ (List.mem_append_left _ hp))) (hok pl (by simp))
  simpa using this
end Mine

-- MPlain
namespace Mine

section
variable (t : List Nat)
/-- a word's effect on the places -/
def W (p : List Nat) (L : List Int) : List Int := (L.filter fun k => stands p t k.toNat).map fun k => k + (p.length : Int)

theorem stands_cons (c : Nat) (p : List Nat) (k : Nat) : stands (c :: p) t k = ((t.drop k).take 1 == [c] && stands p t (k + 1)) := by
  unfold stands
  rw [← List.drop_drop]
  cases t.drop k with
  | nil => simp
  | cons x r => simp [List.take_succ_cons]

theorem fold_word : ∀ (p : List Nat) (L : List Int), (∀ c ∈ p, c ≠ 42) → (∀ k ∈ L, 0 ≤ k) → p.foldl (step1 t) L = W t p L
  | [], L, _, _ => by
    have : (L.filter fun k => stands [] t k.toNat) = L := List.filter_eq_self.mpr fun k _ => by simp [stands]
    simp [W, this]
  | c :: p, L, hc, hL => by
    have h1 : step1 t L c = (L.filter fun k => (t.drop k.toNat).take 1 == [c]).map (· + 1) := by
      rw [step1.eq_def, if_pos (hc c List.mem_cons_self)]
    rw [List.foldl_cons, h1, fold_word p _ (fun x hx => hc x (List.mem_cons_of_mem _ hx)) (fun k hk => by
      obtain ⟨j, hj, rfl⟩ := List.mem_map.mp hk
      have := hL j (List.mem_filter.mp hj).1
      omega)]
    unfold W
    rw [List.filter_map, List.map_map, List.filter_filter]
    have e : (L.filter fun k => (((fun k => stands p t k.toNat) ∘ fun x => x + 1) k && ((t.drop k.toNat).take 1 == [c]))) = L.filter fun k => stands (c :: p) t k.toNat := by
      refine List.filter_congr fun k hk => ?_
      have := hL k hk
      rw [stands_cons, Bool.and_comm]
      have e2 : (k + 1).toNat = k.toNat + 1 := by omega
      simp [e2]
    rw [e]
    refine List.map_congr_left fun k _ => ?_
    simp; omega

theorem W_bd {p : List Nat} {L : List Int} (h : ∀ k ∈ L, 0 ≤ k ∧ k ≤ t.length) : ∀ k ∈ W t p L, 0 ≤ k ∧ k ≤ t.length := by
  intro k hk
  obtain ⟨j, hj, rfl⟩ := List.mem_map.mp hk
  obtain ⟨h1, h2⟩ := List.mem_filter.mp hj
  have := h j h1
  have h3 : ((t.drop j.toNat).take p.length).length = p.length := by
    have : (t.drop j.toNat).take p.length = p := by simpa [stands] using h2
    rw [this]
  rw [List.length_take, List.length_drop] at h3
  omega

/-- the places from k on, by the row -/
theorem row_from {p : List Nat} {k : Int} (h0 : 0 ≤ k) (h1 : k ≤ t.length) : ((upTo k ((t.length : Int) + 1 - k).toNat).filter fun j => stands p t j.toNat) = (places p t).filter fun j => decide (k ≤ j) := by
  unfold places
  rw [List.filter_filter]
  obtain ⟨m, rfl⟩ : ∃ m : Nat, k = m := ⟨k.toNat, by omega⟩
  have e1 : ((t.length : Int) + 1 - m).toNat = t.length + 1 - m := by omega
  rw [e1]
  have hm : m ≤ t.length := by omega
  -- both are the whole row, filtered
  have whole : ∀ a b : Nat, upTo 0 (a + b) = upTo 0 a ++ upTo a b := by
    intro a b
    unfold upTo
    rw [List.range_add, List.map_append, List.map_map]
    congr 1
    refine List.map_congr_left fun i _ => ?_
    simp
  have hA : (upTo 0 (t.length + 1)).filter (fun j => decide ((m : Int) ≤ j) && stands p t j.toNat) = (upTo (m : Int) (t.length + 1 - m)).filter fun j => stands p t j.toNat := by
    have : t.length + 1 = m + (t.length + 1 - m) := by omega
    rw [this, whole, List.filter_append]
    have h1 : (upTo 0 m).filter (fun j => decide ((m : Int) ≤ j) && stands p t j.toNat) = [] := by
      rw [List.filter_eq_nil_iff]
      intro j hj
      have := mem_upTo hj
      simp; intro; omega
    have e2 : m + (t.length + 1 - m) - m = t.length + 1 - m := by omega
    rw [h1, List.nil_append, e2]
    refine List.filter_congr fun j hj => ?_
    have := mem_upTo hj
    simp; intro; omega
  have hB : (upTo 0 (t.length + 1)).filter (fun j => decide ((m : Int) ≤ j) && stands p t j.toNat) = (upTo 0 (t.length + 1 - p.length)).filter fun j => decide ((m : Int) ≤ j) && stands p t j.toNat := by
    rcases Nat.le_total p.length (t.length + 1) with hp | hp
    · have : t.length + 1 = (t.length + 1 - p.length) + p.length := by omega
      rw [this, whole, List.filter_append]
      have e3 : t.length + 1 - p.length + p.length - p.length = t.length + 1 - p.length := by omega
      rw [e3]
      have h1 : (upTo ((t.length + 1 - p.length : Nat) : Int) p.length).filter (fun j => decide ((m : Int) ≤ j) && stands p t j.toNat) = [] := by
        rw [List.filter_eq_nil_iff]
        intro j hj
        have := mem_upTo hj
        have h3 : stands p t j.toNat = false := by
          unfold stands
          rw [beq_eq_false_iff_ne]
          intro q
          have := congrArg List.length q
          rw [List.length_take, List.length_drop] at this
          omega
        simp [h3]
      rw [h1, List.append_nil]
    · have e0 : t.length + 1 - p.length = 0 := by omega
      rw [e0]
      have : (upTo 0 (t.length + 1)).filter (fun j => decide ((m : Int) ≤ j) && stands p t j.toNat) = [] := by
        rw [List.filter_eq_nil_iff]
        intro j hj
        have := mem_upTo hj
        have h3 : stands p t j.toNat = false := by
          unfold stands
          rw [beq_eq_false_iff_ne]
          intro q
          have := congrArg List.length q
          rw [List.length_take, List.length_drop] at this
          omega
        simp [h3]
      rw [this]; rfl
  rw [← hA, hB]

/-- the halving, from the place on -/
def H : Option Int → List (List Nat) → List Int
  | none, _ => []
  | some _, [] => []
  | some k, [q] => ((places q t).filter fun j => decide (k ≤ j)).map fun j => j + (q.length : Int)
  | some k, q :: q' :: r => H (((places q t).find? fun j => decide (k ≤ j)).map fun j => j + (q.length : Int)) (q' :: r)

theorem fold_nil : ∀ p : List Nat, p.foldl (step1 t) [] = []
  | [] => rfl
  | c :: p => by
    have : step1 t [] c = [] := by rw [step1.eq_def]; split <;> rfl
    rw [List.foldl_cons, this, fold_nil p]

theorem fold_star : ∀ (qs : List (List Nat)) (M : List Int), qs ≠ [] → (∀ q ∈ qs, ∀ c ∈ q, c ≠ 42) → (∀ k ∈ M, 0 ≤ k ∧ k ≤ t.length) → (42 :: jn qs).foldl (step1 t) M = H t M.head? qs
  | qs, [], _, _, _ => by
    have e : H t ([] : List Int).head? qs = [] := by cases qs <;> rfl
    rw [e, fold_nil]
  | [q], k :: M, _, hq, hM => by
    have hk := hM k List.mem_cons_self
    have e : step1 t (k :: M) 42 = upTo k ((t.length : Int) + 1 - k).toNat := by rw [step1.eq_def, if_neg (by simp)]
    rw [List.foldl_cons, e]
    show q.foldl (step1 t) _ = _
    rw [fold_word t q _ (hq q List.mem_cons_self) (fun j hj => by have := mem_upTo hj; omega)]
    unfold W
    rw [row_from t hk.1 hk.2]
    rfl
  | q :: q' :: r, k :: M, _, hq, hM => by
    have hk := hM k List.mem_cons_self
    have e : step1 t (k :: M) 42 = upTo k ((t.length : Int) + 1 - k).toNat := by rw [step1.eq_def, if_neg (by simp)]
    have hup : ∀ j ∈ upTo k ((t.length : Int) + 1 - k).toNat, 0 ≤ j ∧ j ≤ t.length := fun j hj => by have := mem_upTo hj; omega
    rw [List.foldl_cons, e]
    show (q ++ 42 :: jn (q' :: r)).foldl (step1 t) _ = _
    rw [List.foldl_append, fold_word t q _ (hq q List.mem_cons_self) (fun j hj => (hup j hj).1)]
    rw [fold_star (q' :: r) _ (by simp) (fun x hx => hq x (List.mem_cons_of_mem _ hx)) (W_bd t hup)]
    have : (W t q (upTo k ((t.length : Int) + 1 - k).toNat)).head? = ((places q t).find? fun j => decide (k ≤ j)).map fun j => j + (q.length : Int) := by
      unfold W
      rw [row_from t hk.1 hk.2, List.head?_map, List.head?_filter]
    rw [this]
    rfl

theorem mem_places {p : List Nat} {k : Int} (h0 : 0 ≤ k) (h1 : k ≤ t.length) : k ∈ places p t ↔ stands p t k.toNat = true := by
  unfold places
  rw [List.mem_filter]
  constructor
  · exact fun h => h.2
  · intro h
    refine ⟨?_, h⟩
    have h3 : ((t.drop k.toNat).take p.length).length = p.length := by
      have : (t.drop k.toNat).take p.length = p := by simpa [stands] using h
      rw [this]
    rw [List.length_take, List.length_drop] at h3
    simp only [upTo, List.mem_map, List.mem_range]
    exact ⟨k.toNat, by omega, by omega⟩

theorem ends_H {p0 : List Nat} {qs : List (List Nat)} {start : Nat} (hqs : qs ≠ []) (hs : start ≤ t.length) (h0 : ∀ c ∈ p0, c ≠ 42) (hq : ∀ q ∈ qs, ∀ c ∈ q, c ≠ 42) :
    endsP (jn (p0 :: qs)) t start = H t (if (start : Int) ∈ places p0 t then some ((start : Int) + p0.length) else none) qs := by
  obtain ⟨q, r, rfl⟩ : ∃ q r, qs = q :: r := by cases qs with | nil => exact absurd rfl hqs | cons a b => exact ⟨a, b, rfl⟩
  have hst : ∀ k ∈ [(start : Int)], 0 ≤ k ∧ k ≤ t.length := fun k hk => by simp at hk; omega
  unfold endsP
  show (p0 ++ 42 :: jn (q :: r)).foldl (step1 t) _ = _
  rw [List.foldl_append, fold_word t p0 _ h0 (fun k hk => (hst k hk).1), fold_star t _ _ hqs hq (W_bd t hst)]
  congr 1
  unfold W
  by_cases h : stands p0 t start = true
  · rw [if_pos ((mem_places t (by omega) (by omega)).mpr (by simpa using h))]
    simp [h]
  · rw [if_neg (fun q => h (by simpa using (mem_places t (by omega) (by omega)).mp q))]
    simp [h]
end
end Mine

-- MPlain2
namespace Mine

section
variable (t : List Nat)
def gk (a : Option Int) (q : List Nat) : Option Int := a.bind fun p => ((places q t).find? fun k => decide (p ≤ k)).map fun k => k + (q.length : Int)
theorem gk_none : ∀ m : List (List Nat), m.foldl (gk t) none = none
  | [] => rfl
  | q :: m => by rw [List.foldl_cons]; exact gk_none m
theorem H_fold (pl : List Nat) : ∀ (mid : List (List Nat)) (a : Option Int), H t a (mid ++ [pl]) = match mid.foldl (gk t) a with
    | none => []
    | some p => ((places pl t).filter fun k => decide (p ≤ k)).map fun k => k + (pl.length : Int)
  | [], none => rfl
  | [], some k => rfl
  | q :: m, none => by
    rw [gk_none]; rfl
  | q :: m, some k => by
    have e : H t (some k) (q :: m ++ [pl]) = H t (gk t (some k) q) (m ++ [pl]) := by
      cases m with
      | nil => rfl
      | cons q' r => rfl
    rw [e, H_fold pl m, List.foldl_cons]
theorem midP_eq (p0 : List Nat) (qs : List (List Nat)) (start : Int) : ∀ n, n ≤ qs.length → midP (p0 :: qs) ((p0 :: qs).map fun p => places p t) n start = (qs.take n).foldl (gk t) (some (start + (p0.length : Int)))
  | 0, _ => by simp [midP]
  | n + 1, h => by
    rw [midP_succ, midP_eq p0 qs start n (by omega), List.take_add_one]
    obtain ⟨q, hq⟩ := item_of (l := qs) (i := n) (by omega)
    have e1 : ((p0 :: qs).map fun p => places p t).getD (n + 1) [] = places q t := by
      apply getD_of
      rw [List.getElem?_map, List.getElem?_cons_succ, hq]; rfl
    have e2 : (p0 :: qs).getD (n + 1) [] = q := by
      apply getD_of
      rw [List.getElem?_cons_succ, hq]
    rw [e1, e2, hq, Option.toList_some, List.foldl_append]
    rfl
theorem halved_H {p0 : List Nat} {qs : List (List Nat)} {start : Int} (hqs : qs ≠ []) :
    halvedP (p0 :: qs) ((p0 :: qs).map fun p => places p t) start = H t (if start ∈ places p0 t then some (start + (p0.length : Int)) else none) qs := by
  obtain ⟨mid, pl, rfl⟩ : ∃ mid pl, qs = mid ++ [pl] := ⟨qs.dropLast, qs.getLast hqs, (List.dropLast_concat_getLast hqs).symm⟩
  have hl : (p0 :: (mid ++ [pl])).length - 2 = mid.length := by simp
  have hl1 : (p0 :: (mid ++ [pl])).length - 1 = mid.length + 1 := by simp
  unfold halvedP
  rw [hl, hl1, midP_eq t p0 (mid ++ [pl]) start mid.length (by simp), List.take_left']
  have e0 : ((p0 :: (mid ++ [pl])).map fun p => places p t).getD 0 [] = places p0 t := rfl
  have e1 : ((p0 :: (mid ++ [pl])).map fun p => places p t).getD (mid.length + 1) [] = places pl t := by
    apply getD_of
    rw [List.getElem?_map, List.getElem?_cons_succ, List.getElem?_append_right (Nat.le_refl _)]; simp
  have e2 : (p0 :: (mid ++ [pl])).getD (mid.length + 1) [] = pl := by
    apply getD_of
    rw [List.getElem?_cons_succ, List.getElem?_append_right (Nat.le_refl _)]; simp
  rw [e0, e1, e2, H_fold]
  by_cases h : start ∈ places p0 t
  · rw [if_pos h, if_pos h] <;> (cases List.foldl (gk t) (some (start + (p0.length : Int))) mid <;> rfl)
  · rw [if_neg h, if_neg h, gk_none]
  · rfl

theorem upTo_at {a : Int} {n i : Nat} {x : Int} (h : (upTo a n)[i]? = some x) : x = a + i := by
  unfold upTo at h
  rw [List.getElem?_map] at h
  rcases Nat.lt_or_ge i n with q | q
  · rw [List.getElem?_range q] at h
    cases h; rfl
  · rw [List.getElem?_eq_none (by simpa using q)] at h
    cases h
theorem places_asc (p : List Nat) : Asc (places p t) := by
  have hp : (places p t).Pairwise (· < ·) := by
    unfold places
    refine List.Pairwise.filter _ ?_
    unfold upTo
    rw [List.pairwise_map]
    refine List.Pairwise.imp ?_ List.pairwise_lt_range
    intro a b h; omega
  intro i j a b hij ha hb
  obtain ⟨hi, rfl⟩ := List.getElem?_eq_some_iff.mp ha
  obtain ⟨hj, rfl⟩ := List.getElem?_eq_some_iff.mp hb
  exact List.pairwise_iff_getElem.mp hp i j hi hj hij
theorem places_len (p : List Nat) : (places p t).length ≤ t.length + 1 := by
  unfold places
  refine Nat.le_trans (List.length_filter_le _ _) ?_
  simp [upTo]

/-- the two readings agree -/
theorem plain_law {path : List Nat} {start : Nat} (h2 : 2 ≤ (cut path).length) (hs : start ≤ t.length) : halvedP (cut path) ((cut path).map fun p => places p t) start = endsP path t start := by
  have hj := cut_jn path
  have hf := cut_free path
  generalize cut path = ps at *
  subst hj
  obtain ⟨p0, qs, rfl⟩ : ∃ p0 qs, ps = p0 :: qs := by cases ps with | nil => simp at h2 | cons a b => exact ⟨a, b, rfl⟩
  have hq : qs ≠ [] := by rintro rfl; simp at h2
  rw [halved_H t hq, ends_H t hq hs (fun c hc q => hf p0 List.mem_cons_self (q ▸ hc)) (fun x hx c hc q => hf x (List.mem_cons_of_mem _ hx) (q ▸ hc))]
end
end Mine

-- MLaw1
namespace Mine
section
variable {w : World} {A : Around} {E : Value → Shared → Prop} {s : Shared}

theorem tail_upto {value slice : Expr} {l : Addr} {vs : List Value} {b : Nat} {ub : Tok} {Q : Value → Shared → Prop} (hl : s.heap.IsList l vs.toArray) (hsz : vs.length ≤ 1000000)
    (h : ∀ D o s', Keeps s s' → s'.heap.get? D = some o → s.heap.get? D = none → LO o (vs.take b) → Q (.ref D) s')
    (hs : subscripted slice false (.ref l) (.ref s.heap.objs.size) = operate [.ref s.heap.objs.size, .ref l] (getItem (.ref l) (.ref s.heap.objs.size)) := by with_unfolding_all rfl) :
    wpAny (model PG w) A (subscriptTail value slice (.ref l) (.ref s.heap.objs.size)) Q E { s with heap := s.heap.push { cls := .type "slice", data := .fields #[.none, .int b ub, .none] } } := by
  have hl' := hl.push (o := { cls := .type "slice", data := .fields #[.none, .int b ub, .none] })
  refine tail_any (T := "list") hl'.typeIs slot_list_getitem.lookup (wpAny_getItem_list_slice hl' (Heap.IsSliceOf.new ..) .none (.int _ _) .none (by simp) ?_ (by simp [sizeLine]; omega)) hs
  rw [slicePick_upto']
  refine h _ _ _ (kt (kpush s _ s.toks) (kpush _ _ s.toks)) (Heap.get?_push_size _ rfl) ?_ ⟨rfl, _, rfl⟩
  exact knone (kpush s _ s.toks) (get_size _)
theorem slicePick_mid (vs : List Value) (a b : Nat) : slicePick vs.toArray (some a) (some b) none = ((vs.drop a).take (b - a)).toArray := by
  rw [slicePick_plain]
  simp only [Option.elim, clipAt_nat]
  congr 1
  simp only [List.size_toArray]
  rcases Nat.le_total a vs.length with h | h
  · rw [Nat.min_eq_left h]
    rcases Nat.le_total b vs.length with h' | h'
    · rw [Nat.min_eq_left h']
    · rw [Nat.min_eq_right h', List.take_of_length_le (by simp), List.take_of_length_le (by simp; omega)]
  · rw [Nat.min_eq_right h, List.drop_of_length_le (by simp), List.drop_of_length_le h]; simp
theorem tail_mid {value slice : Expr} {l : Addr} {vs : List Value} {a b : Nat} {ua ub : Tok} {Q : Value → Shared → Prop} (hl : s.heap.IsList l vs.toArray) (hsz : vs.length ≤ 1000000)
    (h : ∀ D o s', Keeps s s' → s'.heap.get? D = some o → s.heap.get? D = none → LO o ((vs.drop a).take (b - a)) → Q (.ref D) s')
    (hs : subscripted slice false (.ref l) (.ref s.heap.objs.size) = operate [.ref s.heap.objs.size, .ref l] (getItem (.ref l) (.ref s.heap.objs.size)) := by with_unfolding_all rfl) :
    wpAny (model PG w) A (subscriptTail value slice (.ref l) (.ref s.heap.objs.size)) Q E { s with heap := s.heap.push { cls := .type "slice", data := .fields #[.int a ua, .int b ub, .none] } } := by
  have hl' := hl.push (o := { cls := .type "slice", data := .fields #[.int a ua, .int b ub, .none] })
  refine tail_any (T := "list") hl'.typeIs slot_list_getitem.lookup (wpAny_getItem_list_slice hl' (Heap.IsSliceOf.new ..) (.int _ _) (.int _ _) .none (by simp) ?_ (by simp [sizeLine]; omega)) hs
  rw [slicePick_mid]
  refine h _ _ _ (kt (kpush s _ s.toks) (kpush _ _ s.toks)) (Heap.get?_push_size _ rfl) ?_ ⟨rfl, _, rfl⟩
  exact knone (kpush s _ s.toks) (get_size _)

theorem IntsAre.takeK : ∀ {vs : List Value} {ns : List Int}, IntsAre vs ns → ∀ r, IntsAre (vs.take r) (ns.take r)
  | _, _, h, 0 => by simpa using IntsAre.nil
  | _, _, .nil, r + 1 => by simpa using IntsAre.nil
  | _, _, .cons n t q, r + 1 => by simpa using IntsAre.cons n t (IntsAre.takeK q r)

theorem paired_strs {g : Int → List Nat} : ∀ {ns : List Int} {ys : List Value}, Paired (fun k y => ∃ u, y = Value.str (T (g k)) u) ns ys → Paired strV ys (ns.map g)
  | _, _, .nil => .nil
  | _, _, .cons ⟨u, e⟩ r => .cons ⟨u, e⟩ (paired_strs r)

theorem LP.plain {h : Heap} {a : Addr} {o : Obj} {vs : List Value} (x : LP o vs) (e : h.get? a = some o) : h.PlainList a vs.toArray := by obtain ⟨n, rfl⟩ := x; exact ⟨n, e⟩
theorem plain_keeps {s s' : Shared} {a : Addr} {xs : Array Value} (x : s.heap.PlainList a xs) (k : Keeps s s') : s'.heap.PlainList a xs := x.at fun o e => kget k a o e
theorem add_lists {l b : Addr} {vs us : List Value} {Q : Value → Shared → Prop} (hl : s.heap.PlainList l vs.toArray) (hb : s.heap.PlainList b us.toArray) (hsz : vs.length + us.length ≤ 1000000)
    (h : ∀ D s', Keeps s s' → s'.heap.PlainList D (vs ++ us).toArray → s.heap.get? D = none → Q (.ref D) s') : wpAny (model PG w) A (binaryOp .Add (.ref l) (.ref b)) Q E s := by
  obtain ⟨n, hl⟩ := hl
  obtain ⟨n2, hb⟩ := hb
  refine P.add_list hl hb (h _ _ (kpush s _ s.toks) ⟨0, ?_⟩ (get_size _)) (by simp [sizeLine]; omega)
  rw [Heap.get?_push_size _ rfl]; simp
end
end Mine

-- MRows
namespace Mine
section
variable {w : World} {A : Around} {E : Value → Shared → Prop} {s₀ s s₁ : Shared} {env : Env} {l c : LV} {N : List (Addr × Obj)}

/-- several new objects -/
theorem Fn.mkN {s' : Shared} (F : Fn s₀ env l c N s) (k : Keeps s s') : ∀ (X : List (Addr × Obj)), (∀ p ∈ X, s'.heap.get? p.1 = some p.2 ∧ s.heap.get? p.1 = none) → X.Pairwise (fun p q => p.1 ≠ q.1) → Fn s₀ env l c (X ++ N) s'
  | [], _, _ => F.kp k
  | (a, o) :: X, hX, hp => by
    obtain ⟨hp1, hp2⟩ := List.pairwise_cons.mp hp
    have ih := Fn.mkN F k X (fun p hq => hX p (List.mem_cons_of_mem _ hq)) hp2
    obtain ⟨ha, hn⟩ := hX (a, o) List.mem_cons_self
    obtain ⟨⟨oL, hL⟩, hC⟩ := F.live
    have ne : ∀ b o', s.heap.get? b = some o' → a ≠ b := fun b o' e q => by rw [← q, hn] at e; cases e
    refine ⟨ih.inn, fun p hq => ?_, List.pairwise_cons.mpr ⟨fun p hq => ?_, ih.apart⟩⟩
    · rcases List.mem_cons.mp hq with rfl | hq
      · exact ⟨ha, knone F.base hn, ne _ _ hL, fun n b e => let ⟨o, ho⟩ := hC n b e; ne _ _ ho⟩
      · exact ih.new p hq
    · rcases List.mem_append.mp hq with hq | hq
      · exact hp1 p hq
      · exact ne _ _ (F.new p hq).1

theorem lists_of {f : List Nat → List Int} {h₁ h : Heap} {C D : Addr} {wr : List Addr} : ∀ {vs : List Value} {ps : List (List Nat)} {ys : List Value}, Paired strV vs ps →
    Paired (LstAt h₁ C D wr (fun v its => ∃ p t, v = Value.str (T p) t ∧ IntsAre its.toList (f p)) h) vs ys → ys.Pairwise (· ≠ ·) →
    ∃ X : List (Addr × Obj), (∀ p ∈ X, h.get? p.1 = some p.2 ∧ h₁.get? p.1 = none ∧ p.1 ≠ C ∧ p.1 ≠ D) ∧ X.Pairwise (fun p q => p.1 ≠ q.1) ∧ (∀ p ∈ X, Value.ref p.1 ∈ ys) ∧
      ∀ h', (∀ p ∈ X, h'.get? p.1 = some p.2) → Paired (fun v r => ∃ b, v = Value.ref b ∧ IL h' b r) ys (ps.map f)
  | _, _, _, .nil, h, _ => by
    cases h
    exact ⟨[], (fun _ h => nomatch h), .nil, (fun _ h => nomatch h), fun _ _ => .nil⟩
  | _, _, _, .cons ⟨t, e⟩ r, h, hp => by
    subst e
    cases h with
    | cons h1 h2 =>
      obtain ⟨hp1, hp2⟩ := List.pairwise_cons.mp hp
      obtain ⟨X, x1, x2, x3, x4⟩ := lists_of r h2 hp2
      obtain ⟨Ta, its, rfl, n1, nC, nw, nD, ⟨o, ho, hc, n, hd⟩, p, t', e, hi⟩ := h1
      injection e with e1 e2
      have e1 := (T_inj _ _).mp e1
      subst e1
      refine ⟨(Ta, o) :: X, ?_, List.pairwise_cons.mpr ⟨fun q hq => ?_, x2⟩, ?_, fun h' H => ?_⟩
      · intro q hq
        rcases List.mem_cons.mp hq with rfl | hq
        · exact ⟨ho, n1, nC, nD⟩
        · exact x1 q hq
      · intro q'
        have q' : Ta = q.1 := q'
        exact hp1 _ (x3 q hq) (by rw [q'])
      · intro q hq
        rcases List.mem_cons.mp hq with rfl | hq
        · exact List.mem_cons_self
        · exact List.mem_cons_of_mem _ (x3 q hq)
      · refine .cons ⟨Ta, rfl, its.toList, ⟨o, H _ List.mem_cons_self, hc, n, by simpa using hd⟩, hi⟩ (x4 h' fun q hq => H q (List.mem_cons_of_mem _ hq))

/-- a comprehension over texts whose element is a new list of ints, put into a name -/
theorem Fn.acompS {elt iter : Expr} {x y : Str} {px py spos : Pos} {scope : Scope} {pos : Pos} {Q : Flow → Shared → Prop} (F : Fn s₀ env l c N s) (hh : A.handled = none) (c' : LV) (f : List Nat → List Int)
    (h : wpAny (model PG w) A (eval iter env) (fun xv s₁ => ∃ a ps, xv = .ref a ∧ Keeps s s₁ ∧ SL s₁.heap a ps ∧ ps.length ≤ 1000000 ∧
      (∀ C p t s₃ E', p ∈ ps → Rd (compEnvC scope (clOf scope env) C env) [(x, .str (T p) t)] c' s₃ → (∀ b o, s.heap.get? b = some o → s₃.heap.get? b = some o) →
        wpAny (model PG w) A (eval elt (compEnvC scope (clOf scope env) C env)) (fun y s₄ => (∃ T, y = .ref T ∧ s₃.heap.get? T = none ∧ IL s₄.heap T (f p)) ∧ Keeps s₃ s₄) E' s₃) ∧
      (∀ D X s', Fn s₀ env ((y, .ref D) :: l) c (X ++ N) s' → (∀ h', (∀ p ∈ X, h'.get? p.1 = some p.2) → RL h' D (ps.map f)) → Q .next s')) E s)
    (hsw : swapsWith (.ListComp elt [⟨.Name x px, iter, [], 0⟩] scope pos) (some (.Name y py)) spos.line env = pure true := by kernel_rfl) (hy : env.kindOf y = some .local := by kernel_rfl) (hk0 : env.scope.kind = .function := by kernel_rfl)
    (hc' : (c'.map fun p => c.lookup p.1) = c'.map fun p => some p.2 := by kernel_rfl) (hcl : (c'.map fun p => (clOf scope env).lookup p.1) = c'.map fun p => env.cells.lookup p.1 := by kernel_rfl) (hcs : (c'.all fun p => (env.cells.lookup p.1).isSome) = true := by kernel_rfl)
    (hclos : closureFor scope env = pure (clOf scope env) := by kernel_rfl) (hcell : ∀ y ∈ scope.names, y.2 ≠ .cell := by decide) (hkind : scope.kind = .function := by kernel_rfl)
    (hnames : ∀ y ∈ scope.names, y.2 = .local → scope.names.lookup y.1 = some .local := by decide +kernel) (hx : scope.names.lookup x = some .local := by kernel_rfl)
    (hs : ∀ x, foldedSetIterable iter env x = pure x := by intro _; rfl) :
    wpAny (model PG w) A (exec (.Assign [.Name y py] (.ListComp elt [⟨.Name x px, iter, [], 0⟩] scope pos) spos) env) Q E s := by
  rw [exec_Assign_Name_used _ _ _ _ hsw]
  refine wpAny_bind (wpAny_standAt (wpAny_bind ?_))
  show wpAny _ A (do let _ ← comprehension (.ListComp elt [⟨.Name x px, iter, [], 0⟩] scope pos) scope env _ (newList []) false (eval iter env) (some (assign (.Name y py) env))) _ _ s
  refine wpAny_bind (wpAny_mono (wpAny_comprehension_free (use := some (assign (.Name y py) env)) (Q := fun _ s' => Q .next s') rfl hs hclos hkind hnames
    (wpAny_mono h (fun xv s₁ h₁ => ?_) fun _ _ e => e)) (fun _ s' hq => wpAny_pure (wpAny_pure hq)) fun _ _ e => e)
  obtain ⟨a, ps, rfl, k, ⟨vs, hl, hv⟩, hsz, he, hQ⟩ := h₁
  obtain ⟨ol, hol, _⟩ := id hl
  have hne : a ≠ s₁.heap.objs.size := Nat.ne_of_lt (Heap.lt_size hol)
  have hlen : vs.length = ps.length := Paired.len hv
  refine wpAny_pyIter_list hl ?_
  have W := Walks.list (prog := PG) (w := w) (A := A) hh s₁.heap.objs.size a hne vs.toArray
  rw [show vs.toArray.size = ps.length by simp [hlen]] at W
  have old : ∀ (h₃ : Heap), (∀ b o, b ∉ [s₁.heap.objs.size] → (s₁.heap.push { cls := .type "list_iterator", data := .fields #[.ref a, .int 0 0] }).get? b = some o → h₃.get? b = some o) → ∀ b o, s.heap.get? b = some o → h₃.get? b = some o := fun h₃ H b o e =>
    have e' := kget k b o e
    H b o (fun hb => by simp at hb; subst hb; exact absurd (Heap.lt_size e') (Nat.lt_irrefl _)) (Heap.get?_push_of_some _ e')
  have hP : ∀ (i : Nat) (v : Value), vs.toArray[i]? = some v → ∃ p t, p ∈ ps ∧ v = Value.str (T p) t := fun i v e => by
    have e : vs[i]? = some v := by simpa using e
    have hlt : i < ps.length := by rw [← hlen]; exact (List.getElem?_eq_some_iff.mp e).1
    obtain ⟨p, hp⟩ := item_of hlt
    obtain ⟨v', hv', t, rfl⟩ := Paired.at hv hp
    rw [hv'] at e; cases e
    exact ⟨p, t, List.mem_of_getElem? hp, rfl⟩
  refine comp_block_walkCO (RR := fun acc C => compPost (model PG w) A E (some (assign (.Name y py) env)) (fun _ s' => Q .next s') acc C) W (Nat.le_trans hsz (by rw [sizeLine]; omega)) (fun _ => true) (fun v its => ∃ p t, v = Value.str (T p) t ∧ IntsAre its.toList (f p))
    (fun i h st b hb => by simp at hb; subst hb; obtain ⟨o, ho, _⟩ := st.1; exact ⟨o, ho⟩) hcell hkind hx ⟨⟨_, Heap.get?_push_size _ rfl, rfl, rfl⟩, hl.push _⟩ ?_ ⟨fun C i v s₃ m₃ E' hC hPv hn hm hkk htk => ?_, fun C i v s₃ m₃ E' hC hPv hpv hn hm hkk htk => ?_⟩ (fun D C h' tk m' ys vs' hD hC hDC hns hl' hpl hlen' hPv hF hpw hkk => ?_)
  · intro b hb
    rw [Heap.size_push]
    simp at hb
    rcases hb with rfl | rfl
    · exact Nat.lt_succ_self _
    · exact Nat.lt_succ_of_lt (Heap.lt_size hol)
  · exact wpAny_tests_nil ⟨rfl, krfl⟩
  · obtain ⟨p, t, hp, rfl⟩ := hP i v hPv
    refine wpAny_mono (he C p t s₃ E' hp (Rd.comp_of F hc' hcl hcs hn hm (old s₃.heap hkk)) (old s₃.heap hkk)) (fun y s₄ hy => ?_) fun _ _ e => e
    obtain ⟨⟨Ta, rfl, hT, us, hus, hiu⟩, k4⟩ := hy
    exact ⟨⟨Ta, us.toArray, rfl, hT, hus, p, t, rfl, by simpa using hiu⟩, k4⟩
  · have hvs : vs' = vs := by
      apply List.ext_getElem?
      intro j
      cases hj : vs'[j]? with
      | some v => exact (by simpa using hPv j v hj : vs[j]? = some v).symm
      | none =>
        have : vs'.length ≤ j := by simpa using hj
        exact (List.getElem?_eq_none (by omega)).symm
    subst hvs
    have hfil : (vs'.filter fun _ => true) = vs' := by simp
    rw [hfil] at hF
    obtain ⟨X, x1, x2, x3, x4⟩ := lists_of hv hF hpw
    have push : ∀ {b : Addr}, (s₁.heap.push { cls := .type "list_iterator", data := .fields #[.ref a, .int 0 0] }).get? b = none → s.heap.get? b = none := fun {b} e => by
      cases q : s.heap.get? b with
      | none => rfl
      | some o => have := Heap.get?_push_of_some { cls := .type "list_iterator", data := .fields #[.ref a, .int 0 0] } (kget k _ _ q); rw [e] at this; cases this
    obtain ⟨oC, _, _, hoC, _⟩ := id hns
    obtain ⟨oD, hoD, hcD, nD, hdD⟩ := id hl'
    have kk : Keeps s { s₁ with heap := h', toks := tk } := by
      obtain ⟨h₂, tk₂, rfl, k₂⟩ := k
      exact ⟨h', tk, rfl, old h' hkk⟩
    have F₂ : Fn s₀ env l c ((C, oC) :: (((D, oD) :: X) ++ N)) { s₁ with heap := h', toks := tk } := by
      refine F.mkN kk ((C, oC) :: (D, oD) :: X) (fun p hp => ?_) (List.pairwise_cons.mpr ⟨fun p hp => ?_, List.pairwise_cons.mpr ⟨fun p hp => ?_, x2⟩⟩)
      · rcases List.mem_cons.mp hp with rfl | hp
        · exact ⟨hoC, push hC⟩
        · rcases List.mem_cons.mp hp with rfl | hp
          · exact ⟨hoD, push hD⟩
          · exact ⟨(x1 p hp).1, push (x1 p hp).2.1⟩
      · rcases List.mem_cons.mp hp with rfl | hp
        · exact Ne.symm hDC
        · exact Ne.symm (x1 p hp).2.2.1
      · exact Ne.symm (x1 p hp).2.2.2
    show wpAny _ A (assign (.Name y py) env (.ref D)) _ _ _
    refine wpAny_assign_Name (F₂.st (fun s₅ F₅ => ⟨m', ?_, fun h₆ hs₆ => ?_⟩) hy hk0)
    · obtain ⟨o, es, ep, ho, r⟩ := hns
      rw [hoC] at ho; cases ho
      exact ⟨oC, es, ep, (F₅.new _ List.mem_cons_self).1, r⟩
    · refine hQ D ((D, oD) :: X) _ (F₅.drop1 (tk := s₅.toks) fun b o hb e => hs₆.extBut b o hb e) fun h₇ H => ⟨ys.toList, ⟨oD, H _ List.mem_cons_self, hcD, nD, by simpa using hdD⟩, x4 h₇ fun p hp => H p (List.mem_cons_of_mem _ hp)⟩
end
end Mine

-- MLaw2a
namespace Mine

def gluedOf (g : Int → Nat) (mid : List Nat) (ns : List Int) : List Nat := (ns.take 3).map g ++ mid ++ ((ns.drop 3).take 2).map g
def pathL (ns : List Int) : List Nat := gluedOf pc [97, 42, 46, 42, 98] ns
def textL (ns : List Int) : List Nat := gluedOf tc [97, 46, 97, 98, 46, 98] ns

theorem glued_len (g : Int → Nat) (mid : List Nat) (ns : List Int) : (gluedOf g mid ns).length ≤ mid.length + 5 := by
  simp [gluedOf]; omega
theorem glued_mem {g : Int → Nat} {mid : List Nat} {ns : List Int} {c : Nat} (h : c ∈ gluedOf g mid ns) : (∃ n, c = g n) ∨ c ∈ mid := by
  unfold gluedOf at h
  rcases List.mem_append.mp h with h | h
  · rcases List.mem_append.mp h with h | h
    · obtain ⟨n, _, rfl⟩ := List.mem_map.mp h; exact .inl ⟨n, rfl⟩
    · exact .inr h
  · obtain ⟨n, _, rfl⟩ := List.mem_map.mp h; exact .inl ⟨n, rfl⟩
theorem glued_flat (g : Int → Nat) (mid : List Nat) (ns : List Int) : ((ns.take 3).map (fun n => [g n]) ++ [mid] ++ ((ns.drop 3).take 2).map fun n => [g n]).flatten = gluedOf g mid ns := by
  have : ∀ l : List Int, (l.map fun n => [g n]).flatten = l.map g := by
    intro l
    induction l with
    | nil => rfl
    | cons a b ih => simp [ih]
  simp only [List.flatten_append, this, gluedOf, List.flatten_cons, List.flatten_nil, List.append_nil]
theorem pc_ok (n : Int) : okSign (pc n) ∨ pc n = 42 := by
  obtain ⟨h0, h1⟩ := fmod_lt (n := n) (k := 5) (by decide)
  unfold pc okSign
  generalize n.fmod 5 = k at *
  have : k = 0 ∨ k = 1 ∨ k = 2 ∨ k = 3 ∨ k = 4 := by omega
  rcases this with rfl | rfl | rfl | rfl | rfl <;> decide
theorem path_ok (ns : List Int) : ∀ c ∈ pathL ns, okSign c ∨ c = 42 := by
  intro c hc
  rcases glued_mem hc with ⟨n, rfl⟩ | h
  · exact pc_ok n
  · unfold okSign; simp at h; omega
theorem path_ascii (ns : List Int) : ((pathL ns).all (· < 128)) = true := by
  rw [List.all_eq_true]
  intro c hc
  have := path_ok ns c hc
  unfold okSign at this
  simp; omega
theorem path_ne (ns : List Int) : pathL ns ≠ [] := by
  intro h
  have := congrArg List.length h
  simp [pathL, gluedOf] at this
theorem path_two (ns : List Int) : 2 ≤ (cut (pathL ns)).length := by
  have hj := cut_jn (pathL ns)
  have hf := cut_free (pathL ns)
  have hm : 42 ∈ pathL ns := by simp [pathL, gluedOf]
  generalize cut (pathL ns) = ps at *
  cases ps with
  | nil => simp [jn] at hj; exact absurd hj (path_ne ns)
  | cons p r =>
    cases r with
    | nil =>
      rw [← hj] at hm
      exact absurd hm (hf p List.mem_cons_self)
    | cons q r => simp

section
variable {w : World} {A : Around} {E : Value → Shared → Prop} {s : Shared}
theorem flt {α : Type} (l : List α) : (l.filter fun _ => true) = l := List.filter_eq_self.mpr fun _ _ => rfl
theorem part_some {M : Model} {env : Env} {e : Expr} {Q : Value → Shared → Prop} (h : wpAny M A (eval e env) Q E s) : wpAny M A (evalPart (some e) env) Q E s := h
theorem part_none {M : Model} {env : Env} {Q : Value → Shared → Prop} (h : Q .none s) : wpAny M A (evalPart none env) Q E s := wpAny_pure h
end
end Mine

-- MLaw3
namespace Mine
section
variable {w : World} {A : Around} {E : Value → Shared → Prop} {s : Shared}
set_option maxHeartbeats 4000000 in
/-- the law behind its path and its text -/
theorem law_rest {Q : Value → Shared → Prop} {path t : List Nat} {L : Addr} {tp tt : Tok} {s₁ : Shared} (G : Gr w s.heap) (hr : A.depth + 2 < recursionLimit) (hh : A.handled = none) (hu : A.units + 400 < cLine)
    (F : Fn s (envK w L 85) [("path", .str (T path) tp)] [("text", .str (T t) tt)] [] s₁) (hp : path.length ≤ 20) (ht : t.length ≤ 20) (hok : ∀ c ∈ path, okSign c ∨ c = 42) (h2 : 2 ≤ (cut path).length) (hne : path ≠ [])
    (h : ∀ s', Keeps s s' → Q (.bool true) s') : wpAny (model PG w) (A.deeper (envK w L 85)) (execs ((bodyK w.params 85).drop 2) (envK w L 85)) (fun fl s' => Q (outOf fl) s') E s₁ := by
  have hd : (A.deeper (envK w L 85)).depth + 1 < recursionLimit := by show A.depth + 1 + 1 < recursionLimit; omega
  have hd' : (A.deeper (envK w L 85)).depth < recursionLimit := by omega
  have hu' : (A.deeper (envK w L 85)).units + 200 < cLine := by show A.units + 3 + 200 < cLine; omega
  have hasc : ((path.all (· < 128)) = true) := by
    rw [List.all_eq_true]
    intro c hc
    have := hok c hc
    unfold okSign at this
    simp; omega
  have hmem : ∀ p ∈ cut path, (∀ c ∈ p, okSign c) ∧ p.length ≤ 20 := fun p hpm => by
    obtain ⟨h1, h2⟩ := mem_jn hpm
    rw [cut_jn] at h1 h2
    refine ⟨fun c hc => ?_, by omega⟩
    rcases hok c (h1 c hc) with q | q
    · exact q
    · subst q; exact absurd hc (cut_free path p hpm)
  have hlen : (cut path).length ≤ 21 := by have := jn_len (cut path); rw [cut_jn] at this; omega
  have hpat := patOf_le (fun p hp => (hmem p hp).2) hlen
  have hpl : ∀ {start : Nat}, start ≤ t.length → halvedP (cut path) ((cut path).map fun p => places p t) start = endsP path t start := fun hs => plain_law t h2 hs
  have hcount := split_len path hne
  -- pieces
  refine wpAny_execs_cons (wpAny_Assign_Name (F.callf1 (a := 58) G (F.callf1 (a := 33) G (F.ld rfl ⟨F.gr G, ?_⟩))))
  refine tp_spec (F.gr G) hd hh hp hok h2 fun t₂ s₂ k₂ => ⟨(F.kp k₂).gr G, ?_⟩
  refine pieces_spec ((F.kp k₂).gr G) hd' hh hu' hpat (parse_pat h2 fun p hp => (hmem p hp).1) fun D s₃ k₃ hD hsl => ?_
  obtain ⟨vs, hvs, hpv⟩ := hsl
  obtain ⟨o, ho, hoc, on, hod⟩ := hvs
  refine ((F.kp k₂).mk1 k₃ ho hD).st fun s₄ F₄ => ?_
  have hsl : ∀ {h' : Heap}, h'.get? D = some o → SL h' D (cut path) := fun e => ⟨vs, ⟨o, e, hoc, on, hod⟩, hpv⟩
  have hvl : vs.length = (cut path).length := Paired.len hpv
  have isd : ∀ {h' : Heap}, h'.get? D = some o → h'.IsList D vs.toArray := fun e => ⟨o, e, hoc, on, hod⟩
  clear k₂ k₃ hD ho
  -- the count
  refine wpAny_execs_cons (wpAny_If (wpAny_isTrue_Compare1 (F₄.callb1 G (F₄.ld rfl (len_list (isd (F₄.new (D, o) (by simp)).1) (by simp; omega) (wpAny_BinOp (str_meth1 ((F₄.tk _).ld rfl ⟨_, _, rfl, Calls.Constant_str ?_⟩) PySem.F.slot_str_count PySem.F.type_str_count)))))))
  rw [show Str.ofString "*" = T [42] from by decide +kernel]
  refine SC.count (wpAny_Constant_int (add_int (ne_int (wpAny_truthy_bool ?_))))
  rw [← hcount, show (vs.toArray.size : Int) = (cut path).length by simp [hvl], if_neg (by simp)]
  refine wpAny_execs_nil ?_
  have F₅ := F₄.tk (s₄.toks + 1 + 1 + 1 + 1 + 1 + 1)
  -- rows
  refine wpAny_execs_cons (F₅.acompS hh [("text", .str (T t) tt)] (fun p => places p t) (F₅.ld rfl ⟨D, cut path, rfl, krfl, hsl (F₅.new (D, o) (by simp)).1, by omega, ?_, ?_⟩))
  · intro C p tq s₆ E₆ hp R kk
    have G₆ : Gr w s₆.heap := (F₅.gr G).keeps kk
    refine R.callf2 (a := 63) G₆ (R.ld rfl (R.ldc rfl ⟨G₆, ?_⟩))
    exact places_spec G₆ hd' hh (by have := (hmem p hp).2; omega) (by omega) fun D' s' k' hD' hil => ⟨⟨D', rfl, hD', hil⟩, k'⟩
  · intro Dr X s₆ F₆ hrl
    have F₆ : Fn s (envK w L 85) [("path", .str (T path) tp), ("pieces", .ref D), ("rows", .ref Dr)] [("text", .str (T t) tt)] (X ++ [(D, o)]) s₆ := F₆.weakl rfl
    have rasc : ∀ row ∈ (cut path).map (fun p => places p t), Asc row ∧ row.length ≤ 10000 := fun row hrow => by
      obtain ⟨p, _, rfl⟩ := List.mem_map.mp hrow
      exact ⟨places_asc t p, by have := places_len t p; omega⟩
    refine wpAny_execs_cons (F₆.forRange (a := 0) (b := (t.length : Int) + 1) hh (by decide) (by decide) (by omega) (by omega) (fun E₇ Q₇ hq => ?_)
      (fun i l c N => l = ([("path", .str (T path) tp), ("pieces", .ref D), ("rows", .ref Dr)] : LV) ∧ c = ([("text", .str (T t) tt)] : LV) ∧ N = X ++ [(D, o)]) ⟨rfl, rfl, rfl⟩ ?_ ?_)
    · refine F₆.callt1 G (wpAny_BinOp (F₆.callb1 G (F₆.ldc rfl (len_T (by omega) (wpAny_Constant_int (add_int (call_range_1 ?_)))))))
      exact hq _ _ _ _ _ (IsRange.new ..) (kt (ktok _) (kpush _ _ _))
    · rintro I oI i ti l c N s₇ E₇ hi ⟨rfl, rfl, rfl⟩ F₇
      rw [Int.zero_add]
      refine wpAny_assign_Name (F₇.st fun s₈ F₈ => ?_)
      have gx : ∀ {s' : Shared}, Keeps s₈ s' → (∀ p ∈ X, s'.heap.get? p.1 = some p.2) ∧ s'.heap.get? D = some o := fun k => ⟨fun p hp => ((F₈.kp k).new p (by simp [hp])).1, ((F₈.kp k).new (D, o) (by simp)).1⟩
      refine wpAny_execs_cons (wpAny_If (wpAny_isTrue_Compare1 (F₈.callf3 (a := 68) G (F₈.ld rfl (F₈.ld rfl (F₈.ld rfl ⟨F₈.gr G, ?_⟩))))))
      refine halved_spec (ps := cut path) (rows := (cut path).map fun p => places p t) (F₈.gr G) hd hh (hsl (gx krfl).2) (hrl _ (gx krfl).1) (by simp) h2 (by omega) rasc (fun p hp => by have := (hmem p hp).2; omega) fun D₁ s₉ k₉ hn₁ hil₁ => ?_
      have F₉ := F₈.kp k₉
      refine F₉.callf3 (a := 73) G (F₉.ld rfl (F₉.ldc rfl (F₉.ld rfl ⟨F₉.gr G, ?_⟩)))
      refine ends_spec (F₉.gr G) hd' hh hu' hasc (by omega) (by omega) (start := i) (by omega) fun D₂ s₁₀ k₁₀ hn₂ hil₂ => ?_
      obtain ⟨v1, l1, i1⟩ := hil₁.to k₁₀
      obtain ⟨v2, l2, i2⟩ := hil₂
      refine ne_intsK l1 i1 l2 i2 (by omega) (wpAny_truthy_bool ?_)
      rw [if_neg (by rw [hpl (by omega)]; simp)]
      have F₁₀ := F₉.kp k₁₀
      exact wpAny_execs_nil (wpAny_execs_nil ⟨_, _, _, ⟨rfl, rfl, rfl⟩, F₁₀.weakl rfl⟩)
    · rintro l c N s₇ ⟨rfl, rfl, rfl⟩ F₇
      exact wpAny_execs_cons (wpAny_Return_some (Constant_bool (h _ F₇.base)))
end
end Mine

-- MLaw4
namespace Mine
section
variable {w : World} {A : Around} {E : Value → Shared → Prop} {s : Shared}
set_option maxHeartbeats 4000000 in
theorem law_spec {Q : Value → Shared → Prop} {ns : List Int} {a : Addr} (G : Gr w s.heap) (hr : A.depth + 2 < recursionLimit) (hh : A.handled = none) (hu : A.units + 400 < cLine) (ha : IL s.heap a ns) (hn : ns.length ≤ 1000)
    (h : ∀ s', Keeps s s' → Q (.bool true) s') : wpAny (model PG w) A (call (.ref 85) [.ref a]) Q E s := by
  refine enter 85 [("script", .ref a)] [("script", .ref a)] [] G (by omega) ?_
  intro L s₁ E' hL F
  have hd : (A.deeper (envK w L 85)).depth + 1 < recursionLimit := by show A.depth + 1 + 1 < recursionLimit; omega
  have hd' : (A.deeper (envK w L 85)).depth < recursionLimit := by omega
  have hu' : (A.deeper (envK w L 85)).units + 200 < cLine := by show A.units + 3 + 200 < cLine; omega
  obtain ⟨vs, hvs, his⟩ := ha
  have hlv : vs.length = ns.length := his.length
  -- path
  refine wpAny_execs_cons (wpAny_Assign_Name (str_meth1 (Calls.Constant_str ⟨_, _, rfl, wpAny_BinOp (wpAny_BinOp ((F.tk _).compI [] (fun _ => true) (fun k y => ∃ u, y = .str (T [pc k]) u) ?_))⟩) PySem.F.slot_str_join PySem.F.type_str_join))
  have F := F.tk (s₁.toks + 1)
  refine Subscript_ (F.ld rfl (wpAny_Slice (part_none (part_some (wpAny_Constant_int (part_none ?_))))))
  refine tail_upto (b := 3) (isList_keeps hvs (kget (F.tk _).base)) (by omega) fun D o s₂ k₂ ho hnD lo => ?_
  refine ISrc.list hh (ns := ns.take 3) ⟨_, lo.isList ho, IntsAre.takeK his 3⟩ (kt (ktok _) k₂) fun it s₃ hS => ⟨_, hS, by simp; omega, ?_, ?_, ?_⟩
  · intro C k u s₄ E₄ hk R kk
    exact wpAny_tests_nil ⟨rfl, krfl⟩
  · intro C k u s₄ E₄ hk hp R kk
    obtain ⟨a0, a1⟩ := fmod_lt (n := k) (k := 5) (by decide)
    exact Subscript_ (Calls.Constant_str (wpAny_BinOp ((R.tk _).ld rfl (wpAny_Constant_int (mod_int (by decide) (item_str a0 (by omega) (pc_item k) ⟨⟨_, rfl⟩, ktok _⟩))))))
  clear k₂ ho hnD lo
  intro D₁ s₂ ys₁ k₁ hD₁ hl₁ hF₁
  have F := F.kp k₁
  refine List1 (Calls.Constant_str (new_listP (by simp) fun D₂ o₂ s₃ k₃ ho₃ hn₃ lo₃ => ?_))
  have k₃ : Keeps s₂ s₃ := kt (ktok _) k₃
  have F := F.kp k₃
  have hp₁ : Paired strV ys₁.toList ((ns.take 3).map fun n => [pc n]) := paired_strs (g := fun n => [pc n]) (by rw [flt] at hF₁; exact hF₁)
  have hy₁ : ys₁.size ≤ 3 := by have := Paired.len hp₁; simp at this; omega
  refine add_lists (vs := ys₁.toList) (by simpa using plain_keeps hl₁ k₃) (lo₃.plain ho₃) (by simp; omega) fun D₃ s₄ k₄ lo₄ hn₄ => ?_
  have F := F.kp k₄
  refine F.compI [] (fun _ => true) (fun k y => ∃ u, y = .str (T [pc k]) u) ?_
  refine Subscript_ (F.ld rfl (wpAny_Slice (part_some (wpAny_Constant_int (part_some (wpAny_Constant_int (part_none ?_)))))))
  refine tail_mid (a := 3) (b := 5) (isList_keeps hvs (kget (F.tk _).base)) (by omega) fun D o s₅ k₅ ho hnD lo => ?_
  refine ISrc.list hh (ns := (ns.drop 3).take 2) ⟨_, lo.isList ho, IntsAre.takeK (IntsAre.dropK his 3) 2⟩ (kt (ktok _) k₅) fun it s₆ hS => ⟨_, hS, by simp; omega, ?_, ?_, ?_⟩
  · intro C k u s₄ E₄ hk R kk
    exact wpAny_tests_nil ⟨rfl, krfl⟩
  · intro C k u s₄ E₄ hk hp R kk
    obtain ⟨a0, a1⟩ := fmod_lt (n := k) (k := 5) (by decide)
    exact Subscript_ (Calls.Constant_str (wpAny_BinOp ((R.tk _).ld rfl (wpAny_Constant_int (mod_int (by decide) (item_str a0 (by omega) (pc_item k) ⟨⟨_, rfl⟩, ktok _⟩))))))
  clear k₅ ho hnD lo
  intro D₅ s₅ ys₅ k₅ hD₅ hl₅ hF₅
  have F := F.kp k₅
  have hp₅ : Paired strV ys₅.toList (((ns.drop 3).take 2).map fun n => [pc n]) := paired_strs (g := fun n => [pc n]) (by rw [flt] at hF₅; exact hF₅)
  have hy₅ : ys₅.size ≤ 2 := by have := Paired.len hp₅; simp at this; omega
  refine add_lists (us := ys₅.toList) (plain_keeps lo₄ k₅) (by simpa using hl₅) (by simp; omega) fun D₆ s₆ k₆ lo₆ hn₆ => ?_
  have F := F.kp k₆
  have hall : ∀ tk, Paired strV (ys₁.toList ++ [Value.str (Str.ofString "a*.*b") tk] ++ ys₅.toList) ((ns.take 3).map (fun n => [pc n]) ++ [[97, 42, 46, 42, 98]] ++ ((ns.drop 3).take 2).map fun n => [pc n]) :=
    fun tk => Paired.app (Paired.app hp₁ (.cons ⟨tk, by rw [show T [97, 42, 46, 42, 98] = Str.ofString "a*.*b" from by decide +kernel]⟩ .nil)) hp₅
  have hgl := glued_len pc [97, 42, 46, 42, 98] ns
  refine join_spec (by decide +kernel) lo₆.isList (hall _) (by rw [glued_flat]; simp at hgl; omega) fun t' tk => ?_
  rw [glued_flat]
  refine (F.tk tk).st fun s₇ F => ?_
  clear hall hp₅ hp₁
  replace F : Fn s (envK w L 85) [("path", .str (T (pathL ns)) t'), ("script", .ref a)] [] [] s₇ := F
  clear hgl lo₆ hn₆ hl₅ hF₅ hD₅ lo₄ hn₄ lo₃ hn₃ ho₃ hl₁ hF₁ hD₁
  generalize hs₁ : s₇ = s₁ at F
  -- text
  refine wpAny_execs_cons (wpAny_Assign_Name (str_meth1 (Calls.Constant_str ⟨_, _, rfl, wpAny_BinOp (wpAny_BinOp ((F.tk _).compI [] (fun _ => true) (fun k y => ∃ u, y = .str (T [tc k]) u) ?_))⟩) PySem.F.slot_str_join PySem.F.type_str_join))
  have F := F.tk (s₁.toks + 1)
  refine Subscript_ (F.ld rfl (wpAny_Slice (part_none (part_some (wpAny_Constant_int (part_none ?_))))))
  refine tail_upto (b := 3) (isList_keeps hvs (kget (F.tk _).base)) (by omega) fun D o s₂ k₂ ho hnD lo => ?_
  refine ISrc.list hh (ns := ns.take 3) ⟨_, lo.isList ho, IntsAre.takeK his 3⟩ (kt (ktok _) k₂) fun it s₃ hS => ⟨_, hS, by simp; omega, ?_, ?_, ?_⟩
  · intro C k u s₄ E₄ hk R kk
    exact wpAny_tests_nil ⟨rfl, krfl⟩
  · intro C k u s₄ E₄ hk hp R kk
    have G₄ : Gr w s₄.heap := (F.gr G).keeps kk
    refine R.callf1 (a := 80) G₄ (R.ld rfl ⟨G₄, ?_⟩)
    exact sign_spec G₄ hd' fun t' s' k' => ⟨⟨_, rfl⟩, k'⟩
  clear k₂ ho hnD lo
  intro D₁ s₂ ys₁ k₁ hD₁ hl₁ hF₁
  have F := F.kp k₁
  refine List1 (Calls.Constant_str (new_listP (by simp) fun D₂ o₂ s₃ k₃ ho₃ hn₃ lo₃ => ?_))
  have k₃ : Keeps s₂ s₃ := kt (ktok _) k₃
  have F := F.kp k₃
  have hp₁ : Paired strV ys₁.toList ((ns.take 3).map fun n => [tc n]) := paired_strs (g := fun n => [tc n]) (by rw [flt] at hF₁; exact hF₁)
  have hy₁ : ys₁.size ≤ 3 := by have := Paired.len hp₁; simp at this; omega
  refine add_lists (vs := ys₁.toList) (by simpa using plain_keeps hl₁ k₃) (lo₃.plain ho₃) (by simp; omega) fun D₃ s₄ k₄ lo₄ hn₄ => ?_
  have F := F.kp k₄
  refine F.compI [] (fun _ => true) (fun k y => ∃ u, y = .str (T [tc k]) u) ?_
  refine Subscript_ (F.ld rfl (wpAny_Slice (part_some (wpAny_Constant_int (part_some (wpAny_Constant_int (part_none ?_)))))))
  refine tail_mid (a := 3) (b := 5) (isList_keeps hvs (kget (F.tk _).base)) (by omega) fun D o s₅ k₅ ho hnD lo => ?_
  refine ISrc.list hh (ns := (ns.drop 3).take 2) ⟨_, lo.isList ho, IntsAre.takeK (IntsAre.dropK his 3) 2⟩ (kt (ktok _) k₅) fun it s₆ hS => ⟨_, hS, by simp; omega, ?_, ?_, ?_⟩
  · intro C k u s₄ E₄ hk R kk
    exact wpAny_tests_nil ⟨rfl, krfl⟩
  · intro C k u s₄ E₄ hk hp R kk
    have G₄ : Gr w s₄.heap := (F.gr G).keeps kk
    refine R.callf1 (a := 80) G₄ (R.ld rfl ⟨G₄, ?_⟩)
    exact sign_spec G₄ hd' fun t' s' k' => ⟨⟨_, rfl⟩, k'⟩
  clear k₅ ho hnD lo
  intro D₅ s₅ ys₅ k₅ hD₅ hl₅ hF₅
  have F := F.kp k₅
  have hp₅ : Paired strV ys₅.toList (((ns.drop 3).take 2).map fun n => [tc n]) := paired_strs (g := fun n => [tc n]) (by rw [flt] at hF₅; exact hF₅)
  have hy₅ : ys₅.size ≤ 2 := by have := Paired.len hp₅; simp at this; omega
  refine add_lists (us := ys₅.toList) (plain_keeps lo₄ k₅) (by simpa using hl₅) (by simp; omega) fun D₆ s₆ k₆ lo₆ hn₆ => ?_
  have F := F.kp k₆
  have hall : ∀ tk, Paired strV (ys₁.toList ++ [Value.str (Str.ofString "a.ab.b") tk] ++ ys₅.toList) ((ns.take 3).map (fun n => [tc n]) ++ [[97, 46, 97, 98, 46, 98]] ++ ((ns.drop 3).take 2).map fun n => [tc n]) :=
    fun tk => Paired.app (Paired.app hp₁ (.cons ⟨tk, by rw [show T [97, 46, 97, 98, 46, 98] = Str.ofString "a.ab.b" from by decide +kernel]⟩ .nil)) hp₅
  have hgl := glued_len tc [97, 46, 97, 98, 46, 98] ns
  refine join_spec (by decide +kernel) lo₆.isList (hall _) (by rw [glued_flat]; simp at hgl; omega) fun t' tk => ?_
  rw [glued_flat]
  refine (F.tk tk).stc fun s₇ F => ?_
  clear hall hp₅ hp₁
  exact law_rest G hr hh hu (F.weakl rfl) (by have := glued_len pc [97, 42, 46, 42, 98] ns; simp at this; show (gluedOf _ _ _).length ≤ 20; omega) (by have := glued_len tc [97, 46, 97, 98, 46, 98] ns; simp at this; show (gluedOf _ _ _).length ≤ 20; omega) (path_ok ns) (path_two ns) (path_ne ns) h
end
end Mine

set_option maxHeartbeats 8000000 in
theorem PySem.Challenge.cw_ny0064_01_holds : PySem.Challenge.rw_ny0064_01.Holds := by
  refine Mine.hd ?_
  intro w s₀ s₁ mg mb G Y fa o pm cd doc dV kV ho hd hcd hD hmg hg args vals as hpre hlay hrd hwl hlo
  have KX := kIn_of Y
  refine Ground.open G ?_
  intro T B D TE TW
  have e85 : mg (Str.ofString "law") = some (.ref 85) := mg_of KX T.g (by kernel_rfl)
  have hfa : fa = 85 := by
    have : mg (Str.ofString "law") = some (.ref fa) := hmg
    rw [e85] at this
    cases this; rfl
  subst hfa
  clear ho hd hcd hD hmg
  w_on
  wrow_args hpre hlay hrd hwl hlo
  rename_i ns _ _ _ _ _ _ _ a vs _ hL _ _ _ hI _ hc _
  refine Mine.law_spec (ns := ns) ⟨KX, _, _, mg, mb, topRead_of T⟩ (by decide) rfl (by decide) ⟨vs, hL, hI⟩ (by omega) fun s' k => GoodW.toG ?_
  obtain ⟨h', tk, rfl, kk⟩ := k
  exact ⟨.inl ⟨.bool true, .bool true, [], rfl, fun _ => rfl, .bool true, postW_of (by decide +kernel) (w_eq_bool (w_res rfl) w_lit) rfl, fun _ => ⟨List.nodup_nil, fun _ h => nomatch h⟩⟩, kk, rfl, hg⟩
