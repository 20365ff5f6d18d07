import PyProof.Rows.All
import Wide.All
import OpenK.AllK
import Wide.FinOn
import PySem.Challenge.RW_ij0016_01
open PySem PySem.W PyProof.Rows PySem.Calls
set_option Elab.async false
set_option maxRecDepth 100000
set_option linter.unusedVariables false
namespace Mine
set_option maxRecDepth 100000 in
set_option maxHeartbeats 8000000 in
open_top hd for PySem.Challenge.rw_ij0016_01
/-- the program -/
abbrev PG : Program := PySem.Challenge.rw_ij0016_01.row.prog

/-- what a call may lean on: the top's objects stand in the heap -/
structure Gd (w : World) (mg mb : Str → Option Value) (h : Heap) : Prop where
  K : (hd.heap_39 w.params).In h
  g : h.Ns mainGlobals mg
  b : h.Ns builtinsNs mb
  bs : ∀ x : Str, x ≠ "__name__" → mb x = bootBuiltins x

/-- an extension of a heap -/
def Ext (h h' : Heap) : Prop := ∀ b o, h.get? b = some o → h'.get? b = some o
theorem Ext.refl (h : Heap) : Ext h h := fun _ _ e => e
theorem Ext.trans {a b c : Heap} (x : Ext a b) (y : Ext b c) : Ext a c := fun i o e => y i o (x i o e)

theorem Gd.ext {w : World} {mg mb} {h h' : Heap} (G : Gd w mg mb h) (e : Ext h h') : Gd w mg mb h' :=
  ⟨G.K.keeps e, G.g.keeps e, G.b.keeps e, G.bs⟩

theorem Gd.stat {w : World} {mg mb} {h : Heap} (G : Gd w mg mb h) : h.Ns cStatics (fun _ => none) := by
  have q : h.get? 2 = some { cls := Value.none, data := Data.dict #[] } := G.K 2 _ rfl
  exact ⟨_, #[], 0, q, rfl, fun e he => by simp at he, fun k => rfl⟩
theorem Gd.nolimit {w : World} {mg mb} {h : Heap} (G : Gd w mg mb h) : h.NoLimit := ⟨_, G.stat, rfl⟩
theorem Gd.nobook {w : World} {mg mb} {h : Heap} (G : Gd w mg mb h) : NoneBooked h := ⟨_, G.stat, rfl⟩

/-- a call of a def of the top that raises nothing -/
theorem enter {w : World} {mg mb} {A : Around} {s : Shared} {E : Value → Shared → Prop} {Q : Value → Shared → Prop} {f : Addr} {oc : Value} {od : Option Addr} {osl : Array (Option Value)}
    {name qual : Str} {params : Arguments} {body : List Stmt} {scope : Scope} {dV kV doc pm cdv ct : Value} {an : Option Addr} {pos : List Value} {kw : List (Str × Value)} {binds : List (Str × Value)}
    (G : Gd w mg mb s.heap)
    (ho : (hd.heap_39 w.params).lookup f = some ⟨oc, od, .func (fnOf name qual params body scope dV kV doc pm an cdv ct), osl⟩)
    (hcd : codeIn (hd.heap_39 w.params) cdv qual = true) (hroom : A.depth < recursionLimit)
    (hbind : BindsTo s (fnOf name qual params body scope dV kV doc pm an cdv ct) ⟨pos, kw⟩ binds) (hloc : ∀ y ∈ binds, scope.names.lookup y.1 = some .local)
    (h : ∀ h₁, Gd w mg mb h₁ → Fr s.heap s.heap.objs.size h₁ (fun y => binds.reverse.lookup y) →
      wpAny (model PG w) (A.deeper (envOf qual scope s.heap.objs.size f cdv)) (execs body (envOf qual scope s.heap.objs.size f cdv))
        (fun fl s' => Q (match fl with | .ret v => v | _ => .none) s') (fun _ _ => False) { s with heap := h₁, toks := s.toks + binds.length })
    (hco : scope.isCoroutine = false := by rfl) (hgen : scope.isGenerator = false := by rfl) (hk : scope.kind = .function := by rfl)
    (hcell : ∀ x ∈ scope.names, x.2 ≠ .cell := by decide) :
    wpAny (model PG w) A (call (.ref f) pos kw) Q E s := by
  refine wpAny_call ?_
  refine codeAny_call_def (fd := fnOf name qual params body scope dV kV doc pm an cdv ct) (body := body) (binds := binds) hroom (G.K _ _ ho) rfl G.nolimit (codeRec_of G.K hcd) rfl hbind hcell hloc (fun h₁ hns hk₁ => ?_) hco hgen hk
  exact wpAny_mono (h h₁ (G.ext hk₁) ⟨hns, hk₁, Nat.le_refl _⟩) (fun _ _ x => x) fun _ _ x => x.elim
/-- the frame of a call: its locals are m, the heap B is kept, the frame itself is no part of B -/
structure Fm (B : Heap) (L : Addr) (h : Heap) (m : Str → Option Value) : Prop where
  ns : h.Ns L m
  keep : Ext B h
  off : B.get? L = none

theorem Fm.of {B h : Heap} {L : Addr} {m} (F : Fr B L h m) : Fm B L h m := by
  refine ⟨F.ns, F.keep, ?_⟩
  cases q : B.get? L with
  | none => rfl
  | some o => exact absurd (Nat.lt_of_lt_of_le (Heap.lt_size q) F.above) (Nat.lt_irrefl _)
theorem Fm.ext {B h h' : Heap} {L : Addr} {m} (F : Fm B L h m) (e : Ext h h') : Fm B L h' m := ⟨F.ns.keeps e, F.keep.trans e, F.off⟩
theorem Fm.set {B h h' : Heap} {L : Addr} {m m'} (F : Fm B L h m) (hn : h'.Ns L m') (hs : Heap.SameBut L h h') : Fm B L h' m' :=
  ⟨hn, fun b o e => (hs.2 b fun q => by rw [q, F.off] at e; cases e).trans (F.keep b o e), F.off⟩
theorem Fm.but {B h h' : Heap} {L a : Addr} {m} (F : Fm B L h m) (hs : Heap.ExtBut a h h') (ha : B.get? a = none) (hL : L ≠ a) : Fm B L h' m :=
  ⟨let ⟨o, es, ep, ho, r⟩ := F.ns; ⟨o, es, ep, hs _ _ hL ho, r⟩, fun b o e => hs b o (fun q => by rw [q, ha] at e; cases e) (F.keep b o e), F.off⟩
theorem Fm.gd {w mg mb} {B h : Heap} {L : Addr} {m} (F : Fm B L h m) (G : Gd w mg mb B) : Gd w mg mb h := G.ext F.keep

/-- the made things: kit's News -/
theorem newsExt {B h h' : Heap} {L : Addr} {l : List (Addr × Obj)} (N : News B L h l) (e : Ext h h') : News B L h' l := fun p hp => ⟨e _ _ (N p hp).1, (N p hp).2⟩
theorem newsBut {B h h' : Heap} {L a : Addr} {l : List (Addr × Obj)} (N : News B L h l) (hs : Heap.ExtBut a h h') (ha : ∀ p ∈ l, p.1 ≠ a) : News B L h' l :=
  fun p hp => ⟨hs _ _ (ha p hp) (N p hp).1, (N p hp).2⟩
theorem newsSet {B h h' : Heap} {L : Addr} {l : List (Addr × Obj)} (N : News B L h l) (hs : Heap.SameBut L h h') : News B L h' l := N.set hs
theorem newsNew {B h' : Heap} {L a : Addr} {o : Obj} {l : List (Addr × Obj)} (N : News B L h' l) (ho : h'.get? a = some o) (hL : a ≠ L) (hB : B.get? a = none) : News B L h' ((a, o) :: l) := by
  intro p hp
  rcases List.mem_cons.mp hp with rfl | hp
  · exact ⟨ho, hL, hB⟩
  · exact N p hp

theorem ext_push (h : Heap) (o : Obj) : Ext h (h.push o) := fun _ _ e => Heap.get?_push_of_some _ e
theorem fresh_size {B h : Heap} (e : Ext B h) : B.get? h.objs.size = none := by
  cases q : B.get? h.objs.size with
  | none => rfl
  | some o => exact absurd (Heap.lt_size (e _ _ q)) (Nat.lt_irrefl _)
theorem Fm.ne_size {B h : Heap} {L : Addr} {m} (F : Fm B L h m) : h.objs.size ≠ L := fun e => absurd F.ns.lt (e ▸ Nat.lt_irrefl _)
theorem Fm.push {B h : Heap} {L : Addr} {m} (F : Fm B L h m) (o : Obj) : Fm B L (h.push o) m := F.ext (ext_push h o)
theorem newsPush {B h : Heap} {L : Addr} {m} {l : List (Addr × Obj)} (F : Fm B L h m) (N : News B L h l) (o : Obj) (hf : o.isFreed = false := by rfl) : News B L (h.push o) ((h.objs.size, o) :: l) :=
  newsNew (newsExt N (ext_push h o)) (Heap.get?_push_size _ hf) F.ne_size (fresh_size F.keep)

/-- the heap less the things that may turn: a new ground for a loop's turn -/
theorem ground {B h : Heap} {L : Addr} {m} {l : List (Addr × Obj)} (F : Fm B L h m) (N : News B L h l) :
    ∃ B', Ext B B' ∧ Ext B' h ∧ Fm B' L h m ∧ News B' L h l ∧ (∀ b, b ≠ L → (∀ p ∈ l, p.1 ≠ b) → ∀ o, h.get? b = some o → B'.get? b = some o) := by
  refine ⟨hideAll h (L :: l.map (·.1)), fun b o e => hideAll_get _ (F.keep b o e) ?_, fun b o e => of_hideAll _ e, ⟨F.ns, fun b o e => of_hideAll _ e, hideAll_none _ (.head _)⟩,
    fun p hp => ⟨(N p hp).1, (N p hp).2.1, hideAll_none _ (.tail _ (List.mem_map_of_mem hp))⟩, fun b hL hl o e => hideAll_get _ e ?_⟩
  · intro hm
    rcases List.mem_cons.mp hm with rfl | hm
    · rw [F.off] at e; cases e
    · obtain ⟨p, hp, rfl⟩ := List.mem_map.mp hm
      rw [(N p hp).2.2] at e; cases e
  · intro hm
    rcases List.mem_cons.mp hm with q | hm
    · exact hL q
    · obtain ⟨p, hp, q⟩ := List.mem_map.mp hm
      exact hl p hp q
theorem Fm.down {B B' h : Heap} {L : Addr} {m} (F : Fm B' L h m) (e : Ext B B') : Fm B L h m := by
  refine ⟨F.ns, e.trans F.keep, ?_⟩
  cases q : B.get? L with
  | none => rfl
  | some o => have := e _ _ q; rw [F.off] at this; cases this
theorem newsDown {B B' h : Heap} {L : Addr} {l : List (Addr × Obj)} (N : News B' L h l) (e : Ext B B') : News B L h l := fun p hp => by
  refine ⟨(N p hp).1, (N p hp).2.1, ?_⟩
  cases q : B.get? p.1 with
  | none => rfl
  | some o => have := e _ _ q; rw [(N p hp).2.2] at this; cases this

section
variable {M : Model} {A : Around} {E : Value → Shared → Prop} {s : Shared} {env : Env} {B : Heap} {m : Str → Option Value} {l : List (Addr × Obj)}

/-- a local name read -/
theorem ldL {x : Str} {pos : Pos} {v : Value} {Q : Value → Shared → Prop} (F : Fm B env.locals s.heap m) (hv : m x = some v) (h : Q v s)
    (hk : env.scope.kind = .function := by rfl) (hl : env.kindOf x = some .local := by rfl) (hd : (x == ("__debug__" : Str)) = false := by decide) :
    wpAny M A (eval (.Name x pos) env) Q E s := wpAny_Name (wpAny_loadName_local hk hl F.ns hv h) hd

/-- a local name stored -/
theorem stL {x : Str} {v : Value} {Q : Unit → Shared → Prop} (F : Fm B env.locals s.heap m) (N : News B env.locals s.heap l)
    (h : ∀ h', Fm B env.locals h' (fun y => if y = x then some v else m y) → News B env.locals h' l → Q () { s with heap := h', toks := s.toks + 1 })
    (hl : env.kindOf x = some .local := by rfl)
    (hp : (env.scope.kind == .class || (env.scope.kind == .module && env.locals != env.globals)) = false := by rfl) :
    wpAny M A (storeName env x v) Q E s :=
  wpAny_storeName_local hl F.ns (fun h' hn hs => h h' (F.set hn hs) (N.set hs)) hp

/-- a name of the top read -/
theorem ldG {w : World} {mg mb} {x : Str} {pos : Pos} {v : Value} {Q : Value → Shared → Prop} (G : Gd w mg mb s.heap) (e : nsIn (hd.heap_39 w.params) mainGlobals x = some (some v)) (h : Q v s)
    (hk : env.scope.kind = .function := by rfl) (hl : env.kindOf x = some .globalImplicit := by rfl) (hg : env.globals = mainGlobals := by rfl) (hd : (x == ("__debug__" : Str)) = false := by decide) :
    wpAny M A (eval (.Name x pos) env) Q E s :=
  Name_function_global hk hl (loadGlobal_global (hg ▸ G.g) (mg_of G.K G.g e) h) hd

/-- a name of the builtins read -/
theorem ldB {w : World} {mg mb} {x : Str} {pos : Pos} {v : Value} {Q : Value → Shared → Prop} (G : Gd w mg mb s.heap) (e : nsIn (hd.heap_39 w.params) mainGlobals x = some none) (hv : bootBuiltins x = some v)
    (hn : x ≠ "__name__") (h : Q v s)
    (hk : env.scope.kind = .function := by rfl) (hl : env.kindOf x = some .globalImplicit := by rfl) (hg : env.globals = mainGlobals := by rfl) (hb : env.builtins = builtinsNs := by rfl)
    (hd : (x == ("__debug__" : Str)) = false := by decide) :
    wpAny M A (eval (.Name x pos) env) Q E s :=
  Name_function_global hk hl (loadGlobal_builtin (hg ▸ G.g) (mg_none_of G.K G.g e) (hb ▸ G.b) ((G.bs x hn).trans hv) h) hd
end
/-- a call of a def of the top that raises nothing: the frame, and a token's count above nought -/
theorem enterM {w : World} {mg mb} {A : Around} {s : Shared} {E : Value → Shared → Prop} {Q : Value → Shared → Prop} {f : Addr} {oc : Value} {od : Option Addr} {osl : Array (Option Value)}
    {name qual : Str} {params : Arguments} {body : List Stmt} {scope : Scope} {dV kV doc pm cdv ct : Value} {an : Option Addr} {pos : List Value} {kw : List (Str × Value)} (binds : List (Str × Value))
    (G : Gd w mg mb s.heap)
    (ho : (hd.heap_39 w.params).lookup f = some ⟨oc, od, .func (fnOf name qual params body scope dV kV doc pm an cdv ct), osl⟩)
    (hcd : codeIn (hd.heap_39 w.params) cdv qual = true) (hroom : A.depth < recursionLimit)
    (hbind : BindsTo s (fnOf name qual params body scope dV kV doc pm an cdv ct) ⟨pos, kw⟩ binds) (hloc : ∀ y ∈ binds, scope.names.lookup y.1 = some .local)
    (hb : 0 < binds.length)
    (h : ∀ h₁ L tk, s.toks < tk → Gd w mg mb h₁ → Fm s.heap L h₁ (fun y => binds.reverse.lookup y) →
      wpAny (model PG w) (A.deeper (envOf qual scope L f cdv)) (execs body (envOf qual scope L f cdv))
        (fun fl s' => Q (match fl with | .ret v => v | _ => .none) s') (fun _ _ => False) { s with heap := h₁, toks := tk })
    (hco : scope.isCoroutine = false := by rfl) (hgen : scope.isGenerator = false := by rfl) (hk : scope.kind = .function := by rfl)
    (hcell : ∀ x ∈ scope.names, x.2 ≠ .cell := by decide) :
    wpAny (model PG w) A (call (.ref f) pos kw) Q E s :=
  enter G ho hcd hroom hbind hloc (fun h₁ G₁ F₁ => h h₁ _ _ (Nat.lt_add_of_pos_right hb) G₁ (Fm.of F₁)) hco hgen hk hcell
theorem Gd.size {w : World} {mg mb} {h : Heap} (G : Gd w mg mb h) : 2 < h.objs.size := by
  have q : h.get? 2 = some { cls := Value.none, data := Data.dict #[] } := G.K 2 _ rfl
  exact Heap.lt_size q
theorem Gd.sys {w : World} {mg mb} {h : Heap} (G : Gd w mg mb h) {b : Addr} (hb : h.objs.size ≤ b) : (b == sysModules) = false :=
  beq_eq_false_iff_ne.mpr fun e => by
    have h1 := G.size
    have h2 : @LE.le Nat _ h.objs.size 1 := by rw [e] at hb; exact hb
    exact absurd (Nat.lt_of_lt_of_le h1 h2) (by decide)
theorem fdiv_ {w : World} {A : Around} {s : Shared} {E : Value → Shared → Prop} {a b : Int} {t u : Tok} {Q : Value → Shared → Prop} (h0 : b ≠ 0) (hs : b.natAbs < 1073741824) (h : Q (.int (a.fdiv b) s.toks) { s with toks := s.toks + 1 }) :
    wpAny (model PG w) A (binaryOp .FloorDiv (.int a t) (.int b u)) Q E s := PyProof.Rows.floordiv_int h0 h (Or.inl (PyProof.noPylong_small hs))
section
variable {w : World} {A : Around} {E : Value → Shared → Prop} {s : Shared} {env : Env}

/-- what a turn of a loop leaves behind, told with the tokens -/
def TurnedT (B : Heap) (L : Addr) (l : List (Addr × Obj)) (J : Tok → (Str → Option Value) → List (Addr × Obj) → Prop) (s s' : Shared) : Prop :=
  ∃ h' tk m' l', s' = { s with heap := h', toks := tk } ∧ s.toks ≤ tk ∧ Fm B L h' m' ∧ News B L h' l' ∧ l'.map (·.1) = l.map (·.1) ∧ J tk m' l'

theorem TurnedT.mk {B : Heap} {L : Addr} {l l' : List (Addr × Obj)} {J : Tok → (Str → Option Value) → List (Addr × Obj) → Prop} {s : Shared} {h' : Heap} {tk : Nat} {m'}
    (ht : s.toks ≤ tk) (F : Fm B L h' m') (N : News B L h' l') (e : l'.map (·.1) = l.map (·.1)) (j : J tk m' l') : TurnedT B L l J s { s with heap := h', toks := tk } := ⟨h', tk, m', l', rfl, ht, F, N, e, j⟩

/-- what a turn of a loop leaves behind -/
def Turned (B : Heap) (L : Addr) (l : List (Addr × Obj)) (J : (Str → Option Value) → List (Addr × Obj) → Prop) (s s' : Shared) : Prop :=
  ∃ h' tk m' l', s' = { s with heap := h', toks := tk } ∧ s.toks ≤ tk ∧ Fm B L h' m' ∧ News B L h' l' ∧ l'.map (·.1) = l.map (·.1) ∧ J m' l'

theorem Turned.mk {B : Heap} {L : Addr} {l l' : List (Addr × Obj)} {J : (Str → Option Value) → List (Addr × Obj) → Prop} {s : Shared} {h' : Heap} {tk : Nat} {m'}
    (ht : s.toks ≤ tk) (F : Fm B L h' m') (N : News B L h' l') (e : l'.map (·.1) = l.map (·.1)) (j : J m' l') : Turned B L l J s { s with heap := h', toks := tk } := ⟨h', tk, m', l', rfl, ht, F, N, e, j⟩

/-- a for loop over any source that Walks tells; the turn may turn the locals and the things of l, nothing else -/
theorem for_genT {target : Expr} {body : List Stmt} {I : Addr} {fp wr : List Addr} {n : Nat} {P : Nat → Value → Prop} {St : Nat → Heap → Prop} {B : Heap} {m : Str → Option Value} {l : List (Addr × Obj)} {Q : Flow → Shared → Prop}
    (W : Walks PG w A I fp wr n P St) (J : Nat → Tok → (Str → Option Value) → List (Addr × Obj) → Prop) (mono : ∀ i k k' m l, k ≤ k' → J i k m l → J i k' m l)
    (hLf : env.locals ∉ fp) (hlf : ∀ p ∈ l, p.1 ∉ fp) (hwr : ∀ b ∈ wr, B.get? b = none)
    (hst : St 0 s.heap) (F : Fm B env.locals s.heap m) (N : News B env.locals s.heap l) (h0 : J 0 s.toks m l)
    (hgo : ∀ i v (s₁ : Shared) (q : Unit → Shared → Prop) (E' : Value → Shared → Prop), P i v → St (i + 1) s₁.heap → q () s₁ → wpAny (model PG w) A (letOwnedTupleGo target (.ref I) v) q E' s₁)
    (step : ∀ i v m₁ l₁ B' h tk, i < n → P i v → s.toks ≤ tk → Ext B B' → Ext B' h → Fm B' env.locals h m₁ → News B' env.locals h l₁ → l₁.map (·.1) = l.map (·.1) → J i tk m₁ l₁ →
      wpAny (model PG w) A (assign target env v) (fun _ s₂ => wpAny (model PG w) A (execs body env) (fun f s₃ => match f with
        | .next | .cont => TurnedT B' env.locals l (J (i + 1)) { s with heap := h, toks := tk } s₃
        | .brk => False
        | .ret _ => False) (fun _ _ => False) s₂) (fun _ _ => False) { s with heap := h, toks := tk })
    (done : ∀ m₁ l₁ h tk, s.toks ≤ tk → Fm B env.locals h m₁ → News B env.locals h l₁ → l₁.map (·.1) = l.map (·.1) → J n tk m₁ l₁ → Q .next { s with heap := h, toks := tk }) :
    codeAny (model PG w) A (.forLoop target (.ref I) body [] env) (fun r s' => match r with | .ok f => Q f s' | .error e => cameBackBy (model PG w) A env E e s') s := by
  have hLw : env.locals ∉ wr := fun h => hLf (W.sub _ h)
  refine codeAny_forLoop_any
    (fun k s' => ∃ h' tk m' l' i, s' = { s with heap := h', toks := tk } ∧ s.toks ≤ tk ∧ St i h' ∧ Fm B env.locals h' m' ∧ News B env.locals h' l' ∧ l'.map (·.1) = l.map (·.1) ∧ J i tk m' l' ∧ i ≤ n ∧ k = n + 1 - i) ?_ (n + 1)
    ⟨s.heap, s.toks, m, l, 0, rfl, Nat.le_refl _, hst, F, N, rfl, h0, Nat.zero_le _, rfl⟩
  rintro k s' ⟨h', tk, m', l', i, rfl, htk, hst', F', N', hl', hJ, hi, rfl⟩
  have hlw : ∀ p ∈ l', p.1 ∉ fp := fun p hp hf => by
    have : p.1 ∈ l.map (·.1) := hl' ▸ List.mem_map_of_mem hp
    obtain ⟨q, hq, e⟩ := List.mem_map.mp this
    exact hlf q hq (e ▸ hf)
  have next : ∀ h₁ : Heap, (∀ b o, b ∉ wr → h'.get? b = some o → h₁.get? b = some o) → Fm B env.locals h₁ m' ∧ News B env.locals h₁ l' := fun h₁ hk₁ =>
    ⟨⟨F'.ns.at' fun o e => hk₁ _ o hLw e, fun b o e => hk₁ b o (fun hb => by rw [hwr b hb] at e; cases e) (F'.keep b o e), F'.off⟩,
      fun p hp => ⟨hk₁ _ _ (fun hb => hlw p hp (W.sub _ hb)) (N' p hp).1, (N' p hp).2⟩⟩
  by_cases hlt : i < n
  · refine wpAny_with_toks (n := tk) (Nat.le_refl _) (W.item i _ _ _ hlt hst' fun v h₁ tk₁ hP hst₁ hk₁ ht₁ => ?_)
    replace ht₁ : tk ≤ tk₁ := ht₁
    replace hJ := mono _ _ _ _ _ ht₁ hJ
    replace ht₁ : s.toks ≤ tk₁ := Nat.le_trans htk ht₁
    obtain ⟨F₁, N₁⟩ := next h₁ hk₁
    refine hgo i v _ _ _ hP hst₁ ?_
    obtain ⟨B', e1, e2, F₂, N₂, ap⟩ := ground F₁ N₁
    refine wpAny_mono (step i v m' l' B' h₁ tk₁ hlt hP ht₁ e1 e2 F₂ N₂ hl' hJ) (fun _ s₂ h₂ => wpAny_mono h₂ (fun f s₃ h₃ => ?_) fun _ _ x => x.elim) fun _ _ x => x.elim
    have fin : TurnedT B' env.locals l (J (i + 1)) { s with heap := h₁, toks := tk₁ } s₃ → ∃ k', k' < n + 1 - i ∧ ∃ h' tk m' l' i, s₃ = { s with heap := h', toks := tk } ∧ s.toks ≤ tk ∧ St i h' ∧ Fm B env.locals h' m' ∧ News B env.locals h' l' ∧ l'.map (·.1) = l.map (·.1) ∧ J i tk m' l' ∧ i ≤ n ∧ k' = n + 1 - i := by
      rintro ⟨h₄, tk₄, m₄, l₄, rfl, ht₄, F₄, N₄, hl₄, hJ₄⟩
      refine ⟨n + 1 - (i + 1), by omega, h₄, tk₄, m₄, l₄, i + 1, rfl, Nat.le_trans ht₁ ht₄, ?_, F₄.down e1, newsDown N₄ e1, hl₄, hJ₄, hlt, rfl⟩
      refine W.frame _ _ _ hst₁ fun b hb o e => F₄.keep b o (ap b (fun q => hLf (q ▸ hb)) (fun p hp q => hlw p hp (q ▸ hb)) o e)
    cases f with
    | next => exact fin h₃
    | cont => exact fin h₃
    | brk => exact h₃.elim
    | ret v => exact h₃.elim
  · have hin : i = n := by omega
    subst hin
    refine wpAny_with_toks (n := tk) (Nat.le_refl _) (W.done _ _ _ hst' fun h₁ tk₁ hk₁ ht₁ => wpAny_execs_nil ?_)
    replace ht₁ : tk ≤ tk₁ := ht₁
    replace hJ := mono _ _ _ _ _ ht₁ hJ
    replace ht₁ : s.toks ≤ tk₁ := Nat.le_trans htk ht₁
    obtain ⟨F₁, N₁⟩ := next h₁ hk₁
    exact done m' l' h₁ tk₁ ht₁ F₁ N₁ hl' hJ
/-- a for loop over any source that Walks tells; the turn may turn the locals and the things of l, nothing else -/
theorem for_gen {target : Expr} {body : List Stmt} {I : Addr} {fp wr : List Addr} {n : Nat} {P : Nat → Value → Prop} {St : Nat → Heap → Prop} {B : Heap} {m : Str → Option Value} {l : List (Addr × Obj)} {Q : Flow → Shared → Prop}
    (W : Walks PG w A I fp wr n P St) (J : Nat → (Str → Option Value) → List (Addr × Obj) → Prop)
    (hLf : env.locals ∉ fp) (hlf : ∀ p ∈ l, p.1 ∉ fp) (hwr : ∀ b ∈ wr, B.get? b = none)
    (hst : St 0 s.heap) (F : Fm B env.locals s.heap m) (N : News B env.locals s.heap l) (h0 : J 0 m l)
    (hgo : ∀ i v (s₁ : Shared) (q : Unit → Shared → Prop) (E' : Value → Shared → Prop), P i v → St (i + 1) s₁.heap → q () s₁ → wpAny (model PG w) A (letOwnedTupleGo target (.ref I) v) q E' s₁)
    (step : ∀ i v m₁ l₁ B' h tk, i < n → P i v → s.toks ≤ tk → Ext B B' → Ext B' h → Fm B' env.locals h m₁ → News B' env.locals h l₁ → l₁.map (·.1) = l.map (·.1) → J i m₁ l₁ →
      wpAny (model PG w) A (assign target env v) (fun _ s₂ => wpAny (model PG w) A (execs body env) (fun f s₃ => match f with
        | .next | .cont => Turned B' env.locals l (J (i + 1)) { s with heap := h, toks := tk } s₃
        | .brk => False
        | .ret _ => False) (fun _ _ => False) s₂) (fun _ _ => False) { s with heap := h, toks := tk })
    (done : ∀ m₁ l₁ h tk, s.toks ≤ tk → Fm B env.locals h m₁ → News B env.locals h l₁ → l₁.map (·.1) = l.map (·.1) → J n m₁ l₁ → Q .next { s with heap := h, toks := tk }) :
    codeAny (model PG w) A (.forLoop target (.ref I) body [] env) (fun r s' => match r with | .ok f => Q f s' | .error e => cameBackBy (model PG w) A env E e s') s := for_genT W (fun i _ m l => J i m l) (fun _ _ _ _ _ _ x => x) hLf hlf hwr hst F N h0 hgo step done
end
section
variable {w : World} {A : Around} {E : Value → Shared → Prop} {s : Shared} {env : Env}

/-- the comprehension's loop, for any target -/
theorem compLoop_any {R : Result → Shared → Prop} {elt target iter : Expr} {scope : Scope} {pos : Pos} {it acc : Value} {cenv : Env} (I : Nat → Shared → Prop)
    (turn : ∀ n s, I n s → wpAny (model PG w) A (pyNext it) (fun r s₁ => match r with
      | none => R (.ok .next) s₁
      | some v => wpAny (model PG w) A (letOwnedTupleGo target it v) (fun _ s₁' => wpAny (model PG w) A (assign target cenv v) (fun _ s₂ => wpAny (model PG w) A (eval elt cenv) (fun x s₃ =>
          wpAny (model PG w) A (call (.builtin "list.append") [acc, x]) (fun _ s₄ => ∃ m, m < n ∧ I m s₄) (fun _ _ => False) s₃)
          (fun _ _ => False) s₂) (fun _ _ => False) s₁') (fun _ _ => False) s₁) (fun _ _ => False) s)
    (n : Nat) (h : I n s) :
    codeAny (model PG w) A (.compLoop (.ListComp elt [⟨target, iter, [], 0⟩] scope pos) 0 it acc cenv) R s := by
  refine codeAny_loop rfl I (fun n s hI => ?_) n h
  show wpAny _ _ ((compTurn (.ListComp elt [⟨target, iter, [], 0⟩] scope pos) 0 it acc cenv).onRaise (fun x => do noteFrame x cenv; theTreesLotGoes x)) _ _ s
  refine wpAny_noted ?_
  rw [compTurn_list1]
  refine wpAny_bind (wpAny_standAt (wpAny_bind (wpAny_mono (turn n s hI) (fun r s₁ h₁ => ?_) fun _ _ h' => h'.elim)))
  cases r with
  | none => exact wpAny_pure h₁
  | some v =>
    refine wpAny_bind (wpAny_mono h₁ (fun _ s₁' h₁' => ?_) fun _ _ h' => h'.elim)
    exact wpAny_bind (wpAny_mono h₁' (fun _ s₂ h₂ => wpAny_bind (wpAny_bind (wpAny_mono h₂ (fun x s₃ h₃ => wpAny_bind (wpAny_mono h₃
      (fun _ s₄ h₄ => wpAny_pure (wpAny_pure ⟨rfl, h₄⟩)) fun _ _ h' => h'.elim)) fun _ _ h' => h'.elim))) fun _ _ h' => h'.elim)

/-- a list comprehension with one source and no test: its elements may turn the things of l -/
theorem comp_genT {target elt iter : Expr} {scope : Scope} {cl : List (Str × Addr)} {pos : Pos} {I : Addr} {fp wr : List Addr} {n : Nat} {P : Nat → Value → Prop} {St : Nat → Heap → Prop} {B : Heap} {m : Str → Option Value}
    {l : List (Addr × Obj)} {Q : Value → Shared → Prop}
    (W : Walks PG w A I fp wr n P St) (J : Nat → Tok → List Value → List (Addr × Obj) → Prop) (mono : ∀ i k k' ys l, k ≤ k' → J i k ys l → J i k' ys l)
    (hcell : ∀ y ∈ scope.names, y.2 ≠ .cell) (hkind : scope.kind = .function) (hsz : n ≤ sizeLine)
    (hLf : env.locals ∉ fp) (hlf : ∀ p ∈ l, p.1 ∉ fp) (hwr : ∀ b ∈ wr, B.get? b = none) (hfp : ∀ b ∈ fp, b < s.heap.objs.size)
    (hst : St 0 s.heap) (F : Fm B env.locals s.heap m) (N : News B env.locals s.heap l) (h0 : J 0 s.toks [] l)
    (hgo : ∀ i v (s₁ : Shared) (q : Unit → Shared → Prop) (E' : Value → Shared → Prop), P i v → St (i + 1) s₁.heap → q () s₁ → wpAny (model PG w) A (letOwnedTupleGo target (.ref I) v) q E' s₁)
    (step : ∀ i v ys l₁ B' C mC h tk, i < n → P i v → s.toks ≤ tk → Ext B B' → Ext B' h → B'.Ns env.locals m → Fm B' C h mC → News B' C h l₁ → l₁.map (·.1) = l.map (·.1) → J i tk ys l₁ →
      wpAny (model PG w) A (assign target (compEnvC scope cl C env) v) (fun _ s₂ => wpAny (model PG w) A (eval elt (compEnvC scope cl C env)) (fun x s₃ =>
        TurnedT B' C l (fun k _ l' => J (i + 1) k (ys ++ [x]) l') { s with heap := h, toks := tk } s₃) (fun _ _ => False) s₂) (fun _ _ => False) { s with heap := h, toks := tk })
    (done : ∀ ys l₁ D nD h tk, s.toks ≤ tk → ys.length = n → Fm B env.locals h m → News B env.locals h ((D, listOf ys.toArray nD) :: l₁) → (∀ p ∈ l₁, p.1 ≠ D) → l₁.map (·.1) = l.map (·.1) → J n tk ys l₁ →
      s.heap.get? D = none → Q (.ref D) { s with heap := h, toks := tk }) :
    wpAny (model PG w) A (newList []) (fun acc s₃ => wpAny (model PG w) A (newFunctionEnv scope env.globals cl [] env.qual none .none (some env)) (fun cenv s₄ =>
      codeAny (model PG w) A (.compStart (.ListComp elt [⟨target, iter, [], 0⟩] scope pos) 0 (.ref I) acc { cenv with scope := relabel scope env }) (compPost (model PG w) A E none Q acc cenv.locals) s₄) E s₃) E s := by
  refine wpAny_newObj_type (wpAny_newFunctionEnv hcell (by intro y hy; simp at hy) (fun h₁ hns₁ hsb₁ => ?_) hkind)
  dsimp only at hns₁ hsb₁ ⊢
  generalize hH2 : s.heap.push { cls := .type "list", dict := none, data := .seq ([] : List Value).toArray } = H2 at hns₁ hsb₁ ⊢
  have hC : H2.objs.size = s.heap.objs.size + 1 := by rw [← hH2, Heap.size_push]
  generalize hDd : s.heap.objs.size = D at *
  generalize hCd : H2.objs.size = C at *
  have dC : @LT.lt Nat _ D C := by have h9 : @Eq Nat C (D + 1) := hC; omega
  have hDC : D ≠ C := Nat.ne_of_lt dC
  have ne2 : ∀ b : Addr, b < D → b ≠ D ∧ b ≠ C := fun b hb => ⟨Nat.ne_of_lt hb, Nat.ne_of_lt (Nat.lt_trans hb dC)⟩
  have old : ∀ b o, s.heap.get? b = some o → h₁.get? b = some o := fun b o e => by
    have hb := ne2 b (hDd ▸ Heap.lt_size e)
    exact hsb₁.extBut b o hb.2 (Heap.get?_push_of_some _ (hH2 ▸ Heap.get?_push_of_some _ e))
  have sD : s.heap.get? D = none := by
    cases q : s.heap.get? D with
    | none => rfl
    | some o => exact absurd rfl (ne2 D (Nat.lt_of_lt_of_le (Heap.lt_size q) (Nat.le_of_eq hDd))).1
  have sC : s.heap.get? C = none := by
    cases q : s.heap.get? C with
    | none => rfl
    | some o => exact absurd rfl (ne2 C (Nat.lt_of_lt_of_le (Heap.lt_size q) (Nat.le_of_eq hDd))).2
  have BD : B.get? D = none := by
    cases q : B.get? D with
    | none => rfl
    | some o => have := F.keep _ _ q; rw [sD] at this; cases this
  have BC : B.get? C = none := by
    cases q : B.get? C with
    | none => rfl
    | some o => have := F.keep _ _ q; rw [sC] at this; cases this
  have LD : env.locals ≠ D := (ne2 _ (hDd ▸ F.ns.lt)).1
  have LC : env.locals ≠ C := (ne2 _ (hDd ▸ F.ns.lt)).2
  have lD : ∀ p ∈ l, p.1 ≠ D := fun p hp => (ne2 _ (hDd ▸ Heap.lt_size (N p hp).1)).1
  have lC : ∀ p ∈ l, p.1 ≠ C := fun p hp => (ne2 _ (hDd ▸ Heap.lt_size (N p hp).1)).2
  have hDf : D ∉ fp := fun hm => (ne2 _ (hfp _ hm)).1 rfl
  have hCf : C ∉ fp := fun hm => (ne2 _ (hfp _ hm)).2 rfl
  have hLw : env.locals ∉ wr := fun h => hLf (W.sub _ h)
  have hacc : h₁.PlainList D #[] := ⟨_, hsb₁.extBut _ _ hDC (Heap.get?_push_of_some _ (hH2 ▸ (hDd ▸ Heap.get?_push_size _ rfl)))⟩
  have hst₁ : St 0 h₁ := W.frame _ _ _ hst fun b _ o e => old b o e
  have key : codeAny (model PG w) A (.compLoop (.ListComp elt [⟨target, iter, [], 0⟩] scope pos) 0 (.ref I) (.ref D) (compEnvC scope cl C env))
      (compPost (model PG w) A E none Q (.ref D) C) { s with heap := h₁, toks := s.toks + ([] : List (Str × Value)).length } := by
    refine compLoop_any (fun k s' => ∃ h' tk mC l' ys i, s' = { s with heap := h', toks := tk } ∧ s.toks ≤ tk ∧ St i h' ∧ h'.Ns C mC ∧ h'.PlainList D (List.toArray ys) ∧ ys.length = i ∧ Fm B env.locals h' m ∧ News B env.locals h' l' ∧
      l'.map (·.1) = l.map (·.1) ∧ J i tk ys l' ∧ i ≤ n ∧ k = n + 1 - i) ?_ (n + 1)
      ⟨h₁, _, _, l, [], 0, rfl, Nat.le_add_right _ _, hst₁, hns₁, hacc, rfl, F.ext old, newsExt N old, rfl, h0, Nat.zero_le _, rfl⟩
    rintro k s' ⟨h', tk, mC, l', ys, i, rfl, htk, hst', hn', hpl', hys, F', N', hl', hJ, hi, rfl⟩
    have inl : ∀ p ∈ l', ∃ q ∈ l, q.1 = p.1 := fun p hp => by
      have : p.1 ∈ l.map (·.1) := hl' ▸ List.mem_map_of_mem hp
      obtain ⟨q, hq, e⟩ := List.mem_map.mp this
      exact ⟨q, hq, e⟩
    have hlw : ∀ p ∈ l', p.1 ∉ fp := fun p hp hf => by obtain ⟨q, hq, e⟩ := inl p hp; exact hlf q hq (e ▸ hf)
    have lD' : ∀ p ∈ l', p.1 ≠ D := fun p hp => by obtain ⟨q, hq, e⟩ := inl p hp; exact e ▸ lD q hq
    have lC' : ∀ p ∈ l', p.1 ≠ C := fun p hp => by obtain ⟨q, hq, e⟩ := inl p hp; exact e ▸ lC q hq
    have hDw : D ∉ wr := fun h => hDf (W.sub _ h)
    have hCw : C ∉ wr := fun h => hCf (W.sub _ h)
    have next : ∀ g : Heap, (∀ b o, b ∉ wr → h'.get? b = some o → g.get? b = some o) → Fm B env.locals g m ∧ News B env.locals g l' ∧ g.Ns C mC ∧ g.PlainList D ys.toArray := fun g hk₁ =>
      ⟨⟨F'.ns.at' fun o e => hk₁ _ o hLw e, fun b o e => hk₁ b o (fun hb => by rw [hwr b hb] at e; cases e) (F'.keep b o e), F'.off⟩,
        fun p hp => ⟨hk₁ _ _ (fun hb => hlw p hp (W.sub _ hb)) (N' p hp).1, (N' p hp).2⟩, hn'.at' fun o e => hk₁ _ o hCw e, hpl'.at fun o e => hk₁ _ o hDw e⟩
    by_cases hlt : i < n
    · refine wpAny_with_toks (n := tk) (Nat.le_refl _) (W.item i _ _ _ hlt hst' fun v g tk₁ hP hst₁ hk₁ ht₁ => ?_)
      replace ht₁ : tk ≤ tk₁ := ht₁
      replace hJ := mono _ _ _ _ _ ht₁ hJ
      replace ht₁ : s.toks ≤ tk₁ := Nat.le_trans htk ht₁
      obtain ⟨F₁, N₁, hn₁, hp₁⟩ := next g hk₁
      refine hgo i v _ _ _ hP hst₁ ?_
      have FC : Fm B C g mC := ⟨hn₁, F₁.keep, BC⟩
      have NC : News B C g l' := fun p hp => ⟨(N₁ p hp).1, lC' p hp, (N₁ p hp).2.2⟩
      obtain ⟨B', e1, e2, F₂, N₂, ap⟩ := ground FC NC
      have Lin : B'.Ns env.locals m := F₁.ns.at' fun o e => ap _ LC (fun p hp => (N₁ p hp).2.1) o e
      obtain ⟨nD, hDo⟩ := id hp₁
      have Din := ap _ hDC lD' _ hDo
      refine wpAny_mono (step i v ys l' B' C mC g tk₁ hlt hP ht₁ e1 e2 Lin F₂ N₂ hl' hJ) (fun _ s₂ h₂ => wpAny_mono h₂ (fun x s₃ h₃ => ?_) fun _ _ x => x.elim) fun _ _ x => x.elim
      obtain ⟨h₄, tk₄, m₄, l₄, rfl, ht₄, F₄, N₄, hl₄, hJ₄⟩ := h₃
      replace ht₄ : tk₁ ≤ tk₄ := ht₄
      have inl₄ : ∀ p ∈ l₄, ∃ q ∈ l, q.1 = p.1 := fun p hp => by
        have : p.1 ∈ l.map (·.1) := hl₄ ▸ List.mem_map_of_mem hp
        obtain ⟨q, hq, e⟩ := List.mem_map.mp this
        exact ⟨q, hq, e⟩
      refine wpAny_list_append_plain (hsz := by rw [List.size_toArray]; omega) ⟨nD, F₄.keep _ _ Din⟩ fun h₅ hp₅ hs₅ => ?_
      refine ⟨n + 1 - (i + 1), by omega, h₅, tk₄, m₄, l₄, ys ++ [x], i + 1, rfl, Nat.le_trans ht₁ ht₄, ?_, F₄.ns.sameBut hs₅ (Ne.symm hDC), ?_, by simp [hys], ?_, ?_, hl₄, hJ₄, hlt, rfl⟩
      · refine W.frame _ _ _ hst₁ fun b hb o e => hs₅.extBut b o (fun q => hDf (q ▸ hb)) (F₄.keep b o (ap b (fun q => hCf (q ▸ hb)) (fun p hp q => hlw p hp (q ▸ hb)) o e))
      · simpa using hp₅
      · exact ⟨(Lin.keeps F₄.keep).sameBut hs₅ LD, fun b o e => hs₅.extBut b o (fun q => by rw [q, BD] at e; cases e) (F₄.keep b o (e1 b o e)), F'.off⟩
      · intro p hp
        obtain ⟨q, hq, e⟩ := inl₄ p hp
        exact ⟨hs₅.extBut _ _ (e ▸ lD q hq) (N₄ p hp).1, e ▸ (N q hq).2.1, e ▸ (N q hq).2.2⟩
    · have hin : i = n := by omega
      subst hin
      refine wpAny_with_toks (n := tk) (Nat.le_refl _) (W.done _ _ _ hst' fun g tk₁ hk₁ ht₁ => ?_)
      replace ht₁ : tk ≤ tk₁ := ht₁
      replace hJ := mono _ _ _ _ _ ht₁ hJ
      replace ht₁ : s.toks ≤ tk₁ := Nat.le_trans htk ht₁
      obtain ⟨F₁, N₁, hn₁, hp₁⟩ := next g hk₁
      refine ⟨mC, hn₁, fun h'' hs'' => ?_⟩
      obtain ⟨nD, hDo⟩ := hp₁
      refine done ys l' D nD h'' tk₁ ht₁ hys (F₁.but hs''.extBut BC LC) ?_ lD' hl' hJ sD
      exact newsNew (newsBut N₁ hs''.extBut lC') (hs''.extBut _ _ hDC hDo) (Ne.symm LD) BD
  exact codeAny_compStart_list key (W.self 0 _ _ _ hst₁ key)
/-- a list comprehension with one source and no test: its elements may turn the things of l -/
theorem comp_gen {target elt iter : Expr} {scope : Scope} {cl : List (Str × Addr)} {pos : Pos} {I : Addr} {fp wr : List Addr} {n : Nat} {P : Nat → Value → Prop} {St : Nat → Heap → Prop} {B : Heap} {m : Str → Option Value}
    {l : List (Addr × Obj)} {Q : Value → Shared → Prop}
    (W : Walks PG w A I fp wr n P St) (J : Nat → List Value → List (Addr × Obj) → Prop)
    (hcell : ∀ y ∈ scope.names, y.2 ≠ .cell) (hkind : scope.kind = .function) (hsz : n ≤ sizeLine)
    (hLf : env.locals ∉ fp) (hlf : ∀ p ∈ l, p.1 ∉ fp) (hwr : ∀ b ∈ wr, B.get? b = none) (hfp : ∀ b ∈ fp, b < s.heap.objs.size)
    (hst : St 0 s.heap) (F : Fm B env.locals s.heap m) (N : News B env.locals s.heap l) (h0 : J 0 [] l)
    (hgo : ∀ i v (s₁ : Shared) (q : Unit → Shared → Prop) (E' : Value → Shared → Prop), P i v → St (i + 1) s₁.heap → q () s₁ → wpAny (model PG w) A (letOwnedTupleGo target (.ref I) v) q E' s₁)
    (step : ∀ i v ys l₁ B' C mC h tk, i < n → P i v → s.toks ≤ tk → Ext B B' → Ext B' h → B'.Ns env.locals m → Fm B' C h mC → News B' C h l₁ → l₁.map (·.1) = l.map (·.1) → J i ys l₁ →
      wpAny (model PG w) A (assign target (compEnvC scope cl C env) v) (fun _ s₂ => wpAny (model PG w) A (eval elt (compEnvC scope cl C env)) (fun x s₃ =>
        Turned B' C l (fun _ l' => J (i + 1) (ys ++ [x]) l') { s with heap := h, toks := tk } s₃) (fun _ _ => False) s₂) (fun _ _ => False) { s with heap := h, toks := tk })
    (done : ∀ ys l₁ D nD h tk, s.toks ≤ tk → ys.length = n → Fm B env.locals h m → News B env.locals h ((D, listOf ys.toArray nD) :: l₁) → (∀ p ∈ l₁, p.1 ≠ D) → l₁.map (·.1) = l.map (·.1) → J n ys l₁ →
      s.heap.get? D = none → Q (.ref D) { s with heap := h, toks := tk }) :
    wpAny (model PG w) A (newList []) (fun acc s₃ => wpAny (model PG w) A (newFunctionEnv scope env.globals cl [] env.qual none .none (some env)) (fun cenv s₄ =>
      codeAny (model PG w) A (.compStart (.ListComp elt [⟨target, iter, [], 0⟩] scope pos) 0 (.ref I) acc { cenv with scope := relabel scope env }) (compPost (model PG w) A E none Q acc cenv.locals) s₄) E s₃) E s := comp_genT W (fun i _ ys l => J i ys l) (fun _ _ _ _ _ _ x => x) hcell hkind hsz hLf hlf hwr hfp hst F N h0 hgo step done
end
/-- entries whose keys are texts, under their own hash -/
def KW (w : World) (es : List DictEntry) : Prop := ∀ e ∈ es, ∃ x t, e.key = .str x t ∧ e.hash = hashStr w x
theorem KW.keysOf {w : World} {es : List DictEntry} (h : KW w es) : KeysOf (strKind PG w) es.toArray := fun e he => by
  obtain ⟨x, t, e1, e2⟩ := h e (by simpa using he)
  exact ⟨x, by rw [e1]; exact strKind_is PG w x t, e2⟩
theorem KW.nil {w : World} : KW w [] := fun _ h => nomatch h
theorem KW.cons {w : World} {x : Str} {t : Tok} {v : Value} {es : List DictEntry} (h : KW w es) : KW w (⟨hashStr w x, .str x t, v⟩ :: es) := fun e he => by
  rcases List.mem_cons.mp he with rfl | he
  · exact ⟨x, t, rfl, rfl⟩
  · exact h e he
theorem KW.put {w : World} {x : Str} {t : Tok} {v : Value} : ∀ {es : List DictEntry}, KW w es → KW w (putL x (hashStr w x) (.str x t) v es)
  | [], _ => KW.nil.cons
  | e :: r, h => by
    have hr : KW w r := fun e' he' => h e' (.tail _ he')
    unfold putL
    split
    · intro e' he'
      rcases List.mem_cons.mp he' with rfl | he'
      · exact h e (.head _)
      · exact hr e' he'
    · intro e' he'
      rcases List.mem_cons.mp he' with rfl | he'
      · exact h e' (.head _)
      · exact KW.put hr e' he'
theorem putL_len (x : Str) (hs : Int) (k v : Value) : ∀ es : List DictEntry, (putL x hs k v es).length ≤ es.length + 1
  | [] => Nat.le_refl _
  | e :: r => by
    unfold putL
    split
    · simp
    · have := putL_len x hs k v r; simp; omega

theorem findIdx_toArray (es : List DictEntry) (x : Str) : (es.toArray.findIdx? fun e => (strKind PG w).is x e.key) = es.findIdx? (fun e => e.key.isStr x) := by
  rw [List.findIdx?_toArray]
  congr 1
  funext e
  exact (isStr_of x e.key).symm

section
variable {w : World} {A : Around} {E : Value → Shared → Prop} {s : Shared}

theorem dictFind_x {d : Addr} {es : List DictEntry} {ep : Nat} {x : Str} {t : Tok} {Q : Option Nat → Shared → Prop} (ho : s.heap.get? d = some (dictOf es ep)) (hk : KW w es)
    (h : Q (es.findIdx? (fun e => e.key.isStr x)) s) : wpAny (model PG w) A (dictFind d (.str x t) (hashStr w x)) Q E s := by
  refine wpAny_dictFind_of (knd := strKind PG w) (k := x) (strKind_is PG w x t) ho rfl hk.keysOf ?_
  rw [findIdx_toArray (w := w)]
  exact h

theorem put_heap {d : Addr} {es : List DictEntry} {ep : Nat} {x : Str} {t : Tok} {v : Value} {h : Heap} (ho : h.get? d = some (dictOf es ep)) {i : Nat} (hi : es.findIdx? (fun e => e.key.isStr x) = some i) :
    (h.update d (Obj.mapDict (·.modify i fun e => { e with val := v }))).get? d = some (dictOf (putL x (hashStr w x) (.str x t) v es) ep) := by
  rw [Heap.get?_update_self _ ho rfl]
  have := putL_find x (hashStr w x) (.str x t) v es
  rw [hi] at this
  rw [← this]
  simp [Obj.mapDict, dictOf]
theorem put_heap_new {d : Addr} {es : List DictEntry} {ep : Nat} {x : Str} {t : Tok} {v : Value} {h : Heap} (ho : h.get? d = some (dictOf es ep)) (hi : es.findIdx? (fun e => e.key.isStr x) = none) :
    (h.update d (Obj.mapDictKeys (·.push ⟨hashStr w x, .str x t, v⟩))).get? d = some (dictOf (putL x (hashStr w x) (.str x t) v es) (ep + 1)) := by
  rw [Heap.get?_update_self _ ho rfl]
  have := putL_find x (hashStr w x) (.str x t) v es
  rw [hi] at this
  rw [← this]
  simp [Obj.mapDictKeys, dictOf]

theorem dictPut_x {d : Addr} {es : List DictEntry} {ep : Nat} {x : Str} {t : Tok} {v : Value} {Q : Unit → Shared → Prop} (ho : s.heap.get? d = some (dictOf es ep)) (hk : KW w es) (hz : es.length ≤ 1000)
    (hQ : ∀ h' ep', h'.get? d = some (dictOf (putL x (hashStr w x) (.str x t) v es) ep') → Heap.SameBut d s.heap h' → Q () { s with heap := h' }) :
    wpAny (model PG w) A (dictPut d (hashStr w x) (.str x t) v) Q E s := by
  unfold dictPut
  refine wpAny_bind (dictFind_x ho hk ?_)
  have hz' : es.toArray.size ≤ sizeLine := by rw [List.size_toArray, sizeLine_eq]; omega
  cases hi : es.findIdx? (fun e => e.key.isStr x) with
  | some i => exact wpAny_updateDict ho rfl (hQ _ ep (put_heap ho hi) (Heap.SameBut.update ..))
  | none => exact wpAny_updateDictKeys (hz := hz') ho rfl (hQ _ (ep + 1) (put_heap_new ho hi) (Heap.SameBut.update ..))

theorem dictSetHashed_x {d : Addr} {es : List DictEntry} {ep : Nat} {x : Str} {t : Tok} {v : Value} {Q : Unit → Shared → Prop} (ho : s.heap.get? d = some (dictOf es ep)) (hk : KW w es) (hz : es.length ≤ 1000)
    (hQ : ∀ h' ep', h'.get? d = some (dictOf (putL x (hashStr w x) (.str x t) v es) ep') → Heap.SameBut d s.heap h' → Q () { s with heap := h' }) :
    wpAny (model PG w) A (dictSetHashed d (.str x t) (hashStr w x) v) Q E s := by
  unfold dictSetHashed
  try with_reducible refine wpAny_holding ?_
  refine wpAny_bind (dictFind_x ho hk ?_)
  have hz' : es.toArray.size ≤ sizeLine := by rw [List.size_toArray, sizeLine_eq]; omega
  cases hi : es.findIdx? (fun e => e.key.isStr x) with
  | some i => exact wpAny_bind (wpAny_rule (wpAny_bind (wpAny_updateDict ho rfl (wpAny_point (hQ _ ep (put_heap ho hi) (Heap.SameBut.update ..))))))
  | none => exact wpAny_bind (wpAny_rule (wpAny_updateDictKeys (hz := hz') ho rfl (hQ _ (ep + 1) (put_heap_new ho hi) (Heap.SameBut.update ..))))

theorem dictSet_x {d : Addr} {es : List DictEntry} {ep : Nat} {x : Str} {t : Tok} {v : Value} {Q : Unit → Shared → Prop} (ho : s.heap.get? d = some (dictOf es ep)) (hk : KW w es) (hz : es.length ≤ 1000)
    (hQ : ∀ h' ep', h'.get? d = some (dictOf (putL x (hashStr w x) (.str x t) v es) ep') → Heap.SameBut d s.heap h' → Q () { s with heap := h', toks := s.toks + 1 }) :
    wpAny (model PG w) A (dictSet d (.str x t) v) Q E s := by
  unfold dictSet
  try with_reducible refine wpAny_holding ?_
  exact wpAny_bind (wpAny_pyHash_str (dictSetHashed_x (s := { s with toks := s.toks + 1 }) ho hk hz hQ))

theorem typeIs_dict {d : Addr} {es : List DictEntry} {ep : Nat} (ho : s.heap.get? d = some (dictOf es ep)) : s.TypeIs (.ref d) "dict" := ⟨_, ho, rfl⟩

theorem setItem_x {d : Addr} {es : List DictEntry} {ep : Nat} {x : Str} {t : Tok} {v : Value} {Q : Unit → Shared → Prop} (ho : s.heap.get? d = some (dictOf es ep)) (hk : KW w es) (hz : es.length ≤ 1000)
    (hQ : ∀ h' ep', h'.get? d = some (dictOf (putL x (hashStr w x) (.str x t) v es) ep') → Heap.SameBut d s.heap h' → Q () { s with heap := h', toks := s.toks + 1 }) :
    wpAny (model PG w) A (setItem (.ref d) (.str x t) v) Q E s := by
  have hT := typeIs_dict ho
  unfold setItem
  try with_reducible refine wpAny_holding ?_
  refine wpAny_bind (wpAny_sequenceKey hT (by decide) ?_)
  refine wpAny_bind (wpAny_callSpecial?_slot (name := Str.ofString "__setitem__") hT slot_dict_setitem
    (wpAny_call_entry slot_dict_setitem hT entry_dict_setitem ?_ (args_dict_setitem _ _ _)))
  show wpAny _ _ (Builtin.Dict.notOrdered "__setitem__" ⟨[.ref d, .str x t, v], []⟩ >>= _) _ _ s
  refine wpAny_bind (wpAny_notOrdered_dict hT ?_)
  show wpAny _ _ (dictSet d (.str x t) v >>= _) _ _ s
  exact wpAny_bind (dictSet_x ho hk hz fun h' ep' a b => wpAny_pure ⟨.none, rfl, wpAny_pure (hQ h' ep' a b)⟩)
end
section
variable {w : World} {A : Around} {E : Value → Shared → Prop}

/-- what a draw of a dict's items leaves: the pair's tuple is fresh, the iterator holds it -/
theorem next_items {s : Shared} {it d : Addr} {es : List DictEntry} {i ep : Nat} {ok ov : Value} {e : DictEntry} {Q : Option Value → Shared → Prop} (hit : IsItemIter s.heap it d i es.length ep ok ov)
    (hd : s.heap.get? d = some (dictOf es ep)) (hx : es[i]? = some e)
    (hQ : ∀ h', IsItemIterOut h' it d (i + 1) es.length ep e.key e.val s.heap.objs.size →
      h'.get? s.heap.objs.size = some { cls := .type "tuple", data := .seq #[e.key, e.val] } → h'.objs.size = s.heap.objs.size + 1 →
      (∀ b o, b ≠ it → s.heap.get? b = some o → h'.get? b = some o) → Q (some (.ref s.heap.objs.size)) { s with heap := h' }) :
    wpAny (model PG w) A (pyNext (.ref it)) Q E s := by
  obtain ⟨H, g, dr, tk, os⟩ := s
  have typ : ∀ {h : Heap} {j : Nat} {a b c : Value}, h.get? it = some { cls := .type "dict_itemiterator", dict := none, data := .fields #[a, .bool false, .ref d, .int j 0, .int es.length 0, .int ep 0, b, c], slots := #[] } →
      Shared.TypeIs ⟨h, g, dr, tk, os⟩ (.ref it) "dict_itemiterator" := fun q => ⟨_, q, rfl⟩
  have hT := typ hit
  have hlt : i < es.toArray.size := by
    rw [List.size_toArray]
    rcases Nat.lt_or_ge i es.length with h | h
    · exact h
    · rw [List.getElem?_eq_none h] at hx; cases hx
  have hxe : es.toArray[i]? = some e := by simpa using hx
  unfold pyNext
  refine wpAny_bind (wpAny_attempt (wpAny_callSpecial?_slot (name := Str.ofString "__next__") hT F.slot_dict_itemiterator_next
    (wpAny_call_entry F.slot_dict_itemiterator_next hT F.entry_dict_itemiterator_next ?_ (F.args_dict_itemiterator_next_1 _))))
  refine wpAny_bind (wpAny_pure (wpAny_bind (wpAny_bind ?_)))
  refine wpAny_bind (wpAny_typeNameOfWhole_itemiter hT (wpAny_pure (wpAny_bind (wpAny_fieldsOf hit rfl ?_))))
  have hown : Builtin.Dict_items.ownsTuple "dict_itemiterator" = true := by decide
  simp only [hown, if_true]
  show wpAny _ _ (if (Value.ref d == Value.none) = true then _ else _) _ _ _
  rw [if_neg (show ¬ ((Value.ref d == Value.none) = true) from Bool.false_ne_true)]
  refine wpAny_bind (wpAny_pure (wpAny_bind (wpAny_dictEntries hd rfl ?_)))
  rw [if_neg (by simp)]
  refine wpAny_bind (wpAny_pure (wpAny_bind (wpAny_dictEpoch hd rfl ?_)))
  rw [if_neg (by simp)]
  refine wpAny_pure ?_
  simp only [show ¬ ((i : Int) < 0) from by omega, if_false, Int.toNat_natCast, hxe]
  refine wpAny_bind (wpAny_bind (wpAny_typeNameOfWhole_itemiter hT (wpAny_pure ?_)))
  refine wpAny_bind (wpAny_isOneOf_itemiter hT ?_)
  show wpAny _ _ (setField (.ref it) 3 (rawInt ((i : Int) + 1)) >>= _) _ _ ⟨H, g, dr, tk, os⟩
  refine wpAny_bind (wpAny_setField_rec hit (by simp) fun h₁ he₁ hs₁ => ?_)
  have ei : ((i + 1 : Nat) : Int) = (i : Int) + 1 := by omega
  replace hs₁ : Heap.SameBut it H h₁ := hs₁
  replace he₁ : IsItemIter h₁ it d (i + 1) es.length ep ok ov := by unfold IsItemIter; rw [ei]; simpa [rawInt] using he₁
  have hT₁ := typ he₁
  refine wpAny_bind (wpAny_holding (wpAny_bind (wpAny_isOneOf_itemiter hT₁ (wpAny_bind (wpAny_isOneOf_itemiter hT₁ ?_)))))
  show wpAny _ _ (Builtin.Dict_items.pairFromOwner (.ref it) 6 e.key e.val) _ _ ⟨h₁, g, dr, tk, os⟩
  unfold Builtin.Dict_items.pairFromOwner
  refine wpAny_bind (wpAny_newTuple ?_)
  have hil : it < H.objs.size := Heap.lt_size hit
  have hz₁ : h₁.objs.size = H.objs.size := hs₁.1
  show wpAny _ _ (Builtin.Dict_items.ownedTupleIsFree (.ref it) >>= _) _ _ ⟨h₁.push { cls := .type "tuple", data := .seq #[e.key, e.val] }, g, dr, tk, os⟩
  have he₂ : IsItemIter (h₁.push { cls := .type "tuple", data := .seq #[e.key, e.val] }) it d (i + 1) es.length ep ok ov := Heap.get?_push_of_some _ he₁
  have ht₂ : (h₁.push { cls := .type "tuple", data := .seq #[e.key, e.val] }).get? H.objs.size = some { cls := .type "tuple", data := .seq #[e.key, e.val] } := by rw [← hz₁]; exact Heap.get?_push_size _ rfl
  have hz₂ : (h₁.push { cls := .type "tuple", data := .seq #[e.key, e.val] }).objs.size = H.objs.size + 1 := by rw [Heap.size_push, hz₁]
  have hk₂ : ∀ b o, b ≠ it → H.get? b = some o → (h₁.push { cls := .type "tuple", data := .seq #[e.key, e.val] }).get? b = some o := fun b o hb q => Heap.get?_push_of_some _ (hs₁.extBut b o hb q)
  generalize h₁.push { cls := .type "tuple", data := .seq #[e.key, e.val] } = h₂ at he₂ ht₂ hz₂ hk₂ ⊢
  rw [hz₁]
  have hn : H.objs.size ≠ it := Nat.ne_of_gt hil
  refine wpAny_bind ?_
  unfold Builtin.Dict_items.ownedTupleIsFree
  refine wpAny_bind (wpAny_field he₂ rfl (x := .none) rfl (wpAny_pure ?_))
  simp only [if_true]
  refine wpAny_bind (wpAny_field he₂ rfl (x := ok) rfl (wpAny_bind (wpAny_field he₂ rfl (x := ov) rfl ?_)))
  refine wpAny_bind (wpAny_setField_rec he₂ (by simp) fun h₃ he₃ hs₃ => ?_)
  replace he₃ : IsItemIter h₃ it d (i + 1) es.length ep e.key ov := he₃
  refine wpAny_bind (wpAny_setField_rec he₃ (by simp) fun h₄ he₄ hs₄ => ?_)
  replace he₄ : IsItemIter h₄ it d (i + 1) es.length ep e.key e.val := he₄
  refine wpAny_bind (wpAny_setField_rec he₄ (by simp) fun h₅ he₅ hs₅ => ?_)
  replace he₅ : IsItemIterOut h₅ it d (i + 1) es.length ep e.key e.val H.objs.size := he₅
  refine wpAny_bind (wpAny_setField_rec he₅ (by simp) fun h₆ he₆ hs₆ => ?_)
  replace he₆ : IsItemIterOut h₆ it d (i + 1) es.length ep e.key e.val H.objs.size := he₆
  have hs : Heap.SameBut it h₂ h₆ := ((Heap.SameBut.trans (a := it) hs₃ hs₄).trans hs₅).trans hs₆
  refine wpAny_bind (wpAny_letGo (wpAny_pure (wpAny_pure ⟨_, rfl, wpAny_pure (hQ h₆ he₆ (hs.extBut _ _ hn ht₂) (hs.1.trans hz₂) fun b o hb q => hs.extBut b o hb (hk₂ b o hb q))⟩)))
end
def keyTx (e : DictEntry) : Str := match e.key with
  | .str x _ => x
  | _ => Str.empty
/-- entries of a dict with texts for keys, each key once -/
structure WD (w : World) (es : List DictEntry) : Prop where
  kw : KW w es
  nd : (es.map keyTx).Nodup

theorem WD.nil {w : World} : WD w [] := ⟨KW.nil, List.nodup_nil⟩
theorem keyTx_isStr {w : World} {es : List DictEntry} (h : KW w es) {e : DictEntry} (he : e ∈ es) (x : Str) : e.key.isStr x = decide (keyTx e = x) := by
  obtain ⟨y, t, e1, _⟩ := h e he
  unfold keyTx
  rw [e1]
  show (y == x) = decide (y = x)
  rfl
theorem putL_keys {w : World} (x : Str) (t : Tok) (v : Value) : ∀ {es : List DictEntry}, KW w es →
    (putL x (hashStr w x) (.str x t) v es).map keyTx = if x ∈ es.map keyTx then es.map keyTx else es.map keyTx ++ [x]
  | [], _ => by simp [putL, keyTx]
  | e :: r, h => by
    have hr : KW w r := fun e' he' => h e' (.tail _ he')
    have ih := putL_keys x t v hr
    unfold putL
    rw [keyTx_isStr h (.head _) x]
    by_cases q : keyTx e = x
    · have hk : keyTx ⟨e.hash, e.key, v⟩ = keyTx e := rfl
      simp [q, hk]
    · simp only [q, decide_false, Bool.false_eq_true, if_false, List.map_cons, ih, List.mem_cons]
      by_cases q2 : x ∈ r.map keyTx
      · simp [q2]
      · have : ¬ (x = keyTx e) := fun z => q z.symm
        simp [q2, this]
theorem WD.put {w : World} {x : Str} {t : Tok} {v : Value} {es : List DictEntry} (h : WD w es) : WD w (putL x (hashStr w x) (.str x t) v es) := by
  refine ⟨h.kw.put, ?_⟩
  rw [putL_keys x t v h.kw]
  split
  · exact h.nd
  · rename_i q
    rw [List.nodup_append]
    exact ⟨h.nd, by simp, fun a ha b hb e => q (by rw [List.mem_singleton.mp hb] at e; exact e ▸ ha)⟩

def kvsOf (es : List DictEntry) : List (Str × Value) := es.map fun e => (keyTx e, e.val)
theorem pairs_of {w : World} : ∀ {es : List DictEntry}, KW w es → Pairs (strKind PG w) es (kvsOf es)
  | [], _ => .nil
  | e :: r, h => by
    refine .cons ?_ rfl (pairs_of fun e' he' => h e' (.tail _ he'))
    obtain ⟨y, t, e1, _⟩ := h e (.head _)
    show (strKind PG w).is (keyTx e) e.key = true
    unfold keyTx
    rw [e1]
    exact strKind_is PG w y t
theorem dictAt_x {w : World} {h : Heap} {d : Addr} {es : List DictEntry} {ep : Nat} (hd : h.get? d = some (dictOf es ep)) (k : WD w es) : h.DictAt (strKind PG w) d (kvsOf es) ep :=
  ⟨_, es.toArray, hd, ⟨rfl, rfl, rfl⟩, rfl, k.kw.keysOf, by simpa using pairs_of k.kw, by
    have : (kvsOf es).map (·.1) = es.map keyTx := by unfold kvsOf; rw [List.map_map]; rfl
    rw [this]; exact k.nd⟩
theorem kvsOf_length (es : List DictEntry) : (kvsOf es).length = es.length := by simp [kvsOf]

section
variable {w : World} {A : Around} {E : Value → Shared → Prop} {s : Shared} {env : Env}

/-- for key, value in d.items(): the turn turns locals alone -/
theorem for_items {xk xv : Str} {pk pv pt : Pos} {x1} {body : List Stmt} {it d : Addr} {es : List DictEntry} {ep : Nat} {B : Heap} {m : Str → Option Value} {Q : Flow → Shared → Prop}
    (hh : A.handled = none) (hxk : env.kindOf xk = some .local) (hxv : env.kindOf xv = some .local)
    (hp : (env.scope.kind == .class || (env.scope.kind == .module && env.locals != env.globals)) = false)
    (k : WD w es) (hit : IsItemIter s.heap it d 0 es.length ep .none .none) (hd : s.heap.get? d = some (dictOf es ep)) (hdB : B.get? it = none) (hiL : it ≠ env.locals) (hdL : d ≠ env.locals) (hdi : d ≠ it)
    (F : Fm B env.locals s.heap m) (J : Nat → (Str → Option Value) → Prop) (h0 : J 0 m)
    (step : ∀ i e m₁ B' h tk, es[i]? = some e → s.toks ≤ tk → Ext B B' → Ext B' h → Fm B' env.locals h (fun y => if y = xv then some e.val else if y = xk then some e.key else m₁ y) → J i m₁ →
      wpAny (model PG w) A (execs body env) (fun f s₃ => f = .next ∧ Turned B' env.locals [] (fun m' _ => J (i + 1) m') { s with heap := h, toks := tk } s₃) (fun _ _ => False) { s with heap := h, toks := tk })
    (done : ∀ m₁ h tk, s.toks ≤ tk → Fm B env.locals h m₁ → J es.length m₁ → Q .next { s with heap := h, toks := tk }) :
    codeAny (model PG w) A (.forLoop (.Tuple [.Name xk pk, .Name xv pv] x1 pt) (.ref it) body [] env) (fun r s' => match r with | .ok f => Q f s' | .error e => cameBackBy (model PG w) A env E e s') s := by
  refine codeAny_forLoop_any
    (fun n s' => ∃ h' tk m' i ok ov, s' = { s with heap := h', toks := tk } ∧ s.toks ≤ tk ∧ IsItemIter h' it d i es.length ep ok ov ∧ h'.get? d = some (dictOf es ep) ∧ Fm B env.locals h' m' ∧ J i m' ∧ i ≤ es.length ∧ n = es.length + 1 - i) ?_ (es.length + 1)
    ⟨s.heap, s.toks, m, 0, .none, .none, rfl, Nat.le_refl _, hit, hd, F, h0, Nat.zero_le _, rfl⟩
  rintro n s' ⟨H, tk, m', i, ok, ov, rfl, htk, hit', hd', F', hJ, hi, rfl⟩
  cases hv : es[i]? with
  | none =>
    have hsz : i = es.length := Nat.le_antisymm hi (by simpa using hv)
    have hm' := dictAt_x hd' k
    have hit'' : IsItemIter H it d i (kvsOf es).length ep ok ov := by rw [kvsOf_length]; exact hit'
    refine wpAny_pyNext_items_end hh hit'' hm' (by rw [List.getElem?_eq_none]; rw [kvsOf_length]; exact Nat.le_of_eq hsz.symm) fun h₁ he₁ => wpAny_execs_nil ?_
    exact done m' h₁ tk htk (F'.but he₁ hdB (Ne.symm hiL)) (hsz ▸ hJ)
  | some e =>
    have hlt : i < es.length := (List.getElem?_eq_some_iff.mp hv).1
    have hiH : it < H.objs.size := Heap.lt_size hit'
    have hdH : d < H.objs.size := Heap.lt_size hd'
    have hLH : env.locals < H.objs.size := F'.ns.lt
    refine next_items hit' hd' hv fun h₁ heo ht₁ hz₁ hk₁ => ?_
    refine wpAny_letOwnedTupleGo_items heo fun h₂ he₂ hs₂ => ?_
    replace hs₂ : Heap.SameBut it h₁ h₂ := hs₂
    have hz₂ : h₂.objs.size = H.objs.size + 1 := hs₂.1.trans hz₁
    have ht₂ : h₂.IsTuple H.objs.size #[e.key, e.val] := ⟨_, (hs₂.2 _ (Nat.ne_of_gt hiH)).trans ht₁, rfl, _, rfl⟩
    have hb2 : Heap.ExtBut it H h₂ := fun b o hb q => hs₂.extBut b o hb (hk₁ b o hb q)
    refine wpAny_assign_Tuple hh ht₂ rfl rfl fun h₃ hx₃ => ?_
    replace hx₃ : Heap.ExtBut h₂.objs.size h₂ h₃ := hx₃
    have old₃ : ∀ b o, b < H.objs.size → h₂.get? b = some o → h₃.get? b = some o := fun b o hb x => hx₃ b o (by rw [hz₂]; exact Nat.ne_of_lt (Nat.lt_succ_of_lt hb)) x
    have hb3 : Heap.ExtBut it H h₃ := fun b o hb q => old₃ b o (Heap.lt_size q) (hb2 b o hb q)
    have F₃ : Fm B env.locals h₃ m' := F'.but hb3 hdB (Ne.symm hiL)
    have hd₃ : h₃.get? d = some (dictOf es ep) := hb3 d _ hdi hd'
    have hi₃ : IsItemIter h₃ it d (i + 1) es.length ep e.key e.val := old₃ _ _ hiH he₂
    obtain ⟨B', e1, e2, F₄', N₄', ap⟩ := ground F₃ News.nil
    show wpAny _ _ (do holding [e.val] (assign (.Name xk pk) env e.key); do holding [] (assign (.Name xv pv) env e.val); pure ()) _ _ _
    refine wpAny_bind (wpAny_holding (wpAny_assign_Name (stL F₄' News.nil (fun h₄ F₄ _ => ?_) hxk hp)))
    refine wpAny_bind (wpAny_holding (wpAny_assign_Name (stL F₄ News.nil (fun h₅ F₅ _ => wpAny_pure ?_) hxv hp)))
    have hdB' := ap _ hdL (fun _ hp => nomatch hp) _ hd₃
    have hiB' := ap _ hiL (fun _ hp => nomatch hp) _ hi₃
    refine wpAny_mono (step i e m' B' h₅ (tk + 1 + 1) hv (by omega) e1 F₅.keep F₅ hJ) (fun f s₃ h₆ => ?_) fun _ _ x => x.elim
    obtain ⟨rfl, h₆, tk₆, m₂, l₂, rfl, ht₆, F₇, _, _, hJ₆⟩ := h₆
    replace ht₆ : tk + 1 + 1 ≤ tk₆ := ht₆
    refine ⟨es.length + 1 - (i + 1), by omega, h₆, tk₆, m₂, i + 1, e.key, e.val, rfl, by omega, F₇.keep _ _ hiB', F₇.keep _ _ hdB', F₇.down e1, hJ₆, hlt, rfl⟩
end
section
variable {w : World} {A : Around} {s : Shared} {E : Value → Shared → Prop} {env : Env}
/-- o[lo:hi] -/
theorem sub_slice {value lo hi : Expr} {p pos : Pos} {Q : Value → Shared → Prop}
    (h : wpAny (model PG w) A (eval value env) (fun o s₁ => wpAny (model PG w) A (eval lo env) (fun a s₂ => wpAny (model PG w) A (eval hi env) (fun b s₃ =>
      ItemOn (model PG w) A E o (.ref s₃.heap.objs.size) Q { s₃ with heap := s₃.heap.push { cls := .type "slice", data := .fields #[a, b, .none] } }) E s₂) E s₁) E s)
    (ht : ∀ o r, letTemporaryGo value o r = pure () := by intro _ _; rfl) :
    wpAny (model PG w) A (eval (.Subscript value (.Slice (some lo) (some hi) none p) pos) env) Q E s :=
  PySem.Subscript_Slice (wpAny_mono h (fun o s₁ h₁ => wpAny_Slice (wpAny_mono h₁ (fun a s₂ h₂ => wpAny_mono h₂ (fun b s₃ h₃ => wpAny_pure h₃) fun _ _ x => x) fun _ _ x => x)) fun _ _ x => x) ht
/-- o[i op j], o a thing that may end here -/
theorem sub_bin {value : Expr} {e₁ e₂ : Expr} {op : Operator} {p pos : Pos} {Q : Value → Shared → Prop}
    (h : wpAny (model PG w) A (eval value env) (fun o s₁ => wpAny (model PG w) A (eval (.BinOp e₁ op e₂ p) env) (fun i s₂ => ItemOn (model PG w) A E o i Q s₂) E s₁) E s) :
    wpAny (model PG w) A (eval (.Subscript value (.BinOp e₁ op e₂ p) pos) env) Q E s := by
  rw [eval_Subscript]
  refine wpAny_bind (wpAny_mono h (fun o s₁ h₁ => wpAny_bind (wpAny_holding (wpAny_mono h₁ (fun i s₂ h₂ => wpAny_bind (wpAny_standAt ?_)) fun _ _ x => x)))
    fun _ _ x => x)
  obtain ⟨T, id, hl, hT, hg⟩ := h₂
  refine wpAny_bind ?_
  rw [getitemInPython_of_ne hT.not_modules]
  refine wpAny_bind (wpAny_specialOf hT hl ?_)
  have fin : wpAny (model PG w) A (operate [o, i] (getItem o i)) (fun r s₃ => wpAny (model PG w) A (letTemporaryGo value o r >>= fun _ => pure r) Q E s₃) E s₂ :=
    wpAny_operating (wpAny_mono hg (fun r s₃ h₃ => wpAny_bind (wpAny_letTemporaryGo (wpAny_pure h₃))) fun _ _ x => x)
  first
    | exact wpAny_pure (wpAny_bind fin)
    | exact wpAny_bind (wpAny_pure (wpAny_bind fin))
    | exact wpAny_bind fin
/-- o[:hi] -/
theorem sub_slice_to {value hi : Expr} {p pos : Pos} {Q : Value → Shared → Prop}
    (h : wpAny (model PG w) A (eval value env) (fun o s₁ => wpAny (model PG w) A (eval hi env) (fun b s₃ =>
      ItemOn (model PG w) A E o (.ref s₃.heap.objs.size) Q { s₃ with heap := s₃.heap.push { cls := .type "slice", data := .fields #[.none, b, .none] } }) E s₁) E s)
    (ht : ∀ o r, letTemporaryGo value o r = pure () := by intro _ _; rfl) :
    wpAny (model PG w) A (eval (.Subscript value (.Slice none (some hi) none p) pos) env) Q E s :=
  PySem.Subscript_Slice (wpAny_mono h (fun o s₁ h₁ => wpAny_Slice (wpAny_pure (wpAny_mono h₁ (fun b s₃ h₃ => wpAny_pure h₃) fun _ _ x => x))) fun _ _ x => x) ht
end
local macro_rules | `(tactic| walk_at "S") => `(tactic| first
  | with_reducible first | refine wpAny_execs_cons ?_ | refine wpAny_execs_nil ?_ | refine wpAny_Return_some ?_ | refine wpAny_Constant_bool ?_ | refine wpAny_BinOp ?_ | refine wpAny_Compare1 ?_ | refine wpAny_isTrue_Compare1 ?_ | refine wpAny_If ?_ | refine wpAny_truthy_bool ?_ | refine PyProof.Rows.lt_int ?_ | refine PyProof.Rows.eq_int ?_ | refine PyProof.Rows.ne_int ?_ | refine PyProof.Rows.in_str ?_ | refine PyProof.Rows.notIn_str ?_ | refine PyProof.Rows.eq_str ?_ | refine PyProof.Rows.ne_str ?_
  | ((with_reducible first | refine wpAny_Constant_int ?_ | refine Calls.Constant_str ?_ | refine PyProof.Rows.add_int ?_ | refine PyProof.Rows.sub_int ?_ | refine P.ord_of_char ?_); try dsimp only)
  | ((with_reducible show wpAny _ _ (exec (Stmt.Assign [Expr.Name _ _] _ _) _) _ _ _); refine wpAny_Assign_Name ?_)
  | ((with_reducible show wpAny _ _ (eval (Expr.Call (Expr.Attribute _ _ _) _ [] _) _) _ _ _); refine MethodCall_ ?_)
  | ((with_reducible show wpAny _ _ (eval (Expr.Call (Expr.Name _ _) _ [] _) _) _ _ _); refine Call_ ?_)
  | ((with_reducible show wpAny _ _ (spliced _) _ _ _); first | refine args_cons ?_ | refine args_nil ?_)
  | ((with_reducible show wpAny _ _ (callWith _ (Value.builtin _) _ _ _) _ _ _); first | refine PyProof.Rows.callWith_method0 ?_ | refine PyProof.Rows.callWith_builtin1 ?_ | refine PyProof.Rows.callWith_method1 ?_)
  | ((with_reducible show wpAny _ _ (callWith _ (Value.type _) _ _ _) _ _ _); refine PyProof.Rows.callWith_type1 ?_)
  | ((with_reducible show wpAny _ _ (eval (Expr.Name _ _) _) _ _ _); first | refine ldL (by assumption) (by first | rfl | assumption) ?_ | refine ldG (by first | assumption | exact Fm.gd (by assumption) (by assumption)) (by rfl) ?_ | refine ldB (by first | assumption | exact Fm.gd (by assumption) (by assumption)) (by rfl) (by first | exact PySem.boot_len | exact PyProof.Rows.boot_ord | exact PyProof.Rows.boot_chr | exact PyProof.Rows.boot_list | exact PyProof.Rows.boot_dict | exact PyProof.Rows.boot_zip | exact PyProof.Rows.boot_bytes) (by decide) ?_)
  | ((with_reducible show wpAny _ _ (storeName _ _ _) _ _ _); refine stL (by assumption) (by first | assumption | exact News.nil) ?_; intro h' F' N')
  | ((with_reducible show wpAny _ _ (getMethod (Value.str _ _) _ _) _ _ _); first | with_reducible refine GM.replace ?_ | with_reducible refine GM.join ?_)
  | ((with_reducible show wpAny _ _ (callWith _ (Value.ref _) _ _ _) _ _ _); refine callWith_K (K := hd.heap_39 _) (h₀ := _) (Gd.K (by first | assumption | exact Fm.gd (by assumption) (by assumption))) (by rfl) ?_)
  | ((with_reducible show Frag.In _ _ ∧ _); refine ⟨Gd.K (by first | assumption | exact Fm.gd (by assumption) (by assumption)), ?_⟩)
  | ((with_reducible show wpAny _ _ (isTrue (Expr.Name _ _) _ _) _ _ _); refine isTrue_plain ?_)
  | ((with_reducible show wpAny _ _ (exec (Stmt.Expr _ _) _) _ _ _); refine wpAny_Expr_any ?_)
  | ((with_reducible show wpAny _ _ (eval (Expr.List _ _) _) _ _ _); refine wpAny_List_spliced ?_)
  | ((with_reducible show wpAny _ _ (eval (Expr.Tuple _ _ _) _) _ _ _); refine wpAny_Tuple_spliced ?_)
  | ((with_reducible show _ ≤ sizeLine ∧ _); refine ⟨by first | (rw [sizeLine_eq]; simp only [List.length_cons, List.length_nil]; omega), ?_⟩)
  | ((with_reducible show wpAny _ _ (binaryOp Operator.FloorDiv (Value.int _ _) (Value.int _ _)) _ _ _); refine Mine.fdiv_ (by omega) (by omega) ?_; try dsimp only)
  | ((with_reducible show wpAny _ _ (binaryOp Operator.Mod (Value.int _ _) (Value.int _ _)) _ _ _); refine PyProof.Rows.mod_int' (by omega) ?_; try dsimp only)
  | ((with_reducible show wpAny _ _ (eval (Expr.Subscript _ (Expr.Slice (some _) (some _) none _) _) _) _ _ _); refine Mine.sub_slice ?_)
  | ((with_reducible show wpAny _ _ (eval (Expr.Subscript _ (Expr.Slice none (some _) none _) _) _) _ _ _); refine Mine.sub_slice_to ?_)
  | ((with_reducible show wpAny _ _ (eval (Expr.Subscript _ (Expr.BinOp _ _ _ _) _) _) _ _ _); refine Mine.sub_bin ?_)
  | ((with_reducible show wpAny _ _ (exec (Stmt.Assign [Expr.Subscript _ _ _] _ _) _) _ _ _); refine wpAny_Assign_Subscript ?_)
  | ((with_reducible show wpAny _ _ (isTrue (Expr.BoolOp BoolOp.And (_ :: _) _) _ _) _ _ _); refine PyProof.Rows.isTrue_and ?_)
  | ((with_reducible show wpAny _ _ (isTrue (Expr.BoolOp BoolOp.And [] _) _ _) _ _ _); refine PyProof.Rows.isTrue_and_nil ?_)
  | ((with_reducible show wpAny _ _ (isTrue (Expr.BoolOp BoolOp.Or (_ :: _) _) _ _) _ _ _); refine PyProof.Rows.isTrue_or ?_)
  | ((with_reducible show wpAny _ _ (isTrue (Expr.BoolOp BoolOp.Or [] _) _ _) _ _ _); refine PyProof.Rows.isTrue_or_nil ?_)
  | ((with_reducible refine P.len_str (by omega) ?_); try dsimp only)
  | dsimp only)
local macro_rules | `(tactic| walk_at "T") => `(tactic| first | omega | (dsimp only at *; omega) | (refine neN ?_; first | omega | (dsimp only at *; omega)))
local macro_rules | `(tactic| walk_at "SS") => `(tactic| repeat walk_at "S")
local macro_rules | `(tactic| walk_at "GD") => `(tactic| first | assumption | exact Fm.gd (by assumption) (by assumption))
/-- str.replace with the tokens' order told -/
theorem replace_ {w : World} {A : Around} {E : Value → Shared → Prop} {s : Shared} {x y z : Str} {t u v : Tok} {Q : Value → Shared → Prop} (hu : u ≠ 0) (hv : v ≠ 0) (huv : u ≠ v) (hx : x.length ≤ 10000) (hz : z.length ≤ 10)
    (hnb : NoneBooked s.heap) (h : ∀ t' k, s.toks ≤ k → Q (.str (Txt.replace x y z) t') { s with toks := k }) :
    wpAny (model PG w) A (call (.builtin "str.replace") [.str x t, .str y u, .str z v]) Q E s := by
  have hb : x.length + (x.length + 1) * z.length ≤ 16777216 := by
    have := Nat.mul_le_mul (show x.length + 1 ≤ 10001 by omega) hz
    omega
  exact wpAny_with_toks (n := s.toks) (Nat.le_refl _) (SC.replaceA hu hv huv hb (fun t' k hk => h t' k hk) hnb)
def valTx (e : DictEntry) : Str := match e.val with
  | .str x _ => x
  | _ => Str.empty
/-- a key and a value that are texts of their own -/
def Ent (e : DictEntry) : Prop := ∃ kx kt vx vt, e.key = .str kx kt ∧ e.val = .str vx vt ∧ kt ≠ 0 ∧ vt ≠ 0 ∧ kt ≠ vt ∧ vx.length ≤ 10
def repl (es : List DictEntry) (x : Str) : Str := es.foldl (fun s e => Txt.replace s (keyTx e) (valTx e)) x

theorem c_dict_replace {w : World} {mg mb} {A : Around} {s : Shared} {E : Value → Shared → Prop} {Q : Value → Shared → Prop} {x : Str} {t : Tok} {d : Addr} {es : List DictEntry} {ep : Nat}
    (G : Gd w mg mb s.heap) (hh : A.handled = none) (hroom : A.depth < recursionLimit) (hS : (d == sysModules) = false)
    (hd : s.heap.get? d = some (dictOf es ep)) (k : WD w es) (he : ∀ e ∈ es, Ent e) (hl : ∀ i, (repl (es.take i) x).length ≤ 10000)
    (h : ∀ t' h' tk', s.toks ≤ tk' → Ext s.heap h' → Q (.str (repl es x) t') { s with heap := h', toks := tk' }) :
    wpAny (model PG w) A (call (.ref 21) [.str x t, .ref d] []) Q E s := by

  refine enterM [(Str.ofString "s", .str x t), (Str.ofString "d", .ref d)] G (by rfl) (by rfl) hroom (BindsTo.of_eq rfl) (locs rfl) (Nat.zero_lt_succ _) ?_
  intro h₁ L tk₀ htk₀ G₁ F
  have hd₁ := F.keep _ _ hd
  refine wpAny_execs_cons ?_
  refine wpAny_For ?_ (by intro _; rfl)
  refine wpAny_Call_items (knd := strKind PG w) hS (dictAt_x hd₁ k).dictOf rfl rfl (fun Q' hq => ldL F rfl hq) ?_
  refine wpAny_pyIter_items (knd := strKind PG w) (ep := ep) ⟨_, Heap.get?_push_size _ rfl, rfl, rfl⟩ (dictAt_x (Heap.get?_push_of_some _ hd₁) k) ?_
  rw [kvsOf_length]
  have F2 := (F.push { cls := .type "dict_items", data := .fields #[.ref d] }).push { cls := .type "dict_itemiterator", data := .fields #[.none, .bool false, .ref d, .int 0 0, .int es.length 0, .int ep 0, .none, .none] }
  have hd2 : Heap.get? ((h₁.push { cls := .type "dict_items", data := .fields #[.ref d] }).push { cls := .type "dict_itemiterator", data := .fields #[.none, .bool false, .ref d, .int 0 0, .int es.length 0, .int ep 0, .none, .none] }) d = some (dictOf es ep) :=
    Heap.get?_push_of_some _ (Heap.get?_push_of_some _ hd₁)
  have hi2 : IsItemIter ((h₁.push { cls := .type "dict_items", data := .fields #[.ref d] }).push { cls := .type "dict_itemiterator", data := .fields #[.none, .bool false, .ref d, .int 0 0, .int es.length 0, .int ep 0, .none, .none] })
    (h₁.push { cls := .type "dict_items", data := .fields #[.ref d] }).objs.size d 0 es.length ep .none .none := Heap.get?_push_size _ rfl
  refine for_items (d := d) (es := es) (ep := ep) hh rfl rfl rfl k hi2 hd2 ?_ ?_ ?_ ?_ F2 (fun i m => ∃ t', m (Str.ofString "s") = some (.str (repl (es.take i) x) t')) ⟨t, rfl⟩ ?_ ?_
  · exact fresh_size (F.push _).keep
  · exact (F.push _).ne_size
  · intro e; have := F.off; rw [show L = d from e.symm, hd] at this; cases this
  · exact Nat.ne_of_lt (Heap.lt_size (Heap.get?_push_of_some _ hd₁))
  · rintro i e m₁ B' h tk hi ht e1 e2 F3 ⟨t', hs⟩
    have G' := G.ext (F3.down e1).keep
    clear F2 hd2 hi2 F G₁
    obtain ⟨kx, kt, vx, vt, ek, ev, h1, h2, h3, h4⟩ := he e (List.mem_of_getElem? hi)
    rw [ek, ev] at F3
    (repeat walk_at "S")
    refine replace_ h1 h2 h3 (hl i) h4 G'.nobook (fun t2 k2 hk2 => ?_)
    (repeat walk_at "S")
    refine ⟨rfl, Turned.mk (by dsimp only at hk2 ht ⊢; omega) (by assumption) News.nil rfl ⟨t2, ?_⟩⟩
    have e4 : repl (es.take (i + 1)) x = Txt.replace (repl (es.take i) x) kx vx := by
      unfold repl
      rw [List.take_add_one, hi, List.foldl_append]
      simp only [Option.toList_some, List.foldl_cons, List.foldl_nil, keyTx, valTx, ek, ev]
    rw [e4]
    rfl
  · rintro m₁ h' tk ht F3 ⟨t', hs⟩
    (repeat walk_at "S")
    rw [List.take_length]
    exact h t' h' tk (by dsimp only at ht; omega) F3.keep
def e1 (x : Str) : Str := Txt.replace x (Str.ofString "&") (Str.ofString "&amp;")
def e2 (x : Str) : Str := Txt.replace (e1 x) (Str.ofString ">") (Str.ofString "&gt;")
def e3 (x : Str) : Str := Txt.replace (e2 x) (Str.ofString "<") (Str.ofString "&lt;")

theorem c_escape {w : World} {mg mb} {A : Around} {s : Shared} {E : Value → Shared → Prop} {Q : Value → Shared → Prop} {x : Str} {t : Tok} {d : Addr} {es : List DictEntry} {ep : Nat}
    (G : Gd w mg mb s.heap) (hh : A.handled = none) (hroom : A.depth + 1 < recursionLimit) (hS : (d == sysModules) = false)
    (hd : s.heap.get? d = some (dictOf es ep)) (k : WD w es) (he : ∀ e ∈ es, Ent e) (hne : es.isEmpty = false) (hz : es.length ≤ 1000)
    (hl0 : x.length ≤ 10000) (hl1 : (e1 x).length ≤ 10000) (hl2 : (e2 x).length ≤ 10000) (hl : ∀ i, (repl (es.take i) (e3 x)).length ≤ 10000)
    (h : ∀ t' h' tk', s.toks ≤ tk' → Ext s.heap h' → Q (.str (repl es (e3 x)) t') { s with heap := h', toks := tk' }) :
    wpAny (model PG w) A (call (.ref 30) [.str x t, .ref d] []) Q E s := by
  refine enterM [(Str.ofString "data", .str x t), (Str.ofString "entities", .ref d)] G (by rfl) (by rfl) (by omega) (by exact BindsTo.of_defaults rfl (G.K _ _ (by rfl)) rfl rfl rfl) (locs rfl) (Nat.zero_lt_succ _) ?_
  intro h₁ L tk₀ htk₀ G₁ F
  have hd₁ := F.keep _ _ hd
  walk_at "SS"
  refine replace_ (by walk_at "T") (by walk_at "T") (by walk_at "T") hl0 (by decide) (Gd.nobook (w := w) (mg := mg) (mb := mb) (by walk_at "GD")) (fun t2 k2 hk2 => ?_)
  walk_at "SS"
  refine replace_ (by walk_at "T") (by walk_at "T") (by walk_at "T") hl1 (by decide) (Gd.nobook (w := w) (mg := mg) (mb := mb) (by walk_at "GD")) (fun t3 k3 hk3 => ?_)
  walk_at "SS"
  refine replace_ (by walk_at "T") (by walk_at "T") (by walk_at "T") hl2 (by decide) (Gd.nobook (w := w) (mg := mg) (mb := mb) (by walk_at "GD")) (fun t4 k4 hk4 => ?_)
  walk_at "SS"
  rename Fm _ _ _ _ => F9
  have hd9 := F9.keep _ _ hd
  refine wpAny_truthy_dict (knd := strKind PG w) hS (dictAt_x hd9 k).dictOf (by rw [kvsOf_length]; omega) ?_
  have hne' : (!(kvsOf es).isEmpty) = true := by cases es <;> first | rfl | cases hne
  rw [hne', if_pos rfl]
  walk_at "SS"
  refine c_dict_replace (by walk_at "GD") hh hroom hS hd9 k he hl ?_
  intro t5 h5 tk5 ht5 x5
  have F5 := F9.ext x5
  walk_at "SS"
  rename Fm _ _ _ _ => F6
  exact h t5 _ _ (by walk_at "T") F6.keep
/-- the entries of one dict put into another, one after the other -/
def putAll (es more : List DictEntry) : List DictEntry := more.foldl (fun acc e => putL (keyTx e) e.hash e.key e.val acc) es
theorem KW.key {w : World} {es : List DictEntry} (h : KW w es) {e : DictEntry} (he : e ∈ es) : ∃ t, e.key = .str (keyTx e) t ∧ e.hash = hashStr w (keyTx e) := by
  obtain ⟨x, t, e1, e2⟩ := h e he
  have : keyTx e = x := by unfold keyTx; rw [e1]
  exact ⟨t, by rw [this]; exact e1, by rw [this]; exact e2⟩
theorem WD.putAll {w : World} : ∀ {more es : List DictEntry}, WD w es → KW w more → WD w (putAll es more)
  | [], _, h, _ => h
  | e :: r, es, h, hm => by
    obtain ⟨t, e1, e2⟩ := hm.key (.head _)
    show WD w (Mine.putAll (putL (keyTx e) e.hash e.key e.val es) r)
    rw [e1, e2]
    exact WD.putAll h.put fun e' he' => hm e' (.tail _ he')
theorem putAll_len : ∀ (more es : List DictEntry), (putAll es more).length ≤ es.length + more.length
  | [], _ => Nat.le_refl _
  | e :: r, es => by
    have h1 := putAll_len r (putL (keyTx e) e.hash e.key e.val es)
    have h2 := putL_len (keyTx e) e.hash e.key e.val es
    show (putAll (putL (keyTx e) e.hash e.key e.val es) r).length ≤ _
    simp only [List.length_cons]
    omega

theorem forIn_pure {α β : Type} (c : β) (f : α → β → Sem (ForInStep β)) (l : Array α) (h : ∀ x ∈ l, ∀ c, f x c = pure (.yield c)) : forIn l c f = pure c := by
  rw [← Array.forIn_toList]
  exact forIn_yield_id c fun x hx => h x (by simpa using hx)

theorem merge_x {w : World} {A : Around} {s : Shared} {E : Value → Shared → Prop} {Q : Unit → Shared → Prop} {d a : Addr} {es more : List DictEntry} {ep ep2 : Nat}
    (hd : s.heap.get? d = some (dictOf es ep)) (ha : s.heap.get? a = some (dictOf more ep2)) (hda : a ≠ d) (hS : (a == sysModules) = false) (k : WD w es) (k2 : KW w more) (hz : es.length + more.length ≤ 1000)
    (hQ : ∀ h' ep', h'.get? d = some (dictOf (putAll es more) ep') → Heap.SameBut d s.heap h' → Q () { s with heap := h' }) :
    wpAny (model PG w) A (mergeMapping d (.ref a) false) Q E s := by
  unfold mergeMapping
  refine wpAny_bind (wpAny_isInstance (b := true) (typeIs_dict ha) isSubtype_dict_dict ?_)
  dsimp only
  rw [if_pos rfl]
  refine wpAny_bind (wpAny_specialOf (typeIs_dict ha) F.slot_dict_iter.lookup (wpAny_bind (wpAny_pure ?_)))
  rw [beq_self_eq_true]
  dsimp only
  rw [hS, if_neg Bool.false_ne_true]
  refine wpAny_bind (wpAny_dictEntries hd rfl ?_)
  have loop : wpAny (model PG w) A (do
      let l ← dictEntries a
      let epoch ← dictEpoch a
      forIn (List.range l.size) PUnit.unit fun i (_ : PUnit) => (do
        let l' ← dictEntries a
        match l'[i]? with
        | some e => do
          holding [e.key, e.val] (dictPut d e.hash e.key e.val)
          let ep' ← dictEpoch a
          if (ep' != epoch) = true then do
            (unsupported "dict.changed-during-merge" : Sem Unit)
            pure (ForInStep.yield PUnit.unit)
          else pure (ForInStep.yield PUnit.unit)
        | _ => do
          (unsupported "dict.changed-during-merge" : Sem Unit)
          pure (ForInStep.yield PUnit.unit) : Sem (ForInStep PUnit))
      pure ()) Q E s := by
    refine wpAny_bind (wpAny_dictEntries ha rfl (wpAny_bind (wpAny_dictEpoch ha rfl (wpAny_bind ?_))))
    rw [List.size_toArray, List.range_eq_range']
    refine wpAny_forIn_list _
      (fun rest _ s' => ∃ i h' ep', rest = List.range' i (more.length - i) ∧ i ≤ more.length ∧ s' = { s with heap := h' } ∧ h'.get? d = some (dictOf (putAll es (more.take i)) ep') ∧ Heap.SameBut d s.heap h')
      _ ?_ ?_ _ _ ⟨0, s.heap, ep, by simp, Nat.zero_le _, rfl, by simpa [putAll] using hd, Heap.SameBut.refl _ _⟩
    · rintro x rest b s' ⟨i, h', ep', hr, hi, rfl, hd', hs'⟩
      have hlt : i < more.length := by
        rcases Nat.lt_or_ge i more.length with h | h
        · exact h
        · rw [Nat.sub_eq_zero_of_le h] at hr; simp at hr
      have e : more.length - i = (more.length - (i + 1)) + 1 := by omega
      rw [e, List.range'_succ] at hr
      injection hr with h1 h2
      subst h1
      have ha' : h'.get? a = some (dictOf more ep2) := (hs'.2 a hda).trans ha
      refine wpAny_bind (wpAny_dictEntries ha' rfl ?_)
      have hx : more.toArray[x]? = some more[x] := by simp [hlt]
      rw [hx]
      dsimp only
      obtain ⟨t, e1, e2⟩ := k2.key (List.getElem_mem hlt)
      have ktake : KW w (more.take x) := fun e he => k2 e (List.mem_of_mem_take he)
      have kk := (WD.putAll k ktake).kw
      have hz' : (putAll es (more.take x)).length ≤ 1000 := by
        have h1 := putAll_len (more.take x) es
        have h2 : (more.take x).length ≤ more.length := by rw [List.length_take]; omega
        omega
      have step : ∀ (q : Unit → Shared → Prop) E', (∀ h'' ep'', h''.get? d = some (dictOf (putAll es (more.take (x + 1))) ep'') → Heap.SameBut d h' h'' → q () { s with heap := h'' }) →
          wpAny (model PG w) A (dictPut d more[x].hash more[x].key more[x].val) q E' { s with heap := h' } := by
        intro q E' hq
        rw [e1, e2]
        refine dictPut_x (s := { s with heap := h' }) hd' kk hz' fun h'' ep'' q1 q2 => hq h'' ep'' ?_ q2
        have : putAll es (more.take (x + 1)) = putL (keyTx more[x]) (hashStr w (keyTx more[x])) (.str (keyTx more[x]) t) more[x].val (putAll es (more.take x)) := by
          unfold putAll
          rw [List.take_add_one, List.foldl_append]
          simp [hlt, e1, e2]
        rw [this]
        exact q1
      refine wpAny_bind (wpAny_holding (step _ _ fun h'' ep'' q1 q2 => ?_))
      have ha'' : h''.get? a = some (dictOf more ep2) := (q2.2 a hda).trans ha'
      refine wpAny_bind (wpAny_dictEpoch ha'' rfl ?_)
      rw [if_neg (by simp)]
      exact wpAny_pure ⟨x + 1, h'', ep'', h2, hlt, rfl, q1, hs'.trans q2⟩
    · rintro b s' ⟨i, h', ep', hr, hi, rfl, hd', hs'⟩
      have hin : i = more.length := by
        rcases Nat.lt_or_ge i more.length with h | h
        · have e : more.length - i = (more.length - (i + 1)) + 1 := by omega
          rw [e, List.range'_succ] at hr; exact nomatch hr
        · exact Nat.le_antisymm hi h
      rw [hin, List.take_length] at hd'
      exact wpAny_pure (hQ h' ep' hd' hs')
  split
  · refine wpAny_bind (wpAny_dictEntries ha rfl ?_)
    rw [forIn_pure]
    · exact loop
    · intro e he c
      obtain ⟨t, e1, _⟩ := k2.key (by simpa using he)
      rw [e1]
  · exact loop
/-- an entry of texts -/
def entE (w : World) (k : Str) (kt : Tok) (v : Value) : DictEntry := ⟨hashStr w k, .str k kt, v⟩
theorem putAll_cons (es : List DictEntry) (e : DictEntry) (r : List DictEntry) : putAll es (e :: r) = putAll (putL (keyTx e) e.hash e.key e.val es) r := rfl
theorem KW.ent {w : World} : ∀ (l : List (Str × Tok × Value)), KW w (l.map fun x => entE w x.1 x.2.1 x.2.2)
  | [] => KW.nil
  | x :: r => KW.cons (KW.ent r)

theorem storeAll_x {w : World} {A : Around} {E : Value → Shared → Prop} {d : Addr} : ∀ (vs : List (Str × Tok × Value)) (acc : List DictEntry) (ep : Nat) (s : Shared) (Q : PUnit → Shared → Prop),
    s.heap.get? d = some (dictOf acc ep) → WD w acc → acc.length + vs.length ≤ 1000 →
    (∀ h' ep', h'.get? d = some (dictOf (putAll acc (vs.map fun x => entE w x.1 x.2.1 x.2.2)) ep') → Heap.SameBut d s.heap h' → Q PUnit.unit { s with heap := h', toks := s.toks + vs.length }) →
    wpAny (model PG w) A (forIn (vs.map fun x => (Value.str x.1 x.2.1, x.2.2)) PUnit.unit fun (x : Value × Value) (_ : PUnit) => (do dictSet d x.1 x.2; pure (ForInStep.yield PUnit.unit) : Sem (ForInStep PUnit))) Q E s
  | [], acc, ep, s, Q, hd, _, _, hQ => by
    rw [List.map_nil, List.forIn_nil]
    exact wpAny_pure (by simpa [putAll] using hQ s.heap ep (by simpa [putAll] using hd) (Heap.SameBut.refl _ _))
  | (k, kt, v) :: vs, acc, ep, s, Q, hd, hk, hz, hQ => by
    rw [List.length_cons] at hz
    rw [List.map_cons, List.forIn_cons]
    refine wpAny_bind (wpAny_bind (dictSet_x hd hk.kw (by omega) fun h₁ ep₁ hd₁ hs₁ => wpAny_pure ?_))
    refine storeAll_x vs _ ep₁ _ Q hd₁ hk.put (by have := putL_len k (hashStr w k) (.str k kt) v acc; dsimp only; omega) fun h' ep' hd' hs' => ?_
    have := hQ h' ep' hd' (hs₁.trans hs')
    simpa [Nat.add_assoc, Nat.add_comm 1] using this

/-- three written pairs in a dict of their own -/
theorem subDict3 {w : World} {A : Around} {E : Value → Shared → Prop} {s : Shared} {env : Env} {k1 k2 k3 v1 v2 v3 : Str} {a1 a2 a3 b1 b2 b3 : Nat} {p1 p2 p3 q1 q2 q3 pos : Pos} {Q : Addr → Shared → Prop}
    (h : ∀ h' ep', h'.get? s.heap.objs.size = some (dictOf (putAll [] [entE w k1 s.toks (.str v1 (s.toks + 1)), entE w k2 (s.toks + 2) (.str v2 (s.toks + 3)), entE w k3 (s.toks + 4) (.str v3 (s.toks + 5))]) ep') → Ext s.heap h' → Q s.heap.objs.size { s with heap := h', toks := s.toks + 9 }) :
    wpAny (model PG w) A (subDict [(eval (.Constant (.str k1) a1 p1) env, do let x ← eval (.Constant (.str v1) b1 q1) env; standAt pos; pure x), (eval (.Constant (.str k2) a2 p2) env, do let x ← eval (.Constant (.str v2) b2 q2) env; standAt pos; pure x),
      (eval (.Constant (.str k3) a3 p3) env, do let x ← eval (.Constant (.str v3) b3 q3) env; standAt pos; pure x)]) Q E s := by
  unfold subDict
  refine wpAny_bind ?_
  refine wpAny_alloc ?_
  refine wpAny_bind ?_
  refine wpAny_holding ?_
  rw [if_pos (by simp)]
  have one : ∀ {k v : Str} {a b : Nat} {p q : Pos} {rest} {Q' : List (Value × Value) → Shared → Prop} {s' : Shared},
      wpAny (model PG w) A (evalPairs rest) (fun r s₂ => Q' ((.str k s'.toks, .str v (s'.toks + 1)) :: r) s₂) E { s' with toks := s'.toks + 1 + 1 } →
      wpAny (model PG w) A (evalPairs ((eval (.Constant (.str k) a p) env, do let x ← eval (.Constant (.str v) b q) env; standAt pos; pure x) :: rest)) Q' E s' := fun hr =>
    evalPairs_cons (Calls.Constant_str (wpAny_bind (Calls.Constant_str (wpAny_bind (wpAny_standAt (wpAny_pure hr))))))
  refine wpAny_bind ?_
  refine one ?_
  refine one ?_
  refine one ?_
  refine evalPairs_nil ?_
  refine wpAny_holding (wpAny_bind ?_)
  refine storeAll_x (w := w) [(k1, s.toks, .str v1 (s.toks + 1)), (k2, s.toks + 2, .str v2 (s.toks + 3)), (k3, s.toks + 4, .str v3 (s.toks + 5))] [] 0 _ _ (Heap.get?_push_size _ rfl) WD.nil (by simp) fun h' ep' hd' hs' => ?_
  refine wpAny_pure (wpAny_pure ?_)
  refine h h' ep' hd' fun b o e => hs'.extBut b o (Nat.ne_of_lt (Heap.lt_size e)) (Heap.get?_push_of_some _ e)
/-- {**d, k1: v1, k2: v2, k3: v3} -/
theorem Dict_star {w : World} {A : Around} {E : Value → Shared → Prop} {s : Shared} {env : Env} {e0 : Expr} {d0 : Addr} {es : List DictEntry} {ep0 : Nat} {k1 k2 k3 v1 v2 v3 : Str} {a1 a2 a3 b1 b2 b3 : Nat} {p1 p2 p3 q1 q2 q3 pos : Pos}
    {Q : Value → Shared → Prop}
    (he0 : ∀ (s' : Shared) (Q' : Value → Shared → Prop), Ext s.heap s'.heap → Q' (.ref d0) s' → wpAny (model PG w) A (eval e0 env) Q' E s')
    (hd0 : s.heap.get? d0 = some (dictOf es ep0)) (k : WD w es) (hS : (d0 == sysModules) = false) (hz : es.length ≤ 500) {mg mb} (G : Gd w mg mb s.heap)
    (h : ∀ D h' ep' tk', s.toks ≤ tk' → Ext s.heap h' → s.heap.get? D = none → (D == sysModules) = false →
      h'.get? D = some (dictOf (putAll (putAll [] es) (putAll [] [entE w k1 s.toks (.str v1 (s.toks + 1)), entE w k2 (s.toks + 2) (.str v2 (s.toks + 3)), entE w k3 (s.toks + 4) (.str v3 (s.toks + 5))])) ep') →
      Q (.ref D) { s with heap := h', toks := tk' }) :
    wpAny (model PG w) A (eval (.Dict [none, some (.Constant (.str k1) a1 p1), some (.Constant (.str k2) a2 p2), some (.Constant (.str k3) a3 p3)]
      [e0, .Constant (.str v1) b1 q1, .Constant (.str v2) b2 q2, .Constant (.str v3) b3 q3] pos) env) Q E s := by
  rw [arm_eval_Dict]
  refine wpAny_bind (wpAny_standAt ?_)
  show wpAny _ _ (dictDisplay [(none, do let x ← eval e0 env; standAt pos; pure x), (some (eval (.Constant (.str k1) a1 p1) env), do let x ← eval (.Constant (.str v1) b1 q1) env; standAt pos; pure x),
    (some (eval (.Constant (.str k2) a2 p2) env), do let x ← eval (.Constant (.str v2) b2 q2) env; standAt pos; pure x), (some (eval (.Constant (.str k3) a3 p3) env), do let x ← eval (.Constant (.str v3) b3 q3) env; standAt pos; pure x)]) _ _ _
  unfold dictDisplay
  simp only [List.forIn_cons, List.forIn_nil, pure_bind, bind_assoc, List.isEmpty_nil, if_true, List.nil_append, List.length_cons, List.length_nil, Nat.reduceAdd, Nat.reduceBEq, List.cons_append, Bool.false_eq_true, if_false, List.isEmpty_cons]
  refine wpAny_bind (wpAny_alloc ?_)
  have hlt : d0 < s.heap.objs.size := Heap.lt_size hd0
  have x1 : Ext s.heap (s.heap.push { cls := .type "dict", data := .dict #[] }) := ext_push _ _
  have hD : (s.heap.push { cls := .type "dict", data := .dict #[] }).get? s.heap.objs.size = some (dictOf [] 0) := Heap.get?_push_size _ rfl
  have hz0 : (s.heap.push { cls := .type "dict", data := .dict #[] }).objs.size = s.heap.objs.size + 1 := Heap.size_push ..
  generalize s.heap.push { cls := .type "dict", data := .dict #[] } = h0 at *
  refine wpAny_bind ?_
  refine wpAny_holding ?_
  refine wpAny_bind ?_
  refine he0 _ _ x1 ?_
  refine wpAny_bind ?_
  refine wpAny_standAt ?_
  refine wpAny_pure ?_
  refine wpAny_bind ?_
  refine wpAny_onRaise ?_
  refine wpAny_tryCatch ?_
  refine wpAny_onRaise ?_
  refine wpAny_holding ?_
  have hd00 := x1 _ _ hd0
  have hne : d0 ≠ s.heap.objs.size := Nat.ne_of_lt hlt
  have hz9 : ([] : List DictEntry).length + es.length ≤ 1000 := by simp; omega
  refine merge_x (s := { s with heap := h0 }) (w := w) (es := []) (more := es) hD hd00 hne hS WD.nil k.kw hz9 fun h1 ep1 hd1 hs1 => ?_
  replace hs1 : Heap.SameBut s.heap.objs.size h0 h1 := hs1
  have x2 : Ext s.heap h1 := fun b o e => hs1.extBut b o (Nat.ne_of_lt (Heap.lt_size e)) (x1 b o e)
  have hz1 : h1.objs.size = s.heap.objs.size + 1 := hs1.1.trans hz0
  refine wpAny_bind ?_
  refine wpAny_holding ?_
  refine subDict3 (w := w) ?_
  intro h2 ep2 hd2 x3
  replace x3 : Ext h1 h2 := x3
  have hd1' : h2.get? s.heap.objs.size = some (dictOf (putAll [] es) ep1) := x3 _ _ hd1
  replace hd2 : h2.get? h1.objs.size = some (dictOf (putAll [] [entE w k1 s.toks (.str v1 (s.toks + 1)), entE w k2 (s.toks + 2) (.str v2 (s.toks + 3)), entE w k3 (s.toks + 4) (.str v3 (s.toks + 5))]) ep2) := hd2
  have kk := WD.putAll (w := w) WD.nil k.kw
  have kn : KW w [entE w k1 s.toks (.str v1 (s.toks + 1)), entE w k2 (s.toks + 2) (.str v2 (s.toks + 3)), entE w k3 (s.toks + 4) (.str v3 (s.toks + 5))] := KW.ent [(k1, s.toks, .str v1 (s.toks + 1)), (k2, s.toks + 2, .str v2 (s.toks + 3)), (k3, s.toks + 4, .str v3 (s.toks + 5))]
  have kk2 := WD.putAll (w := w) WD.nil kn
  refine wpAny_bind ?_
  refine wpAny_onRaise ?_
  refine wpAny_holding ?_
  have hl1 := putAll_len es []
  have hl2 := putAll_len [entE w k1 s.toks (.str v1 (s.toks + 1)), entE w k2 (s.toks + 2) (.str v2 (s.toks + 3)), entE w k3 (s.toks + 4) (.str v3 (s.toks + 5))] []
  simp only [List.length_cons, List.length_nil] at hl1 hl2
  refine merge_x (w := w) hd1' hd2 (by rw [hz1]; exact Nat.succ_ne_self _) (G.sys (by rw [hz1]; exact Nat.le_succ _)) kk kk2.kw (by omega) fun h3 ep3 hd3 hs3 => ?_
  replace hs3 : Heap.SameBut s.heap.objs.size h2 h3 := hs3
  refine wpAny_pure (h _ h3 ep3 _ (by dsimp only; omega) (fun b o e => hs3.extBut b o (Nat.ne_of_lt (Heap.lt_size e)) (x3 b o (x2 b o e))) ?_ ?_ hd3)
  · cases q : s.heap.get? s.heap.objs.size with
    | none => rfl
    | some o => exact absurd (Heap.lt_size q) (Nat.lt_irrefl _)
  · exact G.sys (Nat.le_refl _)
theorem pct_dq0 {w : World} {A : Around} {s : Shared} {E : Value → Shared → Prop} {Q : Value → Shared → Prop} {y : Str} {t u : Tok} (hy : y.length ≤ 10000)
    (h : ∀ t' k, s.toks ≤ k → Q (.str (Str.ofString "\"" ++ y ++ Str.ofString "\"") t') { s with toks := k }) :
    wpAny (model PG w) A (binaryOp .Mod (.str (Str.ofString "\"%s\"") t) (.str y u)) Q E s := by
  refine wpAny_with_toks (n := s.toks) (Nat.le_refl _) ?_
  refine' KPc.mod_str ?kpcF ?kpcl ?kpcm ?_
  case kpcF => kpc_eq
  case kpcl => omega
  case kpcm => k_dflt kpc_run_s
  intro t' k hk
  exact h t' k hk
theorem pct_sq0 {w : World} {A : Around} {s : Shared} {E : Value → Shared → Prop} {Q : Value → Shared → Prop} {y : Str} {t u : Tok} (hy : y.length ≤ 10000)
    (h : ∀ t' k, s.toks ≤ k → Q (.str (Str.ofString "'" ++ y ++ Str.ofString "'") t') { s with toks := k }) :
    wpAny (model PG w) A (binaryOp .Mod (.str (Str.ofString "'%s'") t) (.str y u)) Q E s := by
  refine wpAny_with_toks (n := s.toks) (Nat.le_refl _) ?_
  refine' KPc.mod_str ?kpcF ?kpcl ?kpcm ?_
  case kpcF => kpc_eq
  case kpcl => omega
  case kpcm => k_dflt kpc_run_s
  intro t' k hk
  exact h t' k hk
/-- the texts of a table's entries, in order -/
def prs (es : List DictEntry) : List (Str × Str) := es.map fun e => (keyTx e, valTx e)
def replP (ps : List (Str × Str)) (x : Str) : Str := ps.foldl (fun s p => Txt.replace s p.1 p.2) x
theorem repl_prs (es : List DictEntry) (x : Str) : repl es x = replP (prs es) x := by
  unfold repl replP prs
  rw [List.foldl_map]
theorem prs_take (es : List DictEntry) (i : Nat) : prs (es.take i) = (prs es).take i := by
  unfold prs
  rw [List.map_take]
def hasS (x y : Str) : Bool := !(Builtin.Str.occurrences x y 0 x.length 1).isEmpty
def qform (z : Str) : Str :=
  if hasS z (Str.ofString "\"") = true then
    (if hasS z (Str.ofString "'") = true then Str.ofString "\"" ++ Txt.replace z (Str.ofString "\"") (Str.ofString "&quot;") ++ Str.ofString "\"" else Str.ofString "'" ++ z ++ Str.ofString "'")
  else Str.ofString "\"" ++ z ++ Str.ofString "\""
def u1 (x : Str) : Str := Txt.replace x (Str.ofString "&lt;") (Str.ofString "<")
def u2 (x : Str) : Str := Txt.replace (u1 x) (Str.ofString "&gt;") (Str.ofString ">")
def u3 (x : Str) : Str := Txt.replace (u2 x) (Str.ofString "&amp;") (Str.ofString "&")

theorem putL_new (x : Str) (hs : Int) (k v : Value) : ∀ (es : List DictEntry), (∀ e ∈ es, e.key.isStr x = false) → putL x hs k v es = es ++ [⟨hs, k, v⟩]
  | [], _ => rfl
  | e :: r, h => by
    unfold putL
    rw [h e (.head _)]
    simp only [Bool.false_eq_true, if_false, List.cons_append]
    rw [putL_new x hs k v r fun e' he' => h e' (.tail _ he')]
theorem putAll_new {w : World} : ∀ (more es : List DictEntry), KW w es → KW w more → ((es ++ more).map keyTx).Nodup → putAll es more = es ++ more
  | [], es, _, _, _ => by simp [putAll]
  | e :: r, es, h, hm, hn => by
    rw [putAll_cons]
    have hp : putL (keyTx e) e.hash e.key e.val es = es ++ [e] := by
      rw [putL_new]
      intro e' he'
      rw [keyTx_isStr h he' (keyTx e)]
      refine decide_eq_false fun q => ?_
      rw [List.map_append, List.nodup_append] at hn
      exact hn.2.2 _ (List.mem_map_of_mem he') _ (List.mem_map_of_mem (.head _)) q
    rw [hp, putAll_new r (es ++ [e])]
    · simp
    · intro e' he'
      rcases List.mem_append.mp he' with q | q
      · exact h e' q
      · rw [List.mem_singleton.mp q]; exact hm e (.head _)
    · exact fun e' he' => hm e' (.tail _ he')
    · simpa using hn

theorem c_unescape {w : World} {mg mb} {A : Around} {s : Shared} {E : Value → Shared → Prop} {Q : Value → Shared → Prop} {x : Str} {t : Tok}
    (G : Gd w mg mb s.heap) (hh : A.handled = none) (hroom : A.depth < recursionLimit)
    (hl0 : x.length ≤ 10000) (hl1 : (u1 x).length ≤ 10000) (hl2 : (u2 x).length ≤ 10000)
    (h : ∀ t' h' tk', s.toks ≤ tk' → Ext s.heap h' → Q (.str (u3 x) t') { s with heap := h', toks := tk' }) :
    wpAny (model PG w) A (call (.ref 39) [.str x t] []) Q E s := by
  refine enterM [(Str.ofString "data", .str x t), (Str.ofString "entities", .ref 31)] G (by rfl) (by rfl) (by omega) (by exact BindsTo.of_defaults rfl (G.K _ _ (by rfl)) rfl rfl rfl) (locs rfl) (Nat.zero_lt_succ _) ?_
  intro h₁ L tk₀ htk₀ G₁ F
  walk_at "SS"
  refine replace_ (by walk_at "T") (by walk_at "T") (by walk_at "T") hl0 (by decide) (Gd.nobook (w := w) (mg := mg) (mb := mb) (by walk_at "GD")) (fun t2 k2 hk2 => ?_)
  walk_at "SS"
  refine replace_ (by walk_at "T") (by walk_at "T") (by walk_at "T") hl1 (by decide) (Gd.nobook (w := w) (mg := mg) (mb := mb) (by walk_at "GD")) (fun t3 k3 hk3 => ?_)
  walk_at "SS"
  rename Fm _ _ _ _ => F9
  have hd9 := (F9.gd G).K 31 (dictOf [] 0) (by rfl)
  refine wpAny_truthy_dict (knd := strKind PG w) (by decide) (dictAt_x hd9 WD.nil).dictOf (by decide) ?_
  rw [if_neg (by decide)]
  walk_at "SS"
  refine replace_ (by walk_at "T") (by walk_at "T") (by walk_at "T") hl2 (by decide) (Gd.nobook (w := w) (mg := mg) (mb := mb) (by walk_at "GD")) (fun t4 k4 hk4 => ?_)
  walk_at "SS"
  exact h t4 _ _ (by walk_at "T") F9.keep
def nrt : List (Str × Str) := [(Str.ofString "\n", Str.ofString "&#10;"), (Str.ofString "\r", Str.ofString "&#13;"), (Str.ofString "\t", Str.ofString "&#9;")]

theorem c_quoteattr {w : World} {mg mb} {A : Around} {s : Shared} {E : Value → Shared → Prop} {Q : Value → Shared → Prop} {x : Str} {t : Tok} {d : Addr} {es : List DictEntry} {ep : Nat}
    (G : Gd w mg mb s.heap) (hh : A.handled = none) (hroom : A.depth + 2 < recursionLimit) (hS : (d == sysModules) = false)
    (hd : s.heap.get? d = some (dictOf es ep)) (k : WD w es) (he : ∀ e ∈ es, Ent e) (hz : es.length ≤ 500)
    (hk : ∀ e ∈ es, keyTx e ≠ Str.ofString "\n" ∧ keyTx e ≠ Str.ofString "\r" ∧ keyTx e ≠ Str.ofString "\t")
    (hl0 : x.length ≤ 10000) (hl1 : (e1 x).length ≤ 10000) (hl2 : (e2 x).length ≤ 10000) (hl : ∀ i, (replP ((prs es ++ nrt).take i) (e3 x)).length ≤ 10000)
    (hlq : (Txt.replace (replP (prs es ++ nrt) (e3 x)) (Str.ofString "\"") (Str.ofString "&quot;")).length ≤ 10000)
    (h : ∀ t' h' tk', s.toks ≤ tk' → Ext s.heap h' → Q (.str (qform (replP (prs es ++ nrt) (e3 x))) t') { s with heap := h', toks := tk' }) :
    wpAny (model PG w) A (call (.ref 48) [.str x t, .ref d] []) Q E s := by
  refine enterM [(Str.ofString "data", .str x t), (Str.ofString "entities", .ref d)] G (by rfl) (by rfl) (by omega) (by exact BindsTo.of_defaults rfl (G.K _ _ (by rfl)) rfl rfl rfl) (locs rfl) (Nat.zero_lt_succ _) ?_
  intro h₁ L tk₀ htk₀ G₁ F
  have hd₁ := F.keep _ _ hd
  walk_at "SS"
  refine Dict_star (w := w) (d0 := d) (es := es) (ep0 := ep) ?_ hd₁ k hS hz (F.gd G) ?_
  · intro s' Q' x' hq
    exact ldL (F.ext x') rfl hq
  intro D h2 ep2 tk2 ht2 x2 hDn hDs hD
  have F2 := F.ext x2
  generalize hns : [entE w (Str.ofString "\n") tk₀ (.str (Str.ofString "&#10;") (tk₀ + 1)), entE w (Str.ofString "\r") (tk₀ + 2) (.str (Str.ofString "&#13;") (tk₀ + 3)), entE w (Str.ofString "\t") (tk₀ + 4) (.str (Str.ofString "&#9;") (tk₀ + 5))] = ns at hD
  have kn : KW w ns := by rw [← hns]; exact KW.ent [(Str.ofString "\n", tk₀, .str (Str.ofString "&#10;") (tk₀ + 1)), (Str.ofString "\r", tk₀ + 2, .str (Str.ofString "&#13;") (tk₀ + 3)), (Str.ofString "\t", tk₀ + 4, .str (Str.ofString "&#9;") (tk₀ + 5))]
  have kk : ns.map keyTx = [Str.ofString "\n", Str.ofString "\r", Str.ofString "\t"] := by rw [← hns]; rfl
  have pn : prs ns = nrt := by rw [← hns]; rfl
  have en : ∀ e ∈ ns, Ent e := by
    intro e hm
    rw [← hns] at hm
    have h0 : 0 < tk₀ := by omega
    rcases List.mem_cons.mp hm with rfl | hm
    · exact ⟨_, _, _, _, rfl, rfl, by walk_at "T", by walk_at "T", by walk_at "T", by decide⟩
    rcases List.mem_cons.mp hm with rfl | hm
    · exact ⟨_, _, _, _, rfl, rfl, by walk_at "T", by walk_at "T", by walk_at "T", by decide⟩
    rcases List.mem_cons.mp hm with rfl | hm
    · exact ⟨_, _, _, _, rfl, rfl, by walk_at "T", by walk_at "T", by walk_at "T", by decide⟩
    cases hm
  clear hns
  rw [putAll_new es [] KW.nil k.kw (by simpa using k.nd), putAll_new ns [] KW.nil kn (by simp only [List.nil_append, kk]; decide), List.nil_append, List.nil_append] at hD
  have nd2 : ((es ++ ns).map keyTx).Nodup := by
    rw [List.map_append, kk, List.nodup_append]
    refine ⟨k.nd, by decide, fun a ha b hb q => ?_⟩
    obtain ⟨e, hme, rfl⟩ := List.mem_map.mp ha
    have := hk e hme
    simp only [List.mem_cons, List.not_mem_nil, or_false] at hb
    rcases hb with rfl | rfl | rfl
    · exact this.1 q
    · exact this.2.1 q
    · exact this.2.2 q
  rw [putAll_new ns es k.kw kn nd2] at hD
  have k2 : WD w (es ++ ns) := ⟨fun e hm => (List.mem_append.mp hm).elim (k.kw e) (kn e), nd2⟩
  have e2' : ∀ e ∈ es ++ ns, Ent e := fun e hm => (List.mem_append.mp hm).elim (he e) (en e)
  have p2 : prs (es ++ ns) = prs es ++ nrt := by rw [← pn]; unfold prs; rw [List.map_append]
  have nl : ns.length = 3 := by have := congrArg List.length kk; simpa using this
  have hDn' : h₁.get? D = none := hDn
  have N2 : News s.heap L h2 [(D, dictOf (es ++ ns) ep2)] := by
    refine newsNew News.nil hD ?_ ?_
    · rintro rfl
      obtain ⟨o, _, _, q, _⟩ := F.ns
      rw [q] at hDn'; cases hDn'
    · cases q : s.heap.get? D with
      | none => rfl
      | some o => have := F.keep _ _ q; rw [hDn'] at this; cases this
  walk_at "SS"
  rename Fm _ _ _ _ => F9
  rename News _ _ _ _ => N9
  have hD9 := (N9 _ (.head _)).1
  refine c_escape (F9.gd G) hh (by show A.depth + 1 + 1 < recursionLimit; omega) hDs hD9 k2 e2' ?_ (by rw [List.length_append, nl]; omega) hl0 hl1 hl2 ?_ ?_
  · cases es <;> cases ns <;> first | rfl | cases nl
  · intro i
    rw [repl_prs, prs_take, p2]
    exact hl i
  intro t5 h5 tk5 ht5 x5
  rw [repl_prs, p2]
  have hl9 : (replP (prs es ++ nrt) (e3 x)).length ≤ 10000 := by
    have := hl (prs es ++ nrt).length
    rwa [List.take_length] at this
  generalize replP (prs es ++ nrt) (e3 x) = z at *
  have F5 := F9.ext x5
  have N5 := newsExt N9 x5
  clear F9 N9
  have fin : ∀ (r : Str) (t' : Tok) (h' : Heap) (tk' : Nat), qform z = r → s.toks ≤ tk' → Ext s.heap h' → Q (.str r t') { s with heap := h', toks := tk' } := fun r t' h' tk' e a b => e ▸ h t' h' tk' a b
  clear h
  walk_at "SS"
  show ite (hasS z (Str.ofString "\"") = true) _ _
  by_cases c1 : hasS z (Str.ofString "\"") = true
  · rw [if_pos c1]
    walk_at "SS"
    show ite (hasS z (Str.ofString "'") = true) _ _
    by_cases c2 : hasS z (Str.ofString "'") = true
    · rw [if_pos c2]
      walk_at "SS"
      have hr : (Txt.replace z (Str.ofString "\"") (Str.ofString "&quot;")).length ≤ 10000 := hlq
      refine replace_ (by walk_at "T") (by walk_at "T") (by walk_at "T") hl9 (by decide) (Gd.nobook (w := w) (mg := mg) (mb := mb) (by walk_at "GD")) (fun t6 k6 hk6 => ?_)
      walk_at "SS"
      refine pct_dq0 hr (fun t7 k7 hk7 => ?_)
      walk_at "SS"
      rename Fm _ _ _ _ => F6
      exact fin _ _ _ _ (by unfold qform; rw [if_pos c1, if_pos c2]) (by walk_at "T") F6.keep
    · rw [if_neg c2]
      walk_at "SS"
      refine pct_sq0 hl9 (fun t7 k7 hk7 => ?_)
      walk_at "SS"
      rename Fm _ _ _ _ => F6
      exact fin _ _ _ _ (by unfold qform; rw [if_pos c1, if_neg c2]) (by walk_at "T") F6.keep
  · rw [if_neg c1]
    walk_at "SS"
    refine pct_dq0 hl9 (fun t7 k7 hk7 => ?_)
    walk_at "SS"
    rename Fm _ _ _ _ => F6
    exact fin _ _ _ _ (by unfold qform; rw [if_neg c1]) (by walk_at "T") F6.keep
section
variable {w : World} {A : Around} {s : Shared} {E : Value → Shared → Prop} {B : Heap} {L : Addr} {m : Str → Option Value} {l : List (Addr × Obj)}

theorem push_step {P : Shared → Prop} {H : Heap} {g : Array GenState} {dr : Drawn} {tk : Nat} {os : OsState} {o : Obj} (F : Fm B L H m) (N : News B L H l) (hf : o.isFreed = false)
    (h : ∀ h', Fm B L h' m → News B L h' ((H.objs.size, o) :: l) → Ext H h' → (∀ p ∈ l, p.1 ≠ H.objs.size) → P ⟨h', g, dr, tk, os⟩) : P ⟨H.push o, g, dr, tk, os⟩ :=
  h _ (F.push o) (newsPush F N o hf) (ext_push _ _) fun p hp => Nat.ne_of_lt (Heap.lt_size (N p hp).1)

theorem newsUpd {h h' : Heap} {D : Addr} {o o' : Obj} (N : News B L h ((D, o) :: l)) (hs : Heap.SameBut D h h') (ho : h'.get? D = some o') (hl : ∀ p ∈ l, p.1 ≠ D) : News B L h' ((D, o') :: l) := by
  have hD := N _ (.head _)
  exact newsNew (newsBut (fun p hp => N p (.tail _ hp)) hs.extBut hl) ho hD.2.1 hD.2.2
theorem fmUpd {h h' : Heap} {D : Addr} {o : Obj} (F : Fm B L h m) (N : News B L h ((D, o) :: l)) (hs : Heap.SameBut D h h') : Fm B L h' m :=
  F.but hs.extBut (N _ (.head _)).2.2 (Ne.symm (N _ (.head _)).2.1)

/-- octets.append(x) of the first thing of the ledger -/
theorem append_x {D : Addr} {ys : List Value} {n : Nat} {x : Value} {Q : Value → Shared → Prop} (F : Fm B L s.heap m) (N : News B L s.heap ((D, listOf ys.toArray n) :: l)) (hl : ∀ p ∈ l, p.1 ≠ D) (hz : ys.length ≤ 100000)
    (h : ∀ h' n', Fm B L h' m → News B L h' ((D, listOf (ys ++ [x]).toArray n') :: l) → Q .none { s with heap := h' }) :
    wpAny (model PG w) A (call (.builtin "list.append") [.ref D, x]) Q E s := by
  refine wpAny_list_append_plain (hsz := by rw [List.size_toArray, sizeLine_eq]; omega) ⟨n, (N _ (.head _)).1⟩ fun h' hp hs => ?_
  obtain ⟨n', hp⟩ := hp
  exact h h' n' (fmUpd F N hs) (newsUpd N hs (by simpa using hp) hl)

/-- octets.extend(b) of the first thing of the ledger -/
theorem extend_x {D b : Addr} {ys zs : List Value} {n n2 : Nat} {Q : Value → Shared → Prop} (F : Fm B L s.heap m) (N : News B L s.heap ((D, listOf ys.toArray n) :: l)) (hl : ∀ p ∈ l, p.1 ≠ D)
    (hb : s.heap.get? b = some (listOf zs.toArray n2)) (hz : ys.length + zs.length ≤ 100000)
    (h : ∀ h' n', Fm B L h' m → News B L h' ((D, listOf (ys ++ zs).toArray n') :: l) → Q .none { s with heap := h' }) :
    wpAny (model PG w) A (call (.builtin "list.extend") [.ref D, .ref b]) Q E s := by
  have hm := N _ (.head _)
  have hsz' : ys.toArray.size + zs.toArray.size ≤ sizeLine := by rw [List.size_toArray, List.size_toArray, sizeLine_eq]; omega
  refine call_meets PySem.F.slot_list_extend ⟨_, hm.1, rfl⟩ PySem.F.entry_list_extend (PySem.F.args_list_extend_2 _ _) (AutoSeq1.list_extend_list_list_0 D ys.toArray n b zs.toArray n2 (extend_door hsz') (Nat.le_trans (Nat.le_add_right _ _) hsz')) ⟨hm.1, hb, ?_⟩
  have hs : Heap.SameBut D s.heap (s.heap.update D (Obj.mapSeq fun x => x ++ zs.toArray)) := Heap.SameBut.update ..
  have ho : (s.heap.update D (Obj.mapSeq fun x => x ++ zs.toArray)).get? D = some (listOf (ys ++ zs).toArray (if (ys.toArray ++ zs.toArray).size == ys.toArray.size then n else n + 1)) := by
    rw [Heap.get?_update_self _ hm.1 (by rw [mapSeq_app]; rfl), mapSeq_app]
    simp
  exact h _ _ (fmUpd F N hs) (newsUpd N hs ho hl)

/-- D.extend(a list made just now) -/
theorem extend_new {g : Array GenState} {dr : Drawn} {tk : Nat} {os : OsState} {H : Heap} {D : Addr} {ys zs : List Value} {n n2 : Nat} {Q : Value → Shared → Prop} (F : Fm B L H m) (N : News B L H ((D, listOf ys.toArray n) :: l)) (hl : ∀ p ∈ l, p.1 ≠ D)
    (hz : ys.length + zs.length ≤ 100000)
    (h : ∀ h' n', Fm B L h' m → News B L h' ((D, listOf (ys ++ zs).toArray n') :: l) → Q .none ⟨h', g, dr, tk, os⟩) :
    wpAny (model PG w) A (call (.builtin "list.extend") [.ref D, .ref H.objs.size]) Q E ⟨H.push (listOf zs.toArray n2), g, dr, tk, os⟩ := by
  refine push_step F N (by rfl) ?_
  intro h1 F1 N1 x1 hl1
  have hnD := hl1 _ (.head _)
  refine extend_x (l := (H.objs.size, listOf zs.toArray n2) :: l) (ys := ys) (n := n) F1 ?_ ?_ (N1 _ (.head _)).1 hz ?_
  · intro p hp
    refine N1 p ?_
    rcases List.mem_cons.mp hp with rfl | hp
    · exact .tail _ (.head _)
    rcases List.mem_cons.mp hp with rfl | hp
    · exact .head _
    · exact .tail _ (.tail _ hp)
  · intro p hp
    rcases List.mem_cons.mp hp with rfl | hp
    · exact Ne.symm hnD
    · exact hl p hp
  · intro h2 n' F2 N2
    refine h h2 n' F2 fun p hp => N2 p ?_
    rcases List.mem_cons.mp hp with rfl | hp
    · exact .head _
    · exact .tail _ (.tail _ hp)

theorem meth_list {D : Addr} {vs : Array Value} {n : Nat} {name : Str} {id : String} {pl : Sem Bool} {Q : Value × List Value → Shared → Prop} (hD : s.heap.get? D = some (listOf vs n))
    (slot : Slot "list" name id) (hty : typeOf (.builtin id) = pure (.type "method_descriptor")) (h : Q (.builtin id, [.ref D]) s) : wpAny (model PG w) A (getMethod (.ref D) name pl) Q E s :=
  getMethod_builtin ⟨_, hD, rfl⟩ PySem.F.plainAttrs_list slot hty (fun a e => by cases e; exact ⟨_, hD, rfl⟩) h

/-- for sign in text -/
theorem for_str {env : Env} {v : Str} {pv : Pos} {body : List Stmt} {x : Str} {t : Tok} {Q : Flow → Shared → Prop} (hh : A.handled = none) (J : Nat → (Str → Option Value) → List (Addr × Obj) → Prop)
    (F : Fm B env.locals s.heap m) (N : News B env.locals s.heap l) (h0 : J 0 m l)
    (step : ∀ i c u m₁ l₁ B' h tk, x.cps[i]? = some c → s.toks ≤ tk → Ext B B' → Ext B' h → Fm B' env.locals h m₁ → News B' env.locals h l₁ → l₁.map (·.1) = l.map (·.1) → J i m₁ l₁ →
      wpAny (model PG w) A (storeName env v (.str ⟨#[c]⟩ u)) (fun _ s₂ => wpAny (model PG w) A (execs body env) (fun f s₃ => match f with
        | .next | .cont => Turned B' env.locals l (J (i + 1)) { s with heap := h, toks := tk } s₃
        | .brk => False
        | .ret _ => False) (fun _ _ => False) s₂) (fun _ _ => False) { s with heap := h, toks := tk })
    (done : ∀ m₁ l₁ h tk, s.toks ≤ tk → Fm B env.locals h m₁ → News B env.locals h l₁ → l₁.map (·.1) = l.map (·.1) → J x.cps.size m₁ l₁ → Q .next { s with heap := h, toks := tk }) :
    wpAny (model PG w) A (pyIter (.str x t)) (fun it s₂ => codeAny (model PG w) A (.forLoop (.Name v pv) it body [] env) (fun r s' => match r with | .ok f => Q f s' | .error e => cameBackBy (model PG w) A env E e s') s₂) E s := by
  refine wpAny_pyIter_str fun o St W hst => ?_
  refine for_gen (W A hh) J ?_ ?_ ?_ hst (F.push o) (newsExt N (ext_push _ o)) h0 ?_ ?_ done
  · exact fun hm => F.ne_size (List.mem_singleton.mp hm).symm
  · exact fun p hp hm => absurd (Heap.lt_size (N p hp).1) ((List.mem_singleton.mp hm) ▸ Nat.lt_irrefl _)
  · exact fun b hb => (List.mem_singleton.mp hb) ▸ fresh_size F.keep
  · intro i v s₁ q E' _ _ hq
    exact wpAny_of_eq rfl hq
  · rintro i _ m₁ l₁ B' h tk hi ⟨c, u, hc, rfl⟩ ht e1 e2 F1 N1 hl hJ
    exact wpAny_assign_Name (step i c u m₁ l₁ B' h tk hc ht e1 e2 F1 N1 hl hJ)
end

/-- what is to hold at the end, under a name -/
theorem wpAny_post {α : Type} {M : Model} {A : Around} {t : Sem α} {Q : α → Shared → Prop} {E : Value → Shared → Prop} {s : Shared} (h : ∀ Q' : α → Shared → Prop, (∀ v s', Q v s' → Q' v s') → wpAny M A t Q' E s) : wpAny M A t Q E s := h Q fun _ _ x => x
theorem wpAny_post2 {α β : Type} {M : Model} {A : Around} {t : Sem α} {u : α → Sem β} {Q : β → Shared → Prop} {E E' : Value → Shared → Prop} {s : Shared} (h : ∀ Q' : β → Shared → Prop, (∀ v s', Q v s' → Q' v s') → wpAny M A t (fun x s₂ => wpAny M A (u x) Q' E' s₂) E s) : wpAny M A t (fun x s₂ => wpAny M A (u x) Q E' s₂) E s := h Q fun _ _ x => x
def oct1 (n : Nat) : List Int :=
  if (n : Int) < 128 then [(n : Int)] else if (n : Int) < 2048 then [192 + (n : Int).fdiv 64, 128 + (n : Int).fmod 64] else [224 + (n : Int).fdiv 4096, 128 + ((n : Int).fdiv 64).fmod 64, 128 + (n : Int).fmod 64]
def octs (l : List Nat) : List Int := l.flatMap oct1
theorem octs_snoc (l : List Nat) (c : Nat) : octs (l ++ [c]) = octs l ++ oct1 c := by simp [octs]
theorem oct1_len (n : Nat) : (oct1 n).length ≤ 3 := by
  unfold oct1
  split
  · simp
  · split <;> simp
theorem octs_len : ∀ l : List Nat, (octs l).length ≤ 3 * l.length
  | [] => Nat.le_refl _
  | c :: r => by
    have h1 := octs_len r
    have h2 := oct1_len c
    have e : octs (c :: r) = oct1 c ++ octs r := by simp [octs]
    rw [e, List.length_append, List.length_cons]
    omega

set_option maxHeartbeats 1000000 in
theorem c_octets {w : World} {mg mb} {A : Around} {s : Shared} {E : Value → Shared → Prop} {Q : Value → Shared → Prop} {x : Str} {t : Tok}
    (G : Gd w mg mb s.heap) (hh : A.handled = none) (hroom : A.depth < recursionLimit) (hl : x.length ≤ 10000)
    (h : ∀ D vs n h' tk', s.toks ≤ tk' → Ext s.heap h' → s.heap.get? D = none → h'.get? D = some (listOf (List.toArray vs) n) → IntsAre vs (octs x.cps.toList) → Q (.ref D) { s with heap := h', toks := tk' }) :
    wpAny (model PG w) A (call (.ref 104) [.str x t] []) Q E s := by
  refine enterM [(Str.ofString "text", .str x t)] G (by rfl) (by rfl) (by omega) (by exact BindsTo.of_eq rfl) (locs rfl) (Nat.zero_lt_succ _) ?_
  intro h₁ L tk₀ htk₀ G₁ F
  walk_at "SS"
  refine push_step F News.nil (by rfl) ?_
  intro h2 F2 N2 x2 hl2
  walk_at "SS"
  rename Fm _ _ _ _ => F3
  rename News _ _ _ _ => N3
  clear hl2
  generalize h₁.objs.size = D at *
  refine wpAny_For ?_ (by intro _; rfl)
  walk_at "SS"
  refine for_str hh (fun i m l => m (Str.ofString "octets") = some (.ref D) ∧ ∃ vs n, l = [(D, listOf (List.toArray vs) n)] ∧ IntsAre vs (octs (x.cps.toList.take i))) F3 N3 ⟨rfl, [], 0, rfl, .nil⟩ ?_ ?_
  · rintro i c u m₁ l₁ B' h tk hc ht e1 e2 F4 N4 hl4 ⟨hm, vs, n, rfl, hv⟩
    refine wpAny_post2 fun Qa hQa => ?_
    clear F3 N3 F2 N2 F G₁
    have G' := G.ext e1
    have hn : ∀ p ∈ ([] : List (Addr × Obj)), p.1 ≠ D := fun _ hp => nomatch hp
    have hzl : vs.length ≤ 3 * i := by
      rw [hv.length]
      have := octs_len (x.cps.toList.take i)
      rw [List.length_take] at this
      omega
    have hil : i < x.length := (Array.getElem?_eq_some_iff.mp hc).1
    have hnx : octs (x.cps.toList.take (i + 1)) = octs (x.cps.toList.take i) ++ oct1 c := by
      rw [← octs_snoc, List.take_add_one]
      simp [hc]
    walk_at "SS"
    by_cases c1 : (c : Int) < 128
    · rw [if_pos (decide_eq_true c1)]
      walk_at "SS"
      rename News _ _ _ _ => N5
      refine meth_list (N5 _ (.head _)).1 PySem.F.slot_list_append PySem.F.type_list_append ?_
      walk_at "SS"
      rename Fm _ _ _ _ => F6
      rename News _ _ _ _ => N6
      refine append_x F6 N6 hn (by omega) ?_
      intro h7 n7 F7 N7
      walk_at "SS"
      refine hQa _ _ ?_
      refine Turned.mk (by walk_at "T") F7 N7 rfl ⟨by first | rfl | assumption, _, _, rfl, ?_⟩
      rw [hnx]
      refine hv.append ?_
      unfold oct1
      rw [if_pos c1]
      exact .cons _ _ .nil
    · rw [if_neg (by rw [decide_eq_false c1]; decide)]
      walk_at "SS"
      by_cases c2 : (c : Int) < 2048
      · rw [if_pos (decide_eq_true c2)]
        walk_at "SS"
        rename News _ _ _ _ => N5
        refine meth_list (N5 _ (.head _)).1 PySem.F.slot_list_extend PySem.F.type_list_extend ?_
        walk_at "SS"
        rename Fm _ _ _ _ => F6
        rename News _ _ _ _ => N6
        refine extend_new F6 N6 hn (by (try simp only [List.length_cons, List.length_nil]); omega) ?_
        intro h8 n8 F8 N8
        walk_at "SS"
        refine hQa _ _ ?_
        refine Turned.mk (by walk_at "T") F8 N8 rfl ⟨by first | rfl | assumption, _, _, rfl, ?_⟩
        rw [hnx]
        refine hv.append ?_
        unfold oct1
        rw [if_neg c1, if_pos c2]
        exact .cons _ _ (.cons _ _ .nil)
      · rw [if_neg (by rw [decide_eq_false c2]; decide)]
        walk_at "SS"
        rename News _ _ _ _ => N5
        refine meth_list (N5 _ (.head _)).1 PySem.F.slot_list_extend PySem.F.type_list_extend ?_
        walk_at "SS"
        rename Fm _ _ _ _ => F6
        rename News _ _ _ _ => N6
        refine extend_new F6 N6 hn (by (try simp only [List.length_cons, List.length_nil]); omega) ?_
        intro h8 n8 F8 N8
        walk_at "SS"
        refine hQa _ _ ?_
        refine Turned.mk (by walk_at "T") F8 N8 rfl ⟨by first | rfl | assumption, _, _, rfl, ?_⟩
        rw [hnx]
        refine hv.append ?_
        unfold oct1
        rw [if_neg c1, if_neg c2]
        exact .cons _ _ (.cons _ _ (.cons _ _ .nil))
  · rintro m₁ l₁ h' tk ht F4 N4 hl4 ⟨hm, vs, n, rfl, hv⟩
    walk_at "SS"
    have hs : s.heap.get? D = none := (N4 _ (.head _)).2.2
    rw [List.take_of_length_le (by simp)] at hv
    exact h D vs n h' tk (by walk_at "T") F4.keep hs (N4 _ (.head _)).1 hv
/-- a call of a def of the top with cells -/
theorem enterC' {w : World} {mg mb} {A : Around} {s : Shared} {E : Value → Shared → Prop} {Q : Value → Shared → Prop} {f : Addr} {oc : Value} {od : Option Addr} {osl : Array (Option Value)}
    {name qual : Str} {params : Arguments} {body : List Stmt} {scope : Scope} {dV kV doc pm cdv ct : Value} {an : Option Addr} {pos : List Value} {kw : List (Str × Value)} (binds : List (Str × Value))
    (G : Gd w mg mb s.heap)
    (ho : (hd.heap_39 w.params).lookup f = some ⟨oc, od, .func (fnOf name qual params body scope dV kV doc pm an cdv ct), osl⟩)
    (hcd : codeIn (hd.heap_39 w.params) cdv qual = true) (hroom : A.depth < recursionLimit)
    (hbind : BindsTo s (fnOf name qual params body scope dV kV doc pm an cdv ct) ⟨pos, kw⟩ binds)
    (hkind : (binds.all fun y => scope.names.lookup y.1 == some .local || scope.names.lookup y.1 == some .cell) = true)
    (hnd : ((cellsFrom 0 scope.names []).map (·.1)).Nodup)
    (h : ∀ h₁ L tk cells, L = s.heap.objs.size → s.toks ≤ tk → Gd w mg mb h₁ → Fm s.heap L h₁ (bindL (envOfC qual scope L f cdv).kindOf binds fun _ => none) → News s.heap L h₁ cells →
      CellsAre (bindC (envOfC qual scope L f cdv).kindOf binds fun _ => none) (cellsFrom (L + 1) scope.names []) cells →
      wpAny (model PG w) (A.deeper (envOfC qual scope L f cdv)) (execs body (envOfC qual scope L f cdv))
        (fun fl s' => Q (match fl with | .ret v => v | _ => .none) s') (fun _ _ => False) { s with heap := h₁, toks := tk })
    (hco : scope.isCoroutine = false := by rfl) (hgen : scope.isGenerator = false := by rfl) (hk : scope.kind = .function := by rfl) :
    wpAny (model PG w) A (call (.ref f) pos kw) Q E s := by
  refine wpAny_call ?_
  refine codeAny_call_function hroom (G.K _ _ ho) rfl hco hgen rfl (codeRec_of G.K hcd) (hbind _ _ _ _ ?_)
  refine wpAny_with_toks (n := s.toks) (Nat.le_refl _) ?_
  refine wpAny_newFunctionEnv_cells hk (kindsX hkind _) fun env' he s' x => ?_
  subst he
  intro htk
  refine ⟨G.nolimit.keeps x.toInCall.keep, codeAny_func ?_⟩
  obtain ⟨h₁, tk, rfl, _⟩ := x.done
  have hk₁ : Ext s.heap h₁ := x.toInCall.keep
  obtain ⟨cells, NC, Y⟩ := Cl.news (h₀ := s.heap) (Nat.le_refl _) fun n c hm => ⟨x.cell n c (lookup_of_mem_nodup (cellsFrom_names scope.names 0 (s.heap.objs.size + 1) [] [] rfl ▸ hnd) hm), x.above n c hm⟩
  have F : Fr s.heap s.heap.objs.size h₁ _ := ⟨x.toInCall.ns, hk₁, Nat.le_refl _⟩
  exact wpAny_mono (h h₁ s.heap.objs.size tk cells rfl htk (G.ext hk₁) (Fm.of F) NC Y) (fun _ _ x => x) fun _ _ x => x.elim
/-- a call of a def of the top with cells -/
theorem enterC {w : World} {mg mb} {A : Around} {s : Shared} {E : Value → Shared → Prop} {Q : Value → Shared → Prop} {f : Addr} {oc : Value} {od : Option Addr} {osl : Array (Option Value)}
    {name qual : Str} {params : Arguments} {body : List Stmt} {scope : Scope} {dV kV doc pm cdv ct : Value} {an : Option Addr} {pos : List Value} {kw : List (Str × Value)} (binds : List (Str × Value))
    (G : Gd w mg mb s.heap)
    (ho : (hd.heap_39 w.params).lookup f = some ⟨oc, od, .func (fnOf name qual params body scope dV kV doc pm an cdv ct), osl⟩)
    (hcd : codeIn (hd.heap_39 w.params) cdv qual = true) (hroom : A.depth < recursionLimit)
    (hbind : BindsTo s (fnOf name qual params body scope dV kV doc pm an cdv ct) ⟨pos, kw⟩ binds)
    (hkind : (binds.all fun y => scope.names.lookup y.1 == some .local || scope.names.lookup y.1 == some .cell) = true)
    (hnd : ((cellsFrom 0 scope.names []).map (·.1)).Nodup)
    (h : ∀ h₁ L tk cells, s.toks ≤ tk → Gd w mg mb h₁ → Fm s.heap L h₁ (bindL (envOfC qual scope L f cdv).kindOf binds fun _ => none) → News s.heap L h₁ cells →
      CellsAre (bindC (envOfC qual scope L f cdv).kindOf binds fun _ => none) (cellsFrom (L + 1) scope.names []) cells →
      wpAny (model PG w) (A.deeper (envOfC qual scope L f cdv)) (execs body (envOfC qual scope L f cdv))
        (fun fl s' => Q (match fl with | .ret v => v | _ => .none) s') (fun _ _ => False) { s with heap := h₁, toks := tk })
    (hco : scope.isCoroutine = false := by rfl) (hgen : scope.isGenerator = false := by rfl) (hk : scope.kind = .function := by rfl) :
    wpAny (model PG w) A (call (.ref f) pos kw) Q E s := enterC' binds G ho hcd hroom hbind hkind hnd (fun h₁ L tk cells _ => h h₁ L tk cells) hco hgen hk

section
variable {w : World} {A : Around} {s : Shared} {E : Value → Shared → Prop} {B : Heap} {m : Str → Option Value} {l : List (Addr × Obj)} {env : Env}

/-- a name held in a cell, read -/
theorem ldCell {x : Str} {pos : Pos} {c : Addr} {v : Value} {Q : Value → Shared → Prop} (hc : env.cells.lookup x = some c) (hv : s.heap.IsCell c (some v)) (h : Q v s)
    (hk : env.scope.kind = .function := by rfl) (hl : env.kindOf x = some .cell := by rfl) (hd : (x == ("__debug__" : Str)) = false := by decide) :
    wpAny (model PG w) A (eval (.Name x pos) env) Q E s := wpAny_Name (wpAny_loadName_cell hk hl hc hv h) hd
/-- a name held in a cell, stored -/
theorem stCell {x : Str} {c : Addr} {o : Obj} {v₀ : Option Value} {v : Value} {own rest : List (Addr × Obj)} {Q : Unit → Shared → Prop} (F : Fm B env.locals s.heap m) (N : News B env.locals s.heap (own ++ (c, o) :: rest))
    (hc : env.cells.lookup x = some c) (ho : o.data = .cell v₀) (h1 : ∀ p ∈ own, p.1 ≠ c) (h2 : ∀ p ∈ rest, p.1 ≠ c)
    (h : ∀ h' o', o'.data = .cell (some v) → Fm B env.locals h' m → News B env.locals h' (own ++ (c, o') :: rest) → Q () { s with heap := h' })
    (hk : env.scope.kind = .function := by rfl) (hl : env.kindOf x = some .cell := by rfl) :
    wpAny (model PG w) A (storeName env x v) Q E s := by
  have hm := N _ (List.mem_append_right own (.head _))
  refine wpAny_storeName_cell hk hl hc ⟨o, hm.1, ho⟩ fun h' hv hs => ?_
  obtain ⟨o', ho', hd'⟩ := hv
  exact h h' o' hd' (F.but hs.extBut hm.2.2 (Ne.symm hm.2.1)) (N.setAt h1 h2 hs ho')

/-- for .. in a list of the ground -/
theorem for_listT {target : Expr} {body : List Stmt} {D : Addr} {vs : List Value} {nD : Nat} {Q : Flow → Shared → Prop} (hh : A.handled = none) (J : Nat → Tok → (Str → Option Value) → List (Addr × Obj) → Prop) (mono : ∀ i k k' m l, k ≤ k' → J i k m l → J i k' m l)
    (hD : B.get? D = some (listOf vs.toArray nD)) (F : Fm B env.locals s.heap m) (N : News B env.locals s.heap l) (h0 : J 0 s.toks m l)
    (hgo : ∀ i v (s₁ : Shared) (q : Unit → Shared → Prop) (E' : Value → Shared → Prop), vs[i]? = some v → s₁.heap.IsListIter s.heap.objs.size D (i + 1) → q () s₁ → wpAny (model PG w) A (letOwnedTupleGo target (.ref s.heap.objs.size) v) q E' s₁)
    (step : ∀ i v m₁ l₁ B' h tk, vs[i]? = some v → s.toks ≤ tk → Ext B B' → Ext B' h → Fm B' env.locals h m₁ → News B' env.locals h l₁ → l₁.map (·.1) = l.map (·.1) → J i tk m₁ l₁ →
      wpAny (model PG w) A (assign target env v) (fun _ s₂ => wpAny (model PG w) A (execs body env) (fun f s₃ => match f with
        | .next | .cont => TurnedT B' env.locals l (J (i + 1)) { s with heap := h, toks := tk } s₃
        | .brk => False
        | .ret _ => False) (fun _ _ => False) s₂) (fun _ _ => False) { s with heap := h, toks := tk })
    (done : ∀ m₁ l₁ h tk, s.toks ≤ tk → Fm B env.locals h m₁ → News B env.locals h l₁ → l₁.map (·.1) = l.map (·.1) → J vs.length tk m₁ l₁ → Q .next { s with heap := h, toks := tk }) :
    wpAny (model PG w) A (pyIter (.ref D)) (fun it s₂ => codeAny (model PG w) A (.forLoop target it body [] env) (fun r s' => match r with | .ok f => Q f s' | .error e => cameBackBy (model PG w) A env E e s') s₂) E s := by
  have hDh := F.keep _ _ hD
  have hls : s.heap.IsList D vs.toArray := ⟨_, hDh, rfl, nD, rfl⟩
  have hne : D ≠ s.heap.objs.size := Nat.ne_of_lt (Heap.lt_size hDh)
  have hDL : env.locals ≠ D := fun e => by have := F.off; rw [e, hD] at this; cases this
  have hDl : ∀ p ∈ l, p.1 ≠ D := fun p hp e => by have := (N p hp).2.2; rw [e, hD] at this; cases this
  refine wpAny_pyIter_list hls ?_
  have W := Walks.list (prog := PG) (w := w) hh s.heap.objs.size D hne vs.toArray
  rw [List.size_toArray] at W
  have F' := F.push { cls := .type "list_iterator", data := .fields #[.ref D, .int 0 0] }
  have N' := newsExt N (ext_push s.heap { cls := .type "list_iterator", data := .fields #[.ref D, .int 0 0] })
  have hst : Heap.IsListIter (s.heap.push { cls := .type "list_iterator", data := .fields #[.ref D, .int 0 0] }) s.heap.objs.size D 0 ∧ Heap.IsList (s.heap.push { cls := .type "list_iterator", data := .fields #[.ref D, .int 0 0] }) D vs.toArray :=
    ⟨⟨_, Heap.get?_push_size _ rfl, rfl, rfl⟩, hls.at fun o e => Heap.get?_push_of_some _ e⟩
  let P' : Nat → Value → Prop := fun i v => vs.toArray[i]? = some v
  refine for_genT (s := { s with heap := s.heap.push { cls := .type "list_iterator", data := .fields #[.ref D, .int 0 0] } }) W J mono ?_ ?_ ?_ hst F' N' h0 ?_ ?_ done
  · intro hm
    rcases List.mem_cons.mp hm with e | hm
    · exact F.ne_size e.symm
    · exact hDL (List.mem_singleton.mp hm)
  · intro p hp hm
    rcases List.mem_cons.mp hm with e | hm
    · exact absurd (Heap.lt_size (N p hp).1) (e ▸ Nat.lt_irrefl _)
    · exact hDl p hp (List.mem_singleton.mp hm)
  · exact fun b hb => (List.mem_singleton.mp hb) ▸ fresh_size F.keep
  · intro i v s₁ q E' hP hs hq
    exact hgo i v s₁ q E' (by simpa using hP) hs.1 hq
  · rintro i v m₁ l₁ B' h tk hi hv ht e1 e2 F1 N1 hl hJ
    exact step i v m₁ l₁ B' h tk (by simpa using hv) ht e1 e2 F1 N1 hl hJ
/-- for .. in a list of the ground -/
theorem for_list {target : Expr} {body : List Stmt} {D : Addr} {vs : List Value} {nD : Nat} {Q : Flow → Shared → Prop} (hh : A.handled = none) (J : Nat → (Str → Option Value) → List (Addr × Obj) → Prop)
    (hD : B.get? D = some (listOf vs.toArray nD)) (F : Fm B env.locals s.heap m) (N : News B env.locals s.heap l) (h0 : J 0 m l)
    (hgo : ∀ i v (s₁ : Shared) (q : Unit → Shared → Prop) (E' : Value → Shared → Prop), vs[i]? = some v → s₁.heap.IsListIter s.heap.objs.size D (i + 1) → q () s₁ → wpAny (model PG w) A (letOwnedTupleGo target (.ref s.heap.objs.size) v) q E' s₁)
    (step : ∀ i v m₁ l₁ B' h tk, vs[i]? = some v → s.toks ≤ tk → Ext B B' → Ext B' h → Fm B' env.locals h m₁ → News B' env.locals h l₁ → l₁.map (·.1) = l.map (·.1) → J i m₁ l₁ →
      wpAny (model PG w) A (assign target env v) (fun _ s₂ => wpAny (model PG w) A (execs body env) (fun f s₃ => match f with
        | .next | .cont => Turned B' env.locals l (J (i + 1)) { s with heap := h, toks := tk } s₃
        | .brk => False
        | .ret _ => False) (fun _ _ => False) s₂) (fun _ _ => False) { s with heap := h, toks := tk })
    (done : ∀ m₁ l₁ h tk, s.toks ≤ tk → Fm B env.locals h m₁ → News B env.locals h l₁ → l₁.map (·.1) = l.map (·.1) → J vs.length m₁ l₁ → Q .next { s with heap := h, toks := tk }) :
    wpAny (model PG w) A (pyIter (.ref D)) (fun it s₂ => codeAny (model PG w) A (.forLoop target it body [] env) (fun r s' => match r with | .ok f => Q f s' | .error e => cameBackBy (model PG w) A env E e s') s₂) E s := for_listT hh (fun i _ m l => J i m l) (fun _ _ _ _ _ _ x => x) hD F N h0 hgo step done
end
section
variable {w : World} {A : Around} {s : Shared} {E : Value → Shared → Prop} {B : Heap} {m : Str → Option Value} {l : List (Addr × Obj)} {env : Env}

/-- [elt for v in a text] -/
theorem comp_str {elt iter : Expr} {v : Str} {pv : Pos} {scope : Scope} (cl : List (Str × Addr)) {pos : Pos} {x : Str} {t : Tok} {Q : Value → Shared → Prop} (J : Nat → List Value → List (Addr × Obj) → Prop)
    (hclos : closureFor scope env = pure cl) (hcell : ∀ y ∈ scope.names, y.2 ≠ .cell) (hkind : scope.kind = .function) (hnames : ∀ y ∈ scope.names, y.2 = .local → scope.names.lookup y.1 = some .local)
    (hh : A.handled = none) (hx : x.cps.size ≤ 100000) (F : Fm B env.locals s.heap m) (N : News B env.locals s.heap l) (h0 : J 0 [] l)
    (hiter : ∀ Q' : Value → Shared → Prop, Q' (.str x t) s → wpAny (model PG w) A (eval iter env) Q' E s)
    (step : ∀ i c u ys l₁ B' C mC h tk, x.cps[i]? = some c → s.toks ≤ tk → Ext B B' → Ext B' h → B'.Ns env.locals m → Fm B' C h mC → News B' C h l₁ → l₁.map (·.1) = l.map (·.1) → J i ys l₁ →
      wpAny (model PG w) A (storeName (compEnvC scope cl C env) v (.str ⟨#[c]⟩ u)) (fun _ s₂ => wpAny (model PG w) A (eval elt (compEnvC scope cl C env)) (fun y s₃ =>
        Turned B' C l (fun _ l' => J (i + 1) (ys ++ [y]) l') { s with heap := h, toks := tk } s₃) (fun _ _ => False) s₂) (fun _ _ => False) { s with heap := h, toks := tk })
    (done : ∀ ys l₁ D nD h tk, s.toks ≤ tk → ys.length = x.cps.size → Fm B env.locals h m → News B env.locals h ((D, listOf (List.toArray ys) nD) :: l₁) → (∀ p ∈ l₁, p.1 ≠ D) → l₁.map (·.1) = l.map (·.1) → J x.cps.size ys l₁ →
      Q (.ref D) { s with heap := h, toks := tk })
    (hs : ∀ x, foldedSetIterable iter env x = pure x := by intro _; rfl) :
    wpAny (model PG w) A (eval (.ListComp elt [⟨.Name v pv, iter, [], 0⟩] scope pos) env) Q E s := by
  rw [eval_ListComp]
  refine wpAny_comprehension_free (use := none) rfl hs hclos hkind hnames (hiter _ ?_)
  refine wpAny_pyIter_str ?_
  intro o St W hst
  refine comp_gen (s := { s with heap := s.heap.push o }) (W A hh) J hcell hkind (by rw [sizeLine_eq]; omega) ?_ ?_ ?_ ?_ hst (F.push o) (newsExt N (ext_push _ o)) h0 ?_ ?_ ?_
  · exact fun hm => F.ne_size (List.mem_singleton.mp hm).symm
  · exact fun p hp hm => absurd (Heap.lt_size (N p hp).1) ((List.mem_singleton.mp hm) ▸ Nat.lt_irrefl _)
  · exact fun b hb => (List.mem_singleton.mp hb) ▸ fresh_size F.keep
  · intro b hb
    rw [List.mem_singleton.mp hb]
    show s.heap.objs.size < (s.heap.push o).objs.size
    rw [Heap.size_push]
    exact Nat.lt_succ_self _
  · intro i v s₁ q E' _ _ hq
    exact wpAny_of_eq rfl hq
  · rintro i _ ys l₁ B' C mC h tk hi ⟨c, u, hc, rfl⟩ ht e1 e2 eL F1 N1 hl hJ
    exact wpAny_assign_Name (step i c u ys l₁ B' C mC h tk hc ht e1 e2 eL F1 N1 hl hJ)
  · intro ys l₁ D nD h tk ht hlen F1 N1 hD hl hJ _
    exact done ys l₁ D nD h tk ht hlen F1 N1 hD hl hJ

/-- ''.join(a list of texts) -/
theorem join_ {D : Addr} {ys : List Value} {xs : List Str} {n : Nat} {x : Str} {t : Tok} {Q : Value → Shared → Prop} (hl : s.heap.get? D = some (listOf ys.toArray n)) (hi : StrsAre ys xs) (hx : x.length = 0) (hok : (xs.map (·.length)).sum ≤ 1000000)
    (h : ∀ t' k, s.toks ≤ k → Q (.str (Txt.join x xs) t') { s with toks := k }) : wpAny (model PG w) A (call (.builtin "str.join") [.str x t, .ref D]) Q E s :=
  wpAny_with_toks (n := s.toks) (Nat.le_refl _) (PyProof.Rows.join_list (items := ys.toArray) ⟨_, hl, rfl, n, rfl⟩ (by simpa using hi) (by rw [hx]; omega) fun t' k hk => h t' k hk)

theorem add_ {x y : Str} {t u : Tok} {Q : Value → Shared → Prop} (hz : x.length + y.length ≤ 1000000) (h : ∀ t' k, s.toks ≤ k → Q (.str (x ++ y) t') { s with toks := k }) :
    wpAny (model PG w) A (binaryOp .Add (.str x t) (.str y u)) Q E s :=
  wpAny_with_toks (n := s.toks) (Nat.le_refl _) (PyProof.Rows.add_str (fun t' k hk => h t' k hk) (by rw [sizeLine_eq]; omega))

/-- a, b = a pair -/
theorem assign_pair {x y : Str} {px py pos : Pos} {k : Nat} {T : Addr} {a b : Value} {Q : Unit → Shared → Prop} (hh : A.handled = none) (ht : s.heap.IsTuple T #[a, b])
    (h : ∀ h', Ext s.heap h' → wpAny (model PG w) A (storeName env x a) (fun _ s₂ => wpAny (model PG w) A (storeName env y b) Q E s₂) E { s with heap := h' }) :
    wpAny (model PG w) A (assign (.Tuple [.Name x px, .Name y py] k pos) env (.ref T)) Q E s := by
  refine wpAny_assign_Tuple hh ht rfl rfl ?_
  intro h' hx
  show wpAny _ _ (do holding [b] (assign (.Name x px) env a); do holding [] (assign (.Name y py) env b); pure ()) _ _ _
  refine wpAny_bind ?_
  refine wpAny_holding ?_
  refine wpAny_assign_Name ?_
  refine wpAny_mono (h h' fun c o e => hx c o (Nat.ne_of_lt (Heap.lt_size e)) e) (fun _ s₂ h₂ => ?_) fun _ _ z => z
  refine wpAny_bind ?_
  refine wpAny_holding ?_
  refine wpAny_assign_Name ?_
  exact wpAny_mono h₂ (fun _ s₃ h₃ => wpAny_pure h₃) fun _ _ z => z
end

/-- if sign == k: piece = r -/
theorem if_set {w : World} {A : Around} {s : Shared} {E : Value → Shared → Prop} {B : Heap} {m : Str → Option Value} {l : List (Addr × Obj)} {env : Env} {c k : Nat} {K r p : Str} {u t : Tok} {p1 p2 p3 p4 p5 p6 p7 : Pos} {a1 a2 : Nat} {Q : Flow → Shared → Prop}
    (hK : K = ⟨#[k]⟩) (F : Fm B env.locals s.heap m) (N : News B env.locals s.heap l) (hs : m (Str.ofString "sign") = some (.str ⟨#[c]⟩ u)) (hp : m (Str.ofString "piece") = some (.str p t))
    (h : ∀ h' tk' t' m', s.toks ≤ tk' → Fm B env.locals h' m' → News B env.locals h' l → m' (Str.ofString "piece") = some (.str (if c = k then r else p) t') → (∀ y, y ≠ Str.ofString "piece" → m' y = m y) → Q .next { s with heap := h', toks := tk' })
    (hsw : ∀ x, swapsWith (.Constant (.str r) a2 p6) (some (.Name (Str.ofString "piece") p5)) p7.line env = pure x → x = false := by intro _ h; cases h; rfl)
    (hk : env.scope.kind = .function := by rfl) (hl1 : env.kindOf (Str.ofString "sign") = some .local := by rfl) (hl2 : env.kindOf (Str.ofString "piece") = some .local := by rfl)
    (hpp : (env.scope.kind == .class || (env.scope.kind == .module && env.locals != env.globals)) = false := by rfl) :
    wpAny (model PG w) A (exec (.If (.Compare (.Name (Str.ofString "sign") p1) [.Eq] [.Constant (.str K) a1 p2] p3) [.Assign [.Name (Str.ofString "piece") p5] (.Constant (.str r) a2 p6) p7] [] p4) env) Q E s := by
  subst hK
  refine wpAny_If ?_
  refine wpAny_isTrue_Compare1 ?_
  refine ldL F hs ?_ hk hl1
  refine Calls.Constant_str ?_
  refine PyProof.Rows.eq_str ?_
  refine wpAny_truthy_bool ?_
  have e : ((⟨#[c]⟩ : Str) == ⟨#[k]⟩) = decide (c = k) := by
    by_cases q : c = k
    · subst q; simp
    · rw [decide_eq_false q]
      exact beq_eq_false_iff_ne.mpr fun z => q (by injection z with z; simpa using z)
  rw [e]
  by_cases q : c = k
  · rw [decide_eq_true q, if_pos rfl]
    refine wpAny_execs_cons ?_
    refine wpAny_Assign_Name ?_
    refine Calls.Constant_str ?_
    refine stL F N ?_ hl2 hpp
    intro h' F' N'
    refine wpAny_execs_nil ?_
    refine h h' _ (s.toks + 1) _ ?_ F' N' ?_ ?_
    · walk_at "T"
    · rw [if_pos q]; exact if_pos rfl
    · exact fun y hy => if_neg hy
  · rw [decide_eq_false q, if_neg Bool.false_ne_true]
    refine wpAny_execs_nil ?_
    refine h s.heap _ t m ?_ F N ?_ fun _ _ => rfl
    · walk_at "T"
    · rw [if_neg q]; exact hp
def lst (x : Str) : List Nat := x.cps.toList
def tx (l : List Nat) : Str := ⟨l.toArray⟩
theorem lst_tx (l : List Nat) : lst (tx l) = l := by simp [lst, tx]
theorem tx_lst (x : Str) : tx (lst x) = x := by obtain ⟨⟨l⟩⟩ := x; rfl
theorem tx_len (l : List Nat) : (tx l).length = l.length := by simp [tx, Str.length]
theorem lst_len (x : Str) : (lst x).length = x.length := by simp [lst, Str.length]
theorem tx_app (a b : List Nat) : tx a ++ tx b = tx (a ++ b) := by
  show Str.append _ _ = _
  simp [Str.append, tx]
theorem tx_inj {a b : List Nat} (h : tx a = tx b) : a = b := by rw [← lst_tx a, h, lst_tx]
theorem tx_beq (a b : List Nat) : (tx a == tx b) = decide (a = b) := by
  by_cases h : a = b
  · subst h; simp
  · rw [decide_eq_false h]
    exact beq_eq_false_iff_ne.mpr fun z => h (tx_inj z)
theorem join_tx (f : Nat → List Nat) : ∀ p : List Nat, Txt.join (tx []) (p.map fun c => tx (f c)) = tx (p.flatMap f) := by
  intro p
  show Builtin.Str.glued (tx []) _ = _
  rw [StrLaws.glued_eq_join]
  induction p with
  | nil => rfl
  | cons c r ih =>
    rw [List.map_cons, List.flatMap_cons]
    show Str.join ⟨#[]⟩ _ = _
    rw [PyProof.Rows.join_nil_cons]
    show tx (f c) ++ Str.join (tx []) _ = _
    rw [ih, tx_app]

def subL (k v p : List Nat) : List Nat := p.flatMap fun c => if [c] = k then v else [c]
def subs (ps : List (List Nat × List Nat)) (p : List Nat) : List Nat := ps.foldl (fun p kv => subL kv.1 kv.2 p) p
def ref1 (c : Nat) : List Nat := if c = 62 then [38, 103, 116, 59] else if c = 60 then [38, 108, 116, 59] else if c = 38 then [38, 97, 109, 112, 59] else [c]
def writtenL (ps : List (List Nat × List Nat)) (x : List Nat) : List Nat := x.flatMap fun c => subs ps (ref1 c)
def psL (ps : List (Str × Str)) : List (List Nat × List Nat) := ps.map fun p => (lst p.1, lst p.2)

/-- a list of pairs of texts -/
def EntL (h : Heap) (D : Addr) (ps : List (Str × Str)) : Prop :=
  ∃ (Ts : List Addr) (n : Nat), h.get? D = some (listOf (Ts.map Value.ref).toArray n) ∧ Ts.length = ps.length ∧ ∀ (i : Nat) (T : Addr) (p : Str × Str), Ts[i]? = some T → ps[i]? = some p → ∃ t u, h.IsTuple T #[.str p.1 t, .str p.2 u]
theorem EntL.ext {h h' : Heap} {D : Addr} {ps : List (Str × Str)} (x : EntL h D ps) (e : Ext h h') : EntL h' D ps := by
  obtain ⟨Ts, n, a, b, c⟩ := x
  refine ⟨Ts, n, e _ _ a, b, fun i T p h1 h2 => ?_⟩
  obtain ⟨t, u, o, ho, r⟩ := c i T p h1 h2
  exact ⟨t, u, o, e _ _ ho, r⟩

theorem strsAre_snoc {vs : List Value} {xs : List Str} (h : StrsAre vs xs) (y : Str) (t : Tok) : StrsAre (vs ++ [.str y t]) (xs ++ [y]) := by
  induction h with
  | nil => exact .cons _ _ .nil
  | cons y' t' _ ih => exact .cons _ _ ih

section
variable {w : World} {A : Around} {s : Shared} {E : Value → Shared → Prop} {env : Env}
/-- a free name, read -/
theorem ldFree {x : Str} {pos : Pos} {c : Addr} {v : Value} {Q : Value → Shared → Prop} (hc : env.cells.lookup x = some c) (hv : s.heap.IsCell c (some v)) (h : Q v s)
    (hk : env.scope.kind = .function := by rfl) (hl : env.kindOf x = some .free := by rfl) (hd : (x == ("__debug__" : Str)) = false := by decide) (hn : (x == ("__classdict__" : Str)) = false := by decide) :
    wpAny (model PG w) A (eval (.Name x pos) env) Q E s := wpAny_Name (wpAny_loadName_free hk hl hc hv h hn) hd
end
theorem subs_next (ps : List (Str × Str)) {j : Nat} {k v : Str} (h : ps[j]? = some (k, v)) (x : List Nat) : subs ((psL ps).take (j + 1)) x = subL (lst k) (lst v) (subs ((psL ps).take j) x) := by
  have e : (psL ps)[j]? = some (lst k, lst v) := by rw [psL, List.getElem?_map, h]; rfl
  rw [List.take_add_one, e]
  show subs (_ ++ [_]) _ = _
  unfold subs
  rw [List.foldl_append]
  rfl
theorem written_next {ps : List (List Nat × List Nat)} {x : Str} {i c : Nat} (h : x.cps[i]? = some c) : writtenL ps ((lst x).take (i + 1)) = writtenL ps ((lst x).take i) ++ subs ps (ref1 c) := by
  have e : (lst x)[i]? = some c := by rw [lst, Array.getElem?_toList]; exact h
  rw [List.take_add_one, e]
  simp [writtenL]
theorem writtenL_len {ps : List (List Nat × List Nat)} {n : Nat} : ∀ {x : List Nat}, (∀ c ∈ x, (subs ps (ref1 c)).length ≤ n) → (writtenL ps x).length ≤ n * x.length
  | [], _ => Nat.zero_le _
  | c :: r, h => by
    have a := h c (.head _)
    have b := writtenL_len (ps := ps) (n := n) (x := r) fun d hd => h d (.tail _ hd)
    show ((c :: r).flatMap _).length ≤ _
    rw [List.flatMap_cons, List.length_append, List.length_cons, Nat.mul_succ]
    have b' : (r.flatMap fun c => subs ps (ref1 c)).length ≤ n * r.length := b
    omega
theorem subL_nil (k v : List Nat) : subL k v [] = [] := rfl
theorem sums_tx (f : Nat → List Nat) (p : List Nat) : ((p.map fun c => tx (f c)).map (·.length)).sum = (p.flatMap f).length := by
  induction p with
  | nil => rfl
  | cons c r ih =>
    rw [List.map_cons, List.map_cons, List.sum_cons, ih, List.flatMap_cons, List.length_append, tx_len]

set_option maxHeartbeats 1000000 in
theorem c_written {w : World} {mg mb} {A : Around} {s : Shared} {E : Value → Shared → Prop} {Q : Value → Shared → Prop} {x : Str} {t : Tok} {D : Addr} {ps : List (Str × Str)}
    (G : Gd w mg mb s.heap) (hh : A.handled = none) (hroom : A.depth < recursionLimit) (hE : EntL s.heap D ps) (hx : x.length ≤ 1000)
    (hb : ∀ c ∈ lst x, ∀ j, (subs ((psL ps).take j) (ref1 c)).length ≤ 900)
    (h : ∀ t' h' tk', s.toks ≤ tk' → Ext s.heap h' → Q (.str (tx (writtenL (psL ps) (lst x))) t') { s with heap := h', toks := tk' }) :
    wpAny (model PG w) A (call (.ref 114) [.str x t, .ref D] []) Q E s := by
  refine enterC [(Str.ofString "text", .str x t), (Str.ofString "entries", .ref D)] G (by rfl) (by rfl) (by omega) (by exact BindsTo.of_eq rfl) (by rfl) (by decide) ?_
  intro h₁ L tk₀ cells htk₀ G₁ F N Y
  obtain ⟨oV, oK, rfl, hV, hK⟩ := CellsAre.two Y
  clear Y
  have F1 : Fm s.heap L h₁ (fun y => if y = Str.ofString "entries" then some (.ref D) else if y = Str.ofString "text" then some (.str x t) else none) := F
  clear F
  walk_at "SS"
  rename Fm _ _ _ _ => F2
  rename News _ _ _ _ => N2
  refine wpAny_For ?_ (by intro _; rfl)
  walk_at "SS"
  refine for_str hh (fun i m l => m (Str.ofString "entries") = some (.ref D) ∧ (∃ t, m (Str.ofString "due") = some (.str (tx (writtenL (psL ps) ((lst x).take i))) t)) ∧ ∃ oV oK a b, l = [(L + 1 + 1, oV), (L + 1, oK)] ∧ oV.data = .cell a ∧ oK.data = .cell b) F2 N2 ⟨rfl, ⟨_, rfl⟩, oV, oK, none, none, rfl, hV, hK⟩ ?_ ?_
  · rintro i c u m₁ l₁ B' h' tk hc ht e1 e2 F4 N4 hl4 ⟨hm, ⟨td, hd⟩, oV', oK', a, b, rfl, hV', hK'⟩
    refine wpAny_post2 fun Qa hQa => ?_
    clear F2 N2 F1 N hV hK hl4
    have G' := G.ext e1
    have hil : i < x.length := (Array.getElem?_eq_some_iff.mp hc).1
    refine stL F4 N4 ?_
    intro h5 F5 N5
    refine wpAny_execs_cons ?_
    refine wpAny_Assign_Name ?_
    refine ldL F5 rfl ?_
    refine stL F5 N5 ?_
    intro h6 F6 N6
    refine wpAny_execs_cons ?_
    refine if_set rfl F6 N6 rfl rfl ?_
    intro h7 k7 t7 m7 ht7 F7 N7 hp7 hm7
    refine wpAny_execs_cons ?_
    refine if_set rfl F7 N7 (hm7 _ (by decide)) hp7 ?_
    intro h8 k8 t8 m8 ht8 F8 N8 hp8 hm8
    refine wpAny_execs_cons ?_
    refine if_set rfl F8 N8 ((hm8 _ (by decide)).trans (hm7 _ (by decide))) hp8 ?_
    intro h9 k9 t9 m9 ht9 F9 N9 hp9 hm9
    refine wpAny_execs_cons ?_
    obtain ⟨Ts, nD, hD, hTl, hT⟩ := hE.ext e1
    have hu : tx (ref1 c) = (if c = 62 then "&gt;" else if c = 60 then "&lt;" else if c = 38 then "&amp;" else ⟨#[c]⟩ : Str) := by
      unfold ref1
      by_cases q1 : c = 62
      · rw [if_pos q1, if_pos q1]; rfl
      rw [if_neg q1, if_neg q1]
      by_cases q2 : c = 60
      · rw [if_pos q2, if_pos q2]; rfl
      rw [if_neg q2, if_neg q2]
      by_cases q3 : c = 38
      · rw [if_pos q3, if_pos q3]; rfl
      rw [if_neg q3, if_neg q3]; rfl
    have hp : m9 (Str.ofString "piece") = some (.str (tx (ref1 c)) t9) := by rw [hu]; exact hp9
    have hdue : m9 (Str.ofString "due") = some (.str (tx (writtenL (psL ps) ((lst x).take i))) td) := by
      rw [hm9 _ (by decide), hm8 _ (by decide), hm7 _ (by decide)]
      exact hd
    have hen : m9 (Str.ofString "entries") = some (.ref D) := by
      rw [hm9 _ (by decide), hm8 _ (by decide), hm7 _ (by decide)]
      exact hm
    clear hp9 hp7 hp8 F4 N4 F5 N5 F6 N6 F7 N7 F8 N8 hd hm
    refine wpAny_For ?_ (by intro _; rfl)
    refine ldL F9 hen ?_
    refine for_list (vs := Ts.map Value.ref) hh (fun j m' l' => (∃ t, m' (Str.ofString "piece") = some (.str (tx (subs ((psL ps).take j) (ref1 c))) t)) ∧ (∀ y, y ≠ Str.ofString "piece" → m' y = m9 y) ∧ ∃ oV oK a b, l' = [(L + 1 + 1, oV), (L + 1, oK)] ∧ oV.data = .cell a ∧ oK.data = .cell b) hD F9 N9 ⟨⟨_, hp⟩, fun _ _ => rfl, oV', oK', a, b, rfl, hV', hK'⟩ ?_ ?_ ?_
    · intro j v s₁ q E' hv hi hq
      rw [List.getElem?_map] at hv
      obtain ⟨T, hT1, rfl⟩ := Option.map_eq_some_iff.mp hv
      exact wpAny_letOwnedTupleGo_listiter hi hq
    · rintro j v m₁ l₁ B'' h' tk hv ht' e3 e4 F10 N10 hl10 ⟨⟨tp, hpp⟩, hmm, oV2, oK2, a2, b2, rfl, hV2, hK2⟩
      refine wpAny_post2 fun Qb hQb => ?_
      rw [List.getElem?_map] at hv
      obtain ⟨T, hT1, rfl⟩ := Option.map_eq_some_iff.mp hv
      have hj : j < ps.length := hTl ▸ (List.getElem?_eq_some_iff.mp hT1).1
      obtain ⟨key, val, hkv⟩ : ∃ k v, ps[j]? = some (k, v) := ⟨_, _, List.getElem?_eq_getElem hj⟩
      obtain ⟨tk1, tv1, hT2⟩ := hT j T _ hT1 hkv
      refine assign_pair (T := T) (by assumption) (hT2.at fun o e => F10.keep _ _ (e3 _ _ e)) ?_
      intro h11 e11
      have F11 := F10
      have N11 := N10
      have hn1 : ∀ p ∈ ([(L + 1 + 1, oV2)] : List (Addr × Obj)), p.1 ≠ L + 1 := fun p hp => (List.mem_singleton.mp hp) ▸ (Nat.ne_of_gt (Nat.lt_succ_self _))
      refine stCell (own := [(L + 1 + 1, oV2)]) (c := L + 1) (rest := []) (F11.ext e11) (newsExt N11 e11) (by rfl) hK2 hn1 (fun _ hp => nomatch hp) ?_
      intro h12 oK3 hK3 F12 N12
      refine stCell (own := []) (c := L + 1 + 1) (rest := [(L + 1, oK3)]) F12 N12 (by rfl) hV2 (fun _ hp => nomatch hp) (fun p hp => (List.mem_singleton.mp hp) ▸ (Nat.ne_of_lt (Nat.lt_succ_self _))) ?_
      intro h13 oV3 hV3 F13 N13
      clear F10 N10 F11 N11 F12 N12
      refine wpAny_execs_cons ?_
      refine wpAny_Assign_Name ?_
      refine MethodCall_ ?_
      walk_at "SS"
      have hpl : (subs ((psL ps).take j) (ref1 c)).length ≤ 900 := hb c (by rw [lst]; exact Array.mem_toList_iff.mpr (Array.mem_of_getElem? hc)) j
      have hpl2 : (subs ((psL ps).take (j + 1)) (ref1 c)).length ≤ 900 := hb c (by rw [lst]; exact Array.mem_toList_iff.mpr (Array.mem_of_getElem? hc)) (j + 1)
      generalize hpe : subs ((psL ps).take j) (ref1 c) = p at hpl hpp
      have hK4 : ∀ (b : Heap) (C : Addr) (h : Heap), News b C h [(L + 1 + 1, oV3), (L + 1, oK3)] → h.IsCell (L + 1) (some (.str key tk1)) := fun _ _ _ N => ⟨_, (N _ (.tail _ (.head _))).1, hK3⟩
      have hV4 : ∀ (b : Heap) (C : Addr) (h : Heap), News b C h [(L + 1 + 1, oV3), (L + 1, oK3)] → h.IsCell (L + 1 + 1) (some (.str val tv1)) := fun _ _ _ N => ⟨_, (N _ (.head _)).1, hV3⟩
      refine comp_str (x := tx p) (t := tp) [(Str.ofString "value", L + 1 + 1), (Str.ofString "key", L + 1)] (fun k ys l' => l' = [(L + 1 + 1, oV3), (L + 1, oK3)] ∧ StrsAre ys ((p.take k).map fun c => tx (if [c] = lst key then lst val else [c]))) (by rfl) (by decide) (by rfl) (by decide) hh (by rw [tx]; simp only [List.size_toArray]; omega) F13 N13 ⟨rfl, .nil⟩ ?_ ?_ ?_
      · intro Q' hq
        refine ldL F13 ?_ hq
        exact hpp
      · rintro k c' u' ys l'' B3 C mC h' tk'' hc' ht'' e5 e6 eL F14 N14 hl14 ⟨rfl, hys⟩
        refine wpAny_post2 fun Qc hQc => ?_
        walk_at "SS"
        refine wpAny_IfExp ?_
        walk_at "SS"
        rename Fm _ _ _ _ => F15
        rename News _ _ _ _ => N15
        refine ldCell (c := L + 1) (v := .str key tk1) (by rfl) (hK4 _ _ _ N15) ?_
        walk_at "SS"
        have hnx : (p.take (k + 1)).map (fun c => tx (if [c] = lst key then lst val else [c])) = (p.take k).map (fun c => tx (if [c] = lst key then lst val else [c])) ++ [tx (if [c'] = lst key then lst val else [c'])] := by
          rw [List.take_add_one]
          have : p[k]? = some c' := by rw [tx] at hc'; simpa using hc'
          simp [this]
        by_cases q : [c'] = lst key
        · have q2 : ((⟨#[c']⟩ : Str) == key) = true := by
            rw [beq_iff_eq, ← tx_lst key, ← q]; rfl
          rw [q2]
          refine ldCell (c := L + 1 + 1) (v := .str val tv1) (by rfl) (hV4 _ _ _ N15) ?_
          refine hQc _ _ ?_
          refine Turned.mk (by walk_at "T") F15 N15 rfl ⟨rfl, ?_⟩
          rw [hnx, if_pos q, tx_lst]
          exact strsAre_snoc hys _ _
        · have q2 : ((⟨#[c']⟩ : Str) == key) = false := by
            refine beq_eq_false_iff_ne.mpr fun z => q ?_
            rw [← z]; rfl
          rw [q2]
          refine ldL F15 rfl ?_
          refine hQc _ _ ?_
          refine Turned.mk (by walk_at "T") F15 N15 rfl ⟨rfl, ?_⟩
          rw [hnx, if_neg q]
          exact strsAre_snoc hys _ _
      · rintro ys l'' D2 nD2 h' tk'' ht'' hyl F14 N14 hD2 hl14 ⟨rfl, hys⟩
        have hys2 : StrsAre ys (p.map fun c => tx (if [c] = lst key then lst val else [c])) := by
          rw [List.take_of_length_le (by rw [tx]; simp)] at hys
          exact hys
        clear hys
        walk_at "SS"
        have hnext := subs_next ps hkv (ref1 c)
        rw [hpe] at hnext
        refine join_ (x := tx []) (N14 _ (.head _)).1 hys2 (by rfl) (by
          rw [sums_tx fun c => if [c] = lst key then lst val else [c]]
          show (subL (lst key) (lst val) p).length ≤ _
          rw [← hnext]; omega) ?_
        intro t' k' hk'
        rw [join_tx (fun c => if [c] = lst key then lst val else [c])]
        have N15 : News B'' _ _ [(L + 1 + 1, oV3), (L + 1, oK3)] := fun q hq => N14 q (.tail _ hq)
        clear N14
        walk_at "SS"
        rename Fm _ _ _ _ => F16
        rename News _ _ _ _ => N16
        refine hQb _ _ ?_
        refine Turned.mk (by walk_at "T") F16 N16 rfl ⟨⟨t', ?_⟩, ?_, _, _, _, _, rfl, hV3, hK3⟩
        · rw [hnext]; rfl
        · intro y hy
          exact (if_neg hy).trans (hmm y hy)
    · rintro m₁ l₁ h' tk ht' F10 N10 hl10 ⟨⟨tp, hpp⟩, hmm, oV2, oK2, a2, b2, rfl, hV2, hK2⟩
      have hpl : (subs ((psL ps).take ps.length) (ref1 c)).length ≤ 900 := hb c (by rw [lst]; exact Array.mem_toList_iff.mpr (Array.mem_of_getElem? hc)) _
      rw [List.length_map, hTl, List.take_of_length_le (by simp [psL])] at hpp
      rw [List.take_of_length_le (by simp [psL])] at hpl
      have hwl := writtenL_len (ps := psL ps) (n := 900) (x := (lst x).take i) (fun c hc => by
        have := hb c (List.mem_of_mem_take hc) ps.length
        rw [List.take_of_length_le (by simp [psL])] at this
        exact this)
      rw [List.length_take] at hwl
      clear F9 N9
      refine wpAny_execs_cons ?_
      refine wpAny_Assign_Name ?_
      refine wpAny_BinOp ?_
      refine ldL F10 ((hmm _ (by decide)).trans hdue) ?_
      refine ldL F10 hpp ?_
      refine add_ (by rw [tx_len, tx_len]; omega) ?_
      intro t' k' hk'
      walk_at "SS"
      rename Fm _ _ _ _ => F16
      rename News _ _ _ _ => N16
      refine hQa _ _ ?_
      refine Turned.mk (by walk_at "T") F16 N16 rfl ⟨?_, ⟨t', ?_⟩, _, _, _, _, rfl, hV2, hK2⟩
      · exact (hmm _ (by decide)).trans hen
      · rw [tx_app, written_next hc]
        rfl
  · rintro m₁ l₁ h' tk ht' F4 N4 hl4 ⟨hm, ⟨td, hd⟩, oV', oK', a, b, rfl, hV', hK'⟩
    clear F2 N2 F1 N hV hK hl4
    refine wpAny_execs_cons ?_
    refine wpAny_Return_some ?_
    refine ldL F4 hd ?_
    rw [List.take_of_length_le (by rw [lst]; simp)]
    exact h _ _ _ (by walk_at "T") F4.keep
def quot1 (c : Nat) : List Nat := if c = 34 then [38, 113, 117, 111, 116, 59] else [c]
def quotedL (ps : List (List Nat × List Nat)) (x : List Nat) : List Nat :=
  let i := writtenL (ps ++ [([10], [38, 35, 49, 48, 59])]) x
  if 34 ∉ i then 34 :: i ++ [34] else if 39 ∉ i then 39 :: i ++ [39] else 34 :: i.flatMap quot1 ++ [34]

theorem occ_one (i : List Nat) (c : Nat) : (Builtin.Str.occurrences (tx i) ⟨#[c]⟩ 0 (tx i).length 1).isEmpty = !decide (c ∈ i) := by
  have := StrLaws.found_one (tx i) c
  rw [show (tx i).cps.toList = i from lst_tx i] at this
  rw [← this, Bool.not_not]

set_option maxHeartbeats 1000000 in
theorem c_quoted {w : World} {mg mb} {A : Around} {s : Shared} {E : Value → Shared → Prop} {Q : Value → Shared → Prop} {x : Str} {t : Tok} {D : Addr} {ps : List (Str × Str)}
    (G : Gd w mg mb s.heap) (hh : A.handled = none) (hroom : A.depth + 1 < recursionLimit) (hE : EntL s.heap D ps) (hx : x.length ≤ 1000) (hps : ps.length ≤ 100)
    (hil : (writtenL (psL ps ++ [([10], [38, 35, 49, 48, 59])]) (lst x)).length ≤ 10000) (hb : ∀ c ∈ lst x, ∀ j, (subs ((psL ps ++ [([10], [38, 35, 49, 48, 59])]).take j) (ref1 c)).length ≤ 100)
    (h : ∀ t' h' tk', s.toks ≤ tk' → Ext s.heap h' → Q (.str (tx (quotedL (psL ps) (lst x))) t') { s with heap := h', toks := tk' }) :
    wpAny (model PG w) A (call (.ref 119) [.str x t, .ref D] []) Q E s := by
  refine enterM [(Str.ofString "text", .str x t), (Str.ofString "entries", .ref D)] G (by rfl) (by rfl) (by omega) (by exact BindsTo.of_eq rfl) (locs rfl) (Nat.zero_lt_succ _) ?_
  intro h₁ L tk₀ htk₀ G₁ F
  have N1 : News s.heap L h₁ [] := .nil
  walk_at "SS"
  obtain ⟨Ts, n, hD, hTl, hT⟩ := hE.ext F.keep
  have e2 := ext_push h₁ { cls := .type "tuple", data := .seq #[.str (Str.ofString "\n") tk₀, .str (Str.ofString "&#10;") (tk₀ + 1)] }
  have hT2 : Heap.IsTuple (h₁.push { cls := .type "tuple", data := .seq #[.str (Str.ofString "\n") tk₀, .str (Str.ofString "&#10;") (tk₀ + 1)] }) h₁.objs.size #[.str (Str.ofString "\n") tk₀, .str (Str.ofString "&#10;") (tk₀ + 1)] := ⟨_, Heap.get?_push_size _ rfl, rfl, 0, rfl⟩
  refine P.add_list (l := D) (items := (Ts.map Value.ref).toArray) (n := n) (items2 := #[.ref h₁.objs.size]) (n2 := 0) (ext_push _ _ _ _ (e2 _ _ hD)) (Heap.get?_push_size _ rfl) ?_ (by rw [sizeLine_eq]; simp only [List.size_toArray, List.length_map]; show _ + 1 ≤ _; omega)
  have eE : (Ts.map Value.ref).toArray ++ #[.ref h₁.objs.size] = ((Ts ++ [h₁.objs.size]).map Value.ref).toArray := by simp
  rw [eE]
  have F2 := F.push { cls := .type "tuple", data := .seq #[.str (Str.ofString "\n") tk₀, .str (Str.ofString "&#10;") (tk₀ + 1)] }
  generalize h₁.push { cls := .type "tuple", data := .seq #[.str (Str.ofString "\n") tk₀, .str (Str.ofString "&#10;") (tk₀ + 1)] } = h2 at *
  have e3 := ext_push h2 { cls := .type "list", data := .seq [Value.ref h₁.objs.size].toArray }
  have F3 := F2.push { cls := .type "list", data := .seq [Value.ref h₁.objs.size].toArray }
  generalize h2.push { cls := .type "list", data := .seq [Value.ref h₁.objs.size].toArray } = h3 at *
  have e4 := ext_push h3 { cls := .type "list", data := .seq ((Ts ++ [h₁.objs.size]).map Value.ref).toArray }
  have F4 := F3.push { cls := .type "list", data := .seq ((Ts ++ [h₁.objs.size]).map Value.ref).toArray }
  have hD4 : Heap.get? (h3.push { cls := .type "list", data := .seq ((Ts ++ [h₁.objs.size]).map Value.ref).toArray }) h3.objs.size = some (listOf ((Ts ++ [h₁.objs.size]).map Value.ref).toArray 0) := Heap.get?_push_size _ rfl
  generalize hh4 : h3.push { cls := .type "list", data := .seq ((Ts ++ [h₁.objs.size]).map Value.ref).toArray } = h4 at *
  have hE4 : EntL h4 h3.objs.size (ps ++ [(Str.ofString "\n", Str.ofString "&#10;")]) := by
    refine ⟨Ts ++ [h₁.objs.size], 0, hD4, by simp [hTl], ?_⟩
    intro i T p hi hp
    by_cases q : i < ps.length
    · rw [List.getElem?_append_left (by omega)] at hi
      rw [List.getElem?_append_left q] at hp
      obtain ⟨a, b, hab⟩ := hT i T p hi hp
      exact ⟨a, b, hab.at fun o e => e4 _ _ (e3 _ _ (e2 _ _ e))⟩
    · rw [List.getElem?_append_right (by omega)] at hi hp
      have hil : i - Ts.length < 1 := (List.getElem?_eq_some_iff.mp hi).1
      have hi0 : i - Ts.length = 0 := by omega
      rw [hTl] at hi0
      rw [hi0] at hp
      rw [hTl, hi0] at hi
      cases hi; cases hp
      exact ⟨_, _, hT2.at fun o e => e4 _ _ (e3 _ _ e)⟩
  have hpe : psL (ps ++ [(Str.ofString "\n", Str.ofString "&#10;")]) = psL ps ++ [([10], [38, 35, 49, 48, 59])] := by
    rw [psL, List.map_append]; rfl
  have G4 : Gd w mg mb h4 := G₁.ext fun a o e => e4 _ _ (e3 _ _ (e2 _ _ e))
  have N4 : News s.heap L h4 [] := .nil
  clear F F2 F3 N1 hh4 e4 e3 e2 hT2 hT hD hE G₁
  walk_at "SS"
  refine c_written (D := h3.objs.size) (ps := ps ++ [(Str.ofString "\n", Str.ofString "&#10;")]) (by walk_at "GD") (by exact hh) (by show A.depth + 1 < _; omega) hE4 hx ?_ ?_
  · rw [hpe]
    exact fun c hc j => Nat.le_trans (hb c hc j) (by omega)
  intro t5 h5 tk5 ht5 e5
  rw [hpe]
  have F5 := F4.ext e5
  have N5 : News s.heap L h5 [] := .nil
  clear N4 F4
  have hi : ∃ i, i = writtenL (psL ps ++ [([10], [38, 35, 49, 48, 59])]) (lst x) := ⟨_, rfl⟩
  obtain ⟨i, hi⟩ := hi
  rw [← hi] at hil ⊢
  have hq : quotedL (psL ps) (lst x) = if 34 ∉ i then 34 :: i ++ [34] else if 39 ∉ i then 39 :: i ++ [39] else 34 :: i.flatMap quot1 ++ [34] := by rw [hi]; rfl
  rw [hq] at h
  clear hq
  have fin : ∀ (r : List Nat) (t' : Tok) (h' : Heap) (tk' : Nat), (if 34 ∉ i then 34 :: i ++ [34] else if 39 ∉ i then 39 :: i ++ [39] else 34 :: i.flatMap quot1 ++ [34]) = r → s.toks ≤ tk' → Ext s.heap h' → Q (.str (tx r) t') { s with heap := h', toks := tk' } := fun r t' h' tk' e a b => e ▸ h t' h' tk' a b
  clear h
  walk_at "SS"
  have e1 : (Builtin.Str.occurrences (tx i) (Str.ofString "\"") 0 (tx i).length 1).isEmpty = !decide (34 ∈ i) := occ_one i 34
  have e2 : (Builtin.Str.occurrences (tx i) (Str.ofString "'") 0 (tx i).length 1).isEmpty = !decide (39 ∈ i) := occ_one i 39
  rw [e1]
  rename Fm _ _ _ _ => F6
  rename News _ _ _ _ => N6
  have il : (tx i).length = i.length := tx_len i
  by_cases c1 : 34 ∉ i
  · rw [if_pos (by simp [c1])]
    walk_at "SS"
    refine add_ (by rw [il]; show 1 + _ ≤ _; omega) ?_
    intro t7 k7 hk7
    walk_at "SS"
    refine add_ (by rw [show Str.ofString "\"" = tx [34] from rfl, tx_app, tx_len]; show _ + 1 ≤ _; rw [List.length_append, List.length_singleton]; omega) ?_
    intro t8 k8 hk8
    rw [show Str.ofString "\"" = tx [34] from rfl, tx_app, tx_app]
    refine fin _ _ _ _ ?_ (by walk_at "T") F6.keep
    rw [if_pos c1]; rfl
  rw [if_neg (by simpa using c1)]
  walk_at "SS"
  rw [e2]
  by_cases c2 : 39 ∉ i
  · rw [if_pos (by simp [c2])]
    walk_at "SS"
    refine add_ (by rw [il]; show 1 + _ ≤ _; omega) ?_
    intro t7 k7 hk7
    walk_at "SS"
    refine add_ (by rw [show Str.ofString "'" = tx [39] from rfl, tx_app, tx_len]; show _ + 1 ≤ _; rw [List.length_append, List.length_singleton]; omega) ?_
    intro t8 k8 hk8
    rw [show Str.ofString "'" = tx [39] from rfl, tx_app, tx_app]
    refine fin _ _ _ _ ?_ (by walk_at "T") F6.keep
    rw [if_neg c1, if_pos c2]; rfl
  rw [if_neg (by simpa using c2)]
  walk_at "SS"
  refine comp_str (x := tx i) (t := t5) [] (fun k ys l' => l' = [] ∧ StrsAre ys ((i.take k).map fun c => tx (quot1 c))) (by rfl) (by decide) (by rfl) (by decide) hh (by rw [tx]; simp only [List.size_toArray]; omega) F6 N6 ⟨rfl, .nil⟩ ?_ ?_ ?_
  · intro Q' hq
    refine ldL F6 ?_ hq
    rfl
  · rintro k c' u' ys l'' B3 C mC h' tk'' hc' ht'' e5 e6 eL F14 N14 hl14 ⟨rfl, hys⟩
    walk_at "SS"
    refine wpAny_IfExp ?_
    walk_at "SS"
    rename Fm _ _ _ _ => F15
    rename News _ _ _ _ => N15
    have hnx : (i.take (k + 1)).map (fun c => tx (quot1 c)) = (i.take k).map (fun c => tx (quot1 c)) ++ [tx (quot1 c')] := by
      rw [List.take_add_one]
      have : i[k]? = some c' := by rw [tx] at hc'; simpa using hc'
      simp [this]
    by_cases q : c' = 34
    · have q2 : ((⟨#[c']⟩ : Str) == Str.ofString "\"") = true := by rw [q]; rfl
      rw [q2, if_pos rfl]
      walk_at "SS"
      show Turned _ _ _ _ _ _
      refine Turned.mk (by walk_at "T") F15 N15 rfl ⟨rfl, ?_⟩
      rw [hnx, show tx (quot1 c') = Str.ofString "&quot;" from by rw [q]; rfl]
      exact strsAre_snoc hys _ _
    · have q2 : ((⟨#[c']⟩ : Str) == Str.ofString "\"") = false := by
        refine beq_eq_false_iff_ne.mpr fun z => q ?_
        have z : tx [c'] = tx [34] := z
        have := tx_inj z
        injection this
      rw [q2, if_neg Bool.false_ne_true]
      walk_at "SS"
      show Turned _ _ _ _ _ _
      refine Turned.mk (by walk_at "T") F15 N15 rfl ⟨rfl, ?_⟩
      rw [hnx, show tx (quot1 c') = ⟨#[c']⟩ from by unfold quot1; rw [if_neg q]; rfl]
      exact strsAre_snoc hys _ _
  · rintro ys l'' D2 nD2 h' tk'' ht'' hyl F14 N14 hD2 hl14 ⟨rfl, hys⟩
    have hys2 : StrsAre ys (i.map fun c => tx (quot1 c)) := by
      rw [List.take_of_length_le (by rw [tx]; simp)] at hys
      exact hys
    clear hys
    have hlq : (i.flatMap quot1).length ≤ 6 * i.length := by
      rw [List.length_flatMap]
      have : ∀ l : List Nat, (l.map fun a => (quot1 a).length).sum ≤ 6 * l.length := by
        intro l
        induction l with
        | nil => exact Nat.zero_le _
        | cons c r ih =>
          rw [List.map_cons, List.sum_cons, List.length_cons]
          have : (quot1 c).length ≤ 6 := by unfold quot1; split <;> simp
          omega
      exact this i
    walk_at "SS"
    refine join_ (x := tx []) (N14 _ (.head _)).1 hys2 (by rfl) (by rw [sums_tx]; omega) ?_
    intro t' k' hk'
    rw [join_tx]
    walk_at "SS"
    refine add_ (by rw [tx_len]; show 1 + _ ≤ _; omega) ?_
    intro t7 k7 hk7
    walk_at "SS"
    refine add_ (by rw [show Str.ofString "\"" = tx [34] from rfl, tx_app, tx_len]; show _ + 1 ≤ _; rw [List.length_append, List.length_singleton]; omega) ?_
    intro t8 k8 hk8
    rw [show Str.ofString "\"" = tx [34] from rfl, tx_app, tx_app]
    refine fin _ _ _ _ ?_ (by walk_at "T") F14.keep
    rw [if_neg c1, if_neg c2]; rfl
section
variable {w : World} {A : Around} {s : Shared} {E : Value → Shared → Prop} {env : Env} {B : Heap} {m : Str → Option Value} {l : List (Addr × Obj)}

/-- while test: body; n counts the turns left -/
theorem while_ {test : Expr} {body : List Stmt} {pos : Pos} {Q : Flow → Shared → Prop} (J : Nat → (Str → Option Value) → List (Addr × Obj) → Prop) {n₀ : Nat}
    (F : Fm B env.locals s.heap m) (N : News B env.locals s.heap l) (h0 : J n₀ m l)
    (turn : ∀ n m₁ l₁ h tk, s.toks ≤ tk → Fm B env.locals h m₁ → News B env.locals h l₁ → J n m₁ l₁ →
      wpAny (model PG w) A (isTrue test env (eval test env)) (fun b s₂ =>
        if b = true then wpAny (model PG w) A (execs body env) (fun f s₃ => match f with
          | .next | .cont => ∃ n' h' tk' m' l', n' < n ∧ s₃ = { s with heap := h', toks := tk' } ∧ s.toks ≤ tk' ∧ Fm B env.locals h' m' ∧ News B env.locals h' l' ∧ J n' m' l'
          | .brk => False
          | .ret _ => False) (fun _ _ => False) s₂ else Q .next s₂) (fun _ _ => False) { s with heap := h, toks := tk }) :
    wpAny (model PG w) A (exec (.While test body [] pos) env) Q E s := by
  refine wpAny_While (codeAny_whileLoop (fun n s' => ∃ h₁ tk₁ m₁ l₁, s' = { s with heap := h₁, toks := tk₁ } ∧ s.toks ≤ tk₁ ∧ Fm B env.locals h₁ m₁ ∧ News B env.locals h₁ l₁ ∧ J n m₁ l₁) ?_ n₀ ⟨s.heap, s.toks, m, l, rfl, Nat.le_refl _, F, N, h0⟩)
  rintro n s' ⟨h₁, tk₁, m₁, l₁, rfl, ht, F₁, N₁, J₁⟩
  refine wpAny_mono (turn n m₁ l₁ h₁ tk₁ ht F₁ N₁ J₁) (fun b s₂ h₂ => ?_) fun _ _ x => x.elim
  cases b with
  | false =>
    simp only [Bool.false_eq_true, if_false] at h₂ ⊢
    exact wpAny_execs_nil h₂
  | true =>
    simp only [if_true] at h₂ ⊢
    refine wpAny_mono h₂ (fun f s₃ h₃ => ?_) fun _ _ x => x.elim
    have fin : (∃ n' h' tk' m' l', n' < n ∧ s₃ = { s with heap := h', toks := tk' } ∧ s.toks ≤ tk' ∧ Fm B env.locals h' m' ∧ News B env.locals h' l' ∧ J n' m' l') → ∃ k, k < n ∧ ∃ h₁ tk₁ m₁ l₁, s₃ = { s with heap := h₁, toks := tk₁ } ∧ s.toks ≤ tk₁ ∧ Fm B env.locals h₁ m₁ ∧ News B env.locals h₁ l₁ ∧ J k m₁ l₁ := by
      rintro ⟨n', h', tk', m', l', hn, r⟩
      exact ⟨n', hn, h', tk', m', l', r⟩
    cases f with
    | next => exact fin h₃
    | cont => exact fin h₃
    | brk => exact h₃.elim
    | ret v => exact h₃.elim

theorem item_str_ss {x : Str} {t ui uj : Tok} {i j : Int} {H : Heap} {g : Array GenState} {dr : Drawn} {tk : Nat} {os : OsState} {Q : Value → Shared → Prop} (hsz : x.length ≤ 1000000)
    (h : ∀ t' h' k, tk ≤ k → Ext H h' → Q (.str (Txt.slice x (some i) (some j)) t') ⟨h', g, dr, k, os⟩) :
    ItemOn (model PG w) A E (.str x t) (.ref H.objs.size) Q ⟨H.push { cls := .type "slice", data := .fields #[.int i ui, .int j uj, .none] }, g, dr, tk, os⟩ :=
  ⟨"str", _, PySem.F.slot_str_getitem.lookup, typeIs_str _ _ _, wpAny_with_toks (n := tk) (Nat.le_refl _) (wpAny_getItem_str_slice (l := some (i, ui)) (u := some (j, uj)) (st := none) ⟨_, Heap.get?_push_size _ rfl, rfl, rfl⟩ rfl
    (post_val_or_str ⟨Nat.le_trans (Txt.slice_le x _ _) (by rw [sizeLine_eq]; omega), fun t' k hk => h t' _ k hk (ext_push _ _)⟩))⟩
theorem item_str_n {x : Str} {t u : Tok} {i : Int} {n c : Nat} {Q : Value → Shared → Prop} (hi : i = n) (hc : x.cps[n]? = some c) (hx : x.length ≤ 1000000) (h : Q (.str ⟨#[c]⟩ s.toks) { s with toks := s.toks + 1 }) :
    ItemOn (model PG w) A E (.str x t) (.int i u) Q s := by
  have hn : n < x.length := (Array.getElem?_eq_some_iff.mp hc).1
  refine ⟨"str", _, PySem.F.slot_str_getitem.lookup, typeIs_str _ _ _, P.getItem_str (c := c) ?_ ?_ h⟩
  · subst hi
    rw [Bool.or_eq_false_iff, decide_eq_false_iff_not, decide_eq_false_iff_not]
    omega
  · subst hi
    have : seqIndex? (n : Int) x.length = some n := by
      unfold seqIndex?
      have h1 : ¬ ((n : Int) < 0) := by omega
      simp [h1, hn]
    rw [this]
    exact hc
end

theorem slice_tx (l : List Nat) (a n : Nat) (h : a ≤ l.length) : Txt.slice (tx l) (some (a : Int)) (some ((a : Int) + n)) = tx ((l.drop a).take n) := by
  have e : Txt.slice (tx l) (some (a : Int)) (some ((a : Int) + n)) = Txt.slice (tx l) (some (a : Int)) (some (min ((a : Int) + n) l.length)) := by
    have e2 : Builtin.Str.strSliceIndices (some (a : Int)) (some ((a : Int) + n)) 1 l.length = Builtin.Str.strSliceIndices (some (a : Int)) (some (min ((a : Int) + n) l.length)) 1 l.length := by
      have h2 : ¬ ((a : Int) + n < 0) := by omega
      have h3 : ¬ (min ((a : Int) + n) l.length < 0) := by omega
      simp only [Builtin.Str.strSliceIndices, h2, h3, if_false]
      congr 1
      simp
    have e3 : (tx l).length = l.length := tx_len l
    unfold Txt.slice
    rw [e3]
    rw [e2]
  rw [e]
  have := PyProof.Rows.slice_closes (x := tx l) (i := a) (j := min ((a : Int) + n) l.length) (by rw [show (tx l).cps.toList = l from lst_tx l]; omega)
  rw [beq_iff_eq.mp this, show (tx l).cps.toList = l from lst_tx l]
  unfold tx
  congr 1
  congr 1
  rw [Int.toNat_natCast]
  rw [List.take_eq_take_iff, List.length_drop]
  by_cases h1 : a + n ≤ l.length
  · have e : (min ((a : Int) + n) l.length - a).toNat = n := by rw [Int.min_eq_left (by omega)]; omega
    rw [e]
  · have e : (min ((a : Int) + n) l.length - a).toNat = l.length - a := by rw [Int.min_eq_right (by omega)]; omega
    rw [e, Nat.min_self, Nat.min_eq_right (by omega)]

theorem slice_x (x : Str) {i j : Int} (a n : Nat) (hi : i = a) (hj : j = a + n) (h : a ≤ x.length) : Txt.slice x (some i) (some j) = tx (((lst x).drop a).take n) := by
  have := slice_tx (lst x) a n (by rw [lst_len]; exact h)
  rw [tx_lst] at this
  rw [hi, hj, this]

def fromN : Nat → List Nat → List Nat
  | 0, _ => []
  | n + 1, l => if l.take 5 = [38, 97, 109, 112, 59] then 38 :: fromN n (l.drop 5) else if l.take 4 = [38, 108, 116, 59] then 60 :: fromN n (l.drop 4)
    else if l.take 4 = [38, 103, 116, 59] then 62 :: fromN n (l.drop 4) else match l with
    | [] => []
    | c :: r => c :: fromN n r
def fromL (l : List Nat) : List Nat := fromN l.length l

set_option maxHeartbeats 1000000 in
/-- if text[k:k + n] == K: due = due + r; k = k + n -/
theorem from_if {w : World} {A : Around} {s : Shared} {E : Value → Shared → Prop} {B : Heap} {m : Str → Option Value} {env : Env} {x : Str} {k n : Nat} {N : Int} {due KL rl : List Nat} {K R : Str} {t t1 t2 : Tok} {Q : Flow → Shared → Prop} {el : List Stmt}
    {p1 p2 p3 p4 p5 p6 p7 p8 p9 q1 q2 q3 q4 q5 q6 q7 q8 q9 q10 q11 : Pos} {a1 a2 a3 a4 : Nat}
    (hN : N = n) (hK : K = tx KL) (hR : R = tx rl) (hn : 0 < n) (hn2 : n ≤ 100) (hrl : rl.length = 1) (hKl : KL.length = n) (hx : x.length ≤ 10000) (hk : k ≤ x.length) (hdl : due.length ≤ k)
    (F : Fm B env.locals s.heap m) (NN : News B env.locals s.heap []) (hm1 : m (Str.ofString "text") = some (.str x t)) (hm2 : m (Str.ofString "k") = some (.int k t1)) (hm3 : m (Str.ofString "due") = some (.str (tx due) t2))
    (hit : ((lst x).drop k).take n = KL → k + n ≤ (lst x).length → ∀ h' tk' u1 u2, s.toks ≤ tk' → Fm B env.locals h' (fun y => if y = Str.ofString "k" then some (.int ((k : Int) + N) u1) else if y = Str.ofString "due" then some (.str (tx (due ++ rl)) u2) else m y) → News B env.locals h' [] → Q .next { s with heap := h', toks := tk' })
    (miss : ¬ ((lst x).drop k).take n = KL → ∀ h' tk', s.toks ≤ tk' → Fm B env.locals h' m → News B env.locals h' [] → wpAny (model PG w) A (execs el env) Q E { s with heap := h', toks := tk' })
    (hkd : env.scope.kind = .function := by rfl) (hl1 : env.kindOf (Str.ofString "text") = some .local := by rfl) (hl2 : env.kindOf (Str.ofString "k") = some .local := by rfl) (hl3 : env.kindOf (Str.ofString "due") = some .local := by rfl)
    (hpp : (env.scope.kind == .class || (env.scope.kind == .module && env.locals != env.globals)) = false := by rfl) :
    wpAny (model PG w) A (exec (.If (.Compare (.Subscript (.Name (Str.ofString "text") p1) (.Slice (some (.Name (Str.ofString "k") p2)) (some (.BinOp (.Name (Str.ofString "k") p3) .Add (.Constant (.int N) a1 p4) p5)) none p6) p7) [.Eq] [.Constant (.str K) a2 p8] p9)
      [.Assign [.Name (Str.ofString "due") q4] (.BinOp (.Name (Str.ofString "due") q1) .Add (.Constant (.str R) a3 q2) q3) q5, .Assign [.Name (Str.ofString "k") q9] (.BinOp (.Name (Str.ofString "k") q6) .Add (.Constant (.int N) a4 q7) q8) q10] el q11) env) Q E s := by
  subst hN hK hR
  refine wpAny_If ?_
  refine wpAny_isTrue_Compare1 ?_
  refine Mine.sub_slice ?_
  refine ldL F hm1 ?_ hkd hl1
  refine ldL F hm2 ?_ hkd hl2
  refine wpAny_BinOp ?_
  refine ldL F hm2 ?_ hkd hl2
  refine wpAny_Constant_int ?_
  refine PyProof.Rows.add_int ?_
  refine item_str_ss (x := x) (by omega) ?_
  intro t5 h5 k5 hk5 e5
  have hsl : Txt.slice x (some (k : Int)) (some ((k : Int) + n)) = _ := slice_x x k n rfl rfl hk
  rw [hsl]
  have F5 := F.ext e5
  have N5 := newsExt NN e5
  refine Calls.Constant_str ?_
  refine PyProof.Rows.eq_str ?_
  refine wpAny_truthy_bool ?_
  rw [tx_beq]
  by_cases c : ((lst x).drop k).take n = KL
  · rw [if_pos (decide_eq_true c)]
    have hk2 : k + n ≤ (lst x).length := by
      have := congrArg List.length c
      rw [List.length_take, List.length_drop, hKl] at this
      omega
    refine wpAny_execs_cons ?_
    refine wpAny_Assign_Name ?_
    refine wpAny_BinOp ?_
    refine ldL F5 hm3 ?_ hkd hl3
    refine Calls.Constant_str ?_
    refine add_ (by rw [tx_len, tx_len]; omega) ?_
    intro t6 k6 hk6
    rw [tx_app]
    refine stL F5 N5 ?_ hl3 hpp
    intro h7 F7 N7
    refine wpAny_execs_cons ?_
    refine wpAny_Assign_Name ?_
    refine wpAny_BinOp ?_
    refine ldL F7 ((if_neg (by decide)).trans hm2) ?_ hkd hl2
    refine wpAny_Constant_int ?_
    refine PyProof.Rows.add_int ?_
    refine stL F7 N7 ?_ hl2 hpp
    intro h8 F8 N8
    refine wpAny_execs_nil ?_
    exact hit c hk2 h8 _ _ t6 (by walk_at "T") F8 N8
  · rw [if_neg (by simpa using c)]
    exact miss c _ _ (by walk_at "T") F5 N5

set_option maxHeartbeats 1000000 in
theorem c_from {w : World} {mg mb} {A : Around} {s : Shared} {E : Value → Shared → Prop} {Q : Value → Shared → Prop} {x : Str} {t : Tok}
    (G : Gd w mg mb s.heap) (hh : A.handled = none) (hroom : A.depth < recursionLimit) (hx : x.length ≤ 10000)
    (h : ∀ t' h' tk', s.toks ≤ tk' → Ext s.heap h' → Q (.str (tx (fromL (lst x))) t') { s with heap := h', toks := tk' }) :
    wpAny (model PG w) A (call (.ref 126) [.str x t] []) Q E s := by
  refine enterM [(Str.ofString "text", .str x t)] G (by rfl) (by rfl) (by omega) (by exact BindsTo.of_eq rfl) (locs rfl) (Nat.zero_lt_succ _) ?_
  intro h₁ L tk₀ htk₀ G₁ F
  have N1 : News s.heap L h₁ [] := .nil
  walk_at "SS"
  rename Fm _ _ _ _ => F2
  rename News _ _ _ _ => N2
  refine while_ (n₀ := (lst x).length) (fun n m l => ∃ (k : Nat) (due : List Nat) (t1 t2 : Tok), k ≤ (lst x).length ∧ (lst x).length ≤ k + n ∧ due.length ≤ k ∧ m (Str.ofString "text") = some (.str x t) ∧ m (Str.ofString "k") = some (.int k t1) ∧ m (Str.ofString "due") = some (.str (tx due) t2) ∧ due ++ fromN n ((lst x).drop k) = fromL (lst x) ∧ l = []) F2 N2
    ⟨0, [], _, _, Nat.zero_le _, by omega, Nat.zero_le _, rfl, rfl, rfl, rfl, rfl⟩ ?_
  rintro n m₁ l₁ h' tk ht F3 N3 ⟨k, due, t1, t2, hk, hn, hdl, hm1, hm2, hm3, hJ, rfl⟩
  clear F2 N2 F N1
  refine wpAny_isTrue_Compare1 ?_
  refine ldL F3 hm2 ?_
  walk_at "SS"
  by_cases hkl : (k : Int) < x.length
  · rw [if_pos (decide_eq_true hkl)]
    obtain ⟨n', rfl⟩ : ∃ n', n = n' + 1 := ⟨n - 1, by rw [lst_len] at hn; omega⟩
    unfold fromN at hJ
    refine wpAny_post fun Q' hQ => ?_
    refine wpAny_execs_cons ?_
    refine from_if (n := 5) (KL := [38, 97, 109, 112, 59]) (rl := [38]) rfl rfl rfl (by decide) (by decide) rfl rfl hx (by omega) hdl F3 N3 hm1 hm2 hm3 ?_ ?_
    · intro c38 hk2 h' tk' u1 u2 ht' F9 N9
      rw [if_pos c38, List.drop_drop] at hJ
      walk_at "SS"
      refine hQ _ _ ?_
      exact ⟨n', _, _, _, _, Nat.lt_succ_self _, rfl, by walk_at "T", F9, N9, k + 5, due ++ [38], u1, u2, hk2, by omega, by simp; omega, hm1, rfl, rfl, by rw [← hJ]; simp, rfl⟩
    intro c4 h4 k4 hk4 F4 N4
    refine wpAny_execs_cons ?_
    refine from_if (n := 4) (KL := [38, 108, 116, 59]) (rl := [60]) rfl rfl rfl (by decide) (by decide) rfl rfl hx (by omega) hdl F4 N4 hm1 hm2 hm3 ?_ ?_
    · intro c38 hk2 h' tk' u1 u2 ht' F9 N9
      rw [if_neg c4, if_pos c38, List.drop_drop] at hJ
      walk_at "SS"
      refine hQ _ _ ?_
      exact ⟨n', _, _, _, _, Nat.lt_succ_self _, rfl, by walk_at "T", F9, N9, k + 4, due ++ [60], u1, u2, hk2, by omega, by simp; omega, hm1, rfl, rfl, by rw [← hJ]; simp, rfl⟩
    intro c5 h5 k5 hk5 F5 N5
    refine wpAny_execs_cons ?_
    refine from_if (n := 4) (KL := [38, 103, 116, 59]) (rl := [62]) rfl rfl rfl (by decide) (by decide) rfl rfl hx (by omega) hdl F5 N5 hm1 hm2 hm3 ?_ ?_
    · intro c38 hk2 h' tk' u1 u2 ht' F9 N9
      rw [if_neg c4, if_neg c5, if_pos c38, List.drop_drop] at hJ
      walk_at "SS"
      refine hQ _ _ ?_
      exact ⟨n', _, _, _, _, Nat.lt_succ_self _, rfl, by walk_at "T", F9, N9, k + 4, due ++ [62], u1, u2, hk2, by omega, by simp; omega, hm1, rfl, rfl, by rw [← hJ]; simp, rfl⟩
    intro c6 h6 k6 hk6 F6 N6
    walk_at "SS"
    refine PySem.Subscript_Name ?_
    refine ldL F6 hm1 ?_
    refine ldL F6 hm2 ?_
    have hkn : k < (lst x).length := by rw [lst_len]; omega
    have hcc : x.cps[k]? = some ((lst x)[k]) := by
      have := List.getElem?_eq_getElem hkn
      rw [← this]; simp [lst]
    refine item_str_n (n := k) rfl hcc (by omega) ?_
    refine add_ (by rw [tx_len]; show _ + 1 ≤ _; omega) ?_
    intro t6 k6 hk6
    walk_at "SS"
    rename Fm _ _ _ _ => F9
    rename News _ _ _ _ => N9
    refine hQ _ _ ?_
    refine ⟨n', _, _, _, _, Nat.lt_succ_self _, rfl, by walk_at "T", F9, N9, k + 1, due ++ [(lst x)[k]], _, t6, by omega, by omega, by simp; omega, hm1, rfl, ?_, ?_, rfl⟩
    · rw [show (⟨#[(lst x)[k]]⟩ : Str) = tx [(lst x)[k]] from rfl, tx_app]; rfl
    · rw [if_neg c4, if_neg c5, if_neg c6, List.drop_eq_getElem_cons hkn] at hJ
      rw [← hJ]; simp
  · rw [if_neg (by simpa using hkl)]
    have hkl2 : (lst x).length ≤ k := by rw [lst_len]; omega
    have hJ2 : due = fromL (lst x) := by
      rw [List.drop_of_length_le hkl2] at hJ
      have : fromN n [] = [] := by cases n <;> rfl
      rw [this, List.append_nil] at hJ
      exact hJ
    rename Fm _ _ _ _ => F4
    walk_at "SS"
    rw [hJ2]
    exact h _ _ _ (by walk_at "T") F4.keep
def KEYS : List (List Nat) := [[233], [8364], [38], [34], [195]]
def VALS : List (List Nat) := [[], [38, 101, 59], [8364, 38], [34]]
def LETS : List Nat := [38, 60, 62, 34, 39, 10, 233, 169, 195, 8364]
/-- what the tables drawn are -/
def Tab (ps : List (List Nat × List Nat)) : Prop := (∃ v r, ps = ([233], v) :: r) ∧ ps.length ≤ 3 ∧ ∀ p ∈ ps, p.1 ∈ KEYS ∧ p.2 ∈ VALS
/-- an entry with tokens below k -/
def EntB (k : Tok) (e : DictEntry) : Prop := ∃ kx kt vx vt, e.key = .str kx kt ∧ e.val = .str vx vt ∧ 0 < kt ∧ kt < k ∧ 0 < vt ∧ vt < k ∧ kt ≠ vt ∧ vx.length ≤ 10
theorem EntB.ent {k : Tok} {e : DictEntry} (h : EntB k e) : Ent e := by
  obtain ⟨a, b, c, d, h1, h2, h3, _, h5, _, h7, h8⟩ := h
  exact ⟨a, b, c, d, h1, h2, Nat.ne_of_gt h3, Nat.ne_of_gt h5, h7, h8⟩
theorem EntB.up {k k' : Tok} {e : DictEntry} (h : EntB k e) (l : k ≤ k') : EntB k' e := by
  obtain ⟨a, b, c, d, h1, h2, h3, h4, h5, h6, h7, h8⟩ := h
  exact ⟨a, b, c, d, h1, h2, h3, Nat.lt_of_lt_of_le h4 l, h5, Nat.lt_of_lt_of_le h6 l, h7, h8⟩

theorem putL_ent {x v : Str} {hs : Int} {t u k k' : Tok} (hkk : k ≤ k') (ht : 0 < t) (htk : t < k') (hu : k ≤ u) (hu0 : 0 < u) (huk : u < k') (htu : t ≠ u) (hv : v.length ≤ 10) : ∀ {es : List DictEntry}, (∀ e ∈ es, EntB k e) → ∀ e ∈ putL x hs (.str x t) (.str v u) es, EntB k' e
  | [], _, e, he => by
    rcases List.mem_singleton.mp he with rfl
    exact ⟨x, t, v, u, rfl, rfl, ht, htk, hu0, huk, htu, hv⟩
  | a :: r, h, e, he => by
    obtain ⟨kx, kt, vx, vt, h1, h2, h3, h4, h5, h6, h7, h8⟩ := h a (.head _)
    unfold putL at he
    split at he
    · rcases List.mem_cons.mp he with rfl | he
      · exact ⟨kx, kt, v, u, h1, rfl, h3, Nat.lt_of_lt_of_le h4 hkk, hu0, huk, Nat.ne_of_lt (Nat.lt_of_lt_of_le h4 hu), hv⟩
      · exact (h e (.tail _ he)).up hkk
    · rcases List.mem_cons.mp he with rfl | he
      · exact (h _ (.head _)).up hkk
      · exact putL_ent hkk ht htk hu hu0 huk htu hv (fun e he => h e (.tail _ he)) e he

theorem putL_tab {w : World} {x v : Str} {hs : Int} {t u : Tok} {es : List DictEntry} (hT : Tab (psL (prs es))) (hk : KW w es) (hx : lst x ∈ KEYS) (hv : lst v ∈ VALS) (hl : es.length < 3) : Tab (psL (prs (putL x hs (.str x t) (.str v u) es))) := by
  obtain ⟨⟨v0, r0, e0⟩, h2, h3⟩ := hT
  cases es with
  | nil => cases e0
  | cons a r =>
    obtain ⟨kx, kt, hak, _⟩ := hk a (.head _)
    have ha : lst (keyTx a) = [233] := by
      have := congrArg (fun l => (l.head?.map (·.1))) e0
      simpa [psL, prs] using this
    have mem : ∀ (r : List DictEntry), (∀ p ∈ psL (prs r), p.1 ∈ KEYS ∧ p.2 ∈ VALS) → KW w r → ∀ p ∈ psL (prs (putL x hs (.str x t) (.str v u) r)), p.1 ∈ KEYS ∧ p.2 ∈ VALS := by
      intro r
      induction r with
      | nil =>
        intro _ _ p hp
        rcases List.mem_singleton.mp hp with rfl
        exact ⟨hx, hv⟩
      | cons b r ih =>
        intro hm hkr p hp
        unfold putL at hp
        split at hp
        · rcases List.mem_cons.mp hp with rfl | hp
          · exact ⟨(hm _ (.head _)).1, hv⟩
          · exact hm p (.tail _ hp)
        · rcases List.mem_cons.mp hp with rfl | hp
          · exact hm _ (.head _)
          · exact ih (fun p hp => hm p (.tail _ hp)) (fun e he => hkr e (.tail _ he)) p hp
    refine ⟨?_, ?_, mem _ h3 hk⟩
    · unfold putL
      split
      · exact ⟨lst v, psL (prs r), by show (lst (keyTx a), lst v) :: _ = _; rw [ha]; rfl⟩
      · exact ⟨lst (valTx a), _, by show (lst (keyTx a), lst (valTx a)) :: _ = _; rw [ha]⟩
    · have := putL_len x hs (.str x t) (.str v u) (a :: r)
      show (List.map _ (List.map _ _)).length ≤ 3
      rw [List.length_map, List.length_map]
      omega

section
variable {w : World} {A : Around} {s : Shared} {E : Value → Shared → Prop} {env : Env}
theorem item_list_n {D : Addr} {vs : List Value} {n : Nat} {i : Int} {u : Tok} {k : Nat} {v : Value} {Q : Value → Shared → Prop} (hl : s.heap.get? D = some (listOf vs.toArray n)) (hi : i = k) (hv : vs[k]? = some v) (hk : k < 1000000) (h : Q v s) :
    ItemOn (model PG w) A E (.ref D) (.int i u) Q s := by
  have hL : s.heap.IsList D vs.toArray := ⟨_, hl, rfl, n, rfl⟩
  refine ⟨"list", _, slot_list_getitem.lookup, hL.typeIs, wpAny_getItem_list hL (by omega) (by omega) ?_ h⟩
  rw [hi, Int.toNat_natCast]
  simpa using hv

theorem item_list_slice {D : Addr} {vs : List Value} {n : Nat} {va vb : Value} {lo hi : Option Int} {H : Heap} {g : Array GenState} {dr : Drawn} {tk : Nat} {os : OsState} {Q : Value → Shared → Prop} (hl : H.get? D = some (listOf vs.toArray n)) (hz : vs.length ≤ 1000000)
    (pa : IsPart va lo) (pb : IsPart vb hi)
    (h : ∀ h' D', Ext H h' → H.get? D' = none → h'.get? D' = some (listOf (slicePick vs.toArray lo hi none) 0) → Q (.ref D') ⟨h', g, dr, tk, os⟩) :
    ItemOn (model PG w) A E (.ref D) (.ref H.objs.size) Q ⟨H.push { cls := .type "slice", data := .fields #[va, vb, .none] }, g, dr, tk, os⟩ := by
  have hl' : Heap.get? (H.push { cls := .type "slice", data := .fields #[va, vb, .none] }) D = some (listOf vs.toArray n) := Heap.get?_push_of_some _ hl
  have hL : Heap.IsList (H.push { cls := .type "slice", data := .fields #[va, vb, .none] }) D vs.toArray := ⟨_, hl', rfl, n, rfl⟩
  refine ⟨"list", _, slot_list_getitem.lookup, ⟨_, hl', rfl⟩, wpAny_getItem_list_slice (lo := lo) (hi := hi) (st := none) hL ⟨_, Heap.get?_push_size _ rfl, rfl, rfl⟩ pa pb .none (by intro h; cases h) ?_ (by rw [sizeLine_eq, List.size_toArray]; omega)⟩
  exact h _ _ ((ext_push _ _).trans (ext_push _ _)) (fresh_size (ext_push _ _)) (Heap.get?_push_size _ rfl)

/-- { k: v } of two written texts -/
theorem Dict1 {k1 v1 : Str} {a1 b1 : Nat} {p1 q1 pos : Pos} {Q : Value → Shared → Prop}
    (h : ∀ h' ep', h'.get? s.heap.objs.size = some (dictOf [entE w k1 s.toks (.str v1 (s.toks + 1))] ep') → Ext s.heap h' → Q (.ref s.heap.objs.size) { s with heap := h', toks := s.toks + 3 }) :
    wpAny (model PG w) A (eval (.Dict [some (.Constant (.str k1) a1 p1)] [.Constant (.str v1) b1 q1] pos) env) Q E s := by
  rw [arm_eval_Dict]
  refine wpAny_bind (wpAny_standAt ?_)
  show wpAny _ _ (dictDisplay [(some (eval (.Constant (.str k1) a1 p1) env), do let x ← eval (.Constant (.str v1) b1 q1) env; standAt pos; pure x)]) _ _ _
  have hp := dictDisplay_pairs [(eval (.Constant (.str k1) a1 p1) env, do let x ← eval (.Constant (.str v1) b1 q1) env; standAt pos; pure x)] (by simp) (by simp)
  rw [List.map_cons, List.map_nil] at hp
  rw [hp]
  refine wpAny_bind ?_
  unfold subDict
  refine wpAny_bind ?_
  refine wpAny_alloc ?_
  refine wpAny_bind ?_
  refine wpAny_holding ?_
  rw [if_pos (by simp)]
  have one : ∀ {k v : Str} {a b : Nat} {p q : Pos} {rest} {Q' : List (Value × Value) → Shared → Prop} {s' : Shared},
      wpAny (model PG w) A (evalPairs rest) (fun r s₂ => Q' ((.str k s'.toks, .str v (s'.toks + 1)) :: r) s₂) E { s' with toks := s'.toks + 1 + 1 } →
      wpAny (model PG w) A (evalPairs ((eval (.Constant (.str k) a p) env, do let x ← eval (.Constant (.str v) b q) env; standAt pos; pure x) :: rest)) Q' E s' := fun hr =>
    evalPairs_cons (Calls.Constant_str (wpAny_bind (Calls.Constant_str (wpAny_bind (wpAny_standAt (wpAny_pure hr))))))
  refine wpAny_bind ?_
  show wpAny _ _ (evalPairs [(eval (.Constant (.str k1) a1 p1) env, do let x ← eval (.Constant (.str v1) b1 q1) env; standAt pos; pure x)]) _ _ _
  refine one ?_
  refine evalPairs_nil ?_
  refine wpAny_holding (wpAny_bind ?_)
  refine storeAll_x (w := w) [(k1, s.toks, .str v1 (s.toks + 1))] [] 0 _ _ (Heap.get?_push_size _ rfl) WD.nil (by simp) fun h' ep' hd' hs' => ?_
  refine wpAny_pure (wpAny_pure (wpAny_pure ?_))
  exact h h' ep' hd' fun b o e => hs'.extBut b o (Nat.ne_of_lt (Heap.lt_size e)) (Heap.get?_push_of_some _ e)
end

section
variable {w : World} {A : Around} {s : Shared} {E : Value → Shared → Prop} {B : Heap} {m : Str → Option Value} {l : List (Addr × Obj)} {env : Env}
end
theorem push_w {w : World} {A : Around} {E : Value → Shared → Prop} {B : Heap} {L : Addr} {m : Str → Option Value} {l : List (Addr × Obj)} {α : Type} {t : Sem α} {Q : α → Shared → Prop} {H : Heap} {g : Array GenState} {dr : Drawn} {tk : Nat} {os : OsState} {o : Obj} (F : Fm B L H m) (N : News B L H l) (hf : o.isFreed = false)
    (h : ∀ h', Fm B L h' m → News B L h' ((H.objs.size, o) :: l) → Ext H h' → (∀ p ∈ l, p.1 ≠ H.objs.size) → wpAny (model PG w) A t Q E ⟨h', g, dr, tk, os⟩) : wpAny (model PG w) A t Q E ⟨H.push o, g, dr, tk, os⟩ :=
  h _ (F.push o) (newsPush F N o hf) (ext_push _ _) fun p hp => Nat.ne_of_lt (Heap.lt_size (N p hp).1)

theorem item_list_sliceL {w : World} {A : Around} {E : Value → Shared → Prop} {D : Addr} {vs : List Value} {va vb : Value} {lo hi : Option Int} {H : Heap} {g : Array GenState} {dr : Drawn} {tk : Nat} {os : OsState} {Q : Value → Shared → Prop} (hl : H.IsList D vs.toArray) (hz : vs.length ≤ 1000000)
    (pa : IsPart va lo) (pb : IsPart vb hi)
    (h : ∀ h' D', Ext H h' → H.get? D' = none → h'.get? D' = some (listOf (slicePick vs.toArray lo hi none) 0) → Q (.ref D') ⟨h', g, dr, tk, os⟩) :
    ItemOn (model PG w) A E (.ref D) (.ref H.objs.size) Q ⟨H.push { cls := .type "slice", data := .fields #[va, vb, .none] }, g, dr, tk, os⟩ := by
  obtain ⟨o, ho, hc, n, hd⟩ := hl
  have hl' : Heap.get? (H.push { cls := .type "slice", data := .fields #[va, vb, .none] }) D = some o := Heap.get?_push_of_some _ ho
  have hL : Heap.IsList (H.push { cls := .type "slice", data := .fields #[va, vb, .none] }) D vs.toArray := ⟨_, hl', hc, n, hd⟩
  refine ⟨"list", _, slot_list_getitem.lookup, ⟨_, hl', hc⟩, wpAny_getItem_list_slice (lo := lo) (hi := hi) (st := none) hL ⟨_, Heap.get?_push_size _ rfl, rfl, rfl⟩ pa pb .none (by intro h; cases h) ?_ (by rw [sizeLine_eq, List.size_toArray]; omega)⟩
  exact h _ _ ((ext_push _ _).trans (ext_push _ _)) (fresh_size (ext_push _ _)) (Heap.get?_push_size _ rfl)
theorem intsAre_get {vs : List Value} {ns : List Int} (h : IntsAre vs ns) {i : Nat} {v : Value} (hv : vs[i]? = some v) : ∃ n u, v = .int n u := by
  induction h generalizing i with
  | nil => cases hv
  | cons n t _ ih =>
    cases i with
    | zero => cases hv; exact ⟨_, _, rfl⟩
    | succ i => exact ih hv
theorem tle {a b : Tok} (h : @LE.le Nat _ a b) : a ≤ b := h
theorem tlt {a b : Tok} (h : @LT.lt Nat _ a b) : a < b := h
theorem letAt (k : Nat) (h : k < 10) : ∃ c, (Str.ofString "&<>\"'\né©Ã€").cps[k]? = some c ∧ c ∈ LETS := by
  have : ∀ k, k < 10 → ((Str.ofString "&<>\"'\né©Ã€").cps[k]?.any fun c => LETS.contains c) = true := by decide
  have := this k h
  rw [Option.any_eq_true] at this
  obtain ⟨c, h1, h2⟩ := this
  exact ⟨c, h1, by simpa using h2⟩
theorem keyAt (k : Nat) (h : k < 5) : ∃ c, (Str.ofString "é€&\"Ã").cps[k]? = some c ∧ [c] ∈ KEYS := by
  have : ∀ k, k < 5 → ((Str.ofString "é€&\"Ã").cps[k]?.any fun c => KEYS.contains [c]) = true := by decide
  have := this k h
  rw [Option.any_eq_true] at this
  obtain ⟨c, h1, h2⟩ := this
  exact ⟨c, h1, by simpa using h2⟩
theorem valAt (t0 t1 t2 t3 : Tok) (k : Nat) (h : k < 4) : ∃ v u, ([.str (Str.ofString "") t0, .str (Str.ofString "&e;") t1, .str (Str.ofString "€&") t2, .str (Str.ofString "\"") t3] : List Value)[k]? = some (.str v u) ∧ lst v ∈ VALS ∧ v.length ≤ 10 ∧ (u = t0 ∨ u = t1 ∨ u = t2 ∨ u = t3) := by
  match k, h with
  | 0, _ => exact ⟨_, _, rfl, by decide, by decide, .inl rfl⟩
  | 1, _ => exact ⟨_, _, rfl, by decide, by decide, .inr (.inl rfl)⟩
  | 2, _ => exact ⟨_, _, rfl, by decide, by decide, .inr (.inr (.inl rfl))⟩
  | 3, _ => exact ⟨_, _, rfl, by decide, by decide, .inr (.inr (.inr rfl))⟩
set_option maxHeartbeats 1000000 in
theorem c_drawn {w : World} {mg mb} {A : Around} {s : Shared} {E : Value → Shared → Prop} {Q : Value → Shared → Prop} {a : Addr} {vs : List Value} {ns : List Int}
    (G : Gd w mg mb s.heap) (hh : A.handled = none) (hroom : A.depth < recursionLimit) (ha : s.heap.IsList a vs.toArray) (hi : IntsAre vs ns) (hz : ns.length ≤ 1000)
    (h : ∀ T D l t es ep h' tk', s.toks ≤ tk' → Ext s.heap h' → s.heap.get? D = none → (D == sysModules) = false → h'.IsTuple T #[.str (tx l) t, .ref D] → h'.get? D = some (dictOf es ep) → WD w es → (∀ e ∈ es, EntB tk' e) → Tab (psL (prs es)) →
      l.length ≤ 13 → (∀ c ∈ l, c ∈ LETS) → Q (.ref T) { s with heap := h', toks := tk' }) :
    wpAny (model PG w) A (call (.ref 97) [.ref a] []) Q E s := by
  refine enterM [(Str.ofString "script", .ref a)] G (by rfl) (by rfl) (by omega) (by exact BindsTo.of_eq rfl) (locs rfl) (Nat.zero_lt_succ _) ?_
  intro h₁ L tk₀ htk₀ G₁ F
  have N1 : News s.heap L h₁ [] := .nil
  have htk0 : 0 < tk₀ := Nat.lt_of_le_of_lt (Nat.zero_le _) htk₀
  walk_at "SS"
  rename Fm _ _ _ _ => F2
  rename News _ _ _ _ => N2
  rename Heap => h2
  refine Dict1 (w := w) ?_
  intro h3 ep3 hd3 e3
  have F3 := F2.ext e3
  have N3 := newsNew (newsExt N2 e3) hd3 F2.ne_size (fresh_size F2.keep)
  dsimp only at hd3 N3
  have hDS : (h2.objs.size == sysModules) = false := (F2.gd G).sys (Nat.le_refl _)
  generalize h2.objs.size = D at *
  clear F2 N2
  walk_at "SS"
  refine wpAny_For ?_ (by intro _; rfl)
  walk_at "SS"
  rename Fm _ _ _ _ => F4
  rename News _ _ _ _ => N4
  refine item_list_sliceL (ha.at fun o e => F4.keep _ _ e) (by rw [hi.length]; omega) .none (.int _ _) ?_
  intro h5 D2 e5 hD2 hD2g
  rw [show (some (10 : Int)) = some ((10 : Nat) : Int) from rfl, slicePick_upto'] at hD2g
  have F5 := F4.ext e5
  have N5 := newsExt N4 e5
  obtain ⟨B, eB, eH, F6, N6, apB⟩ := ground F5 N5
  have hD2B : B.get? D2 = some (listOf ((vs.toArray.toList.take 10).toArray) 0) := by
    refine apB D2 ?_ ?_ _ hD2g
    · rintro rfl
      obtain ⟨o, _, _, ho, _⟩ := F4.ns
      exact absurd (hD2.symm.trans ho) (by intro h; cases h)
    · intro p hp e
      have := (N4 p hp).1
      rw [e, hD2] at this; cases this
  clear F4 N4 F5 N5
  have hDs : s.heap.get? D = none := (newsDown N6 eB (D, _) (.head _)).2.2
  refine for_listT hh (fun i k m l => ∃ lt t es ep, m (Str.ofString "text") = some (.str (tx lt) t) ∧ m (Str.ofString "table") = some (.ref D) ∧ l = [(D, dictOf es ep)] ∧ WD w es ∧ (∀ e ∈ es, EntB k e) ∧ Tab (psL (prs es)) ∧ lt.length ≤ 3 + i ∧ (∀ c ∈ lt, c ∈ LETS)) ?_ hD2B F6 N6 ?_ ?_ ?_ ?_
  · rintro i k k' m l hk ⟨lt, t, es, ep, h1, h2, h3, h4, h5, h6⟩
    exact ⟨lt, t, es, ep, h1, h2, h3, h4, fun e he => (h5 e he).up hk, h6⟩
  · refine ⟨[233, 38, 8364], tk₀, _, ep3, rfl, rfl, rfl, ?_, ?_, ?_, by decide, by decide⟩
    · exact ⟨KW.cons KW.nil, List.nodup_cons.mpr ⟨(fun h => nomatch h), List.nodup_nil⟩⟩
    · intro e he
      rcases List.mem_singleton.mp he with rfl
      exact ⟨_, tk₀ + 1 + 1, _, tk₀ + 1 + 1 + 1, rfl, rfl, tlt (by omega), tlt (by dsimp only; omega), tlt (by omega), tlt (by dsimp only; omega), fun e => absurd (show @Eq Nat _ _ from e) (by omega), by decide⟩
    · refine ⟨⟨_, _, rfl⟩, Nat.le_add_left _ _, fun p hp => ?_⟩
      rcases List.mem_singleton.mp hp with rfl
      exact ⟨show [233] ∈ KEYS from by decide, show [38, 101, 59] ∈ VALS from by decide⟩
  · intro i v s₁ q E' hv hi hq
    exact wpAny_of_eq rfl hq
  · rintro i v m₁ l₁ B' h' tk hv ht e1 e2 F7 N7 hl7 ⟨lt, t, es, ep, hm1, hm2, rfl, hW, hE, hT, hll, hlc⟩
    refine wpAny_post2 fun Qa hQa => ?_
    clear F6 N6 N1 F hl7
    obtain ⟨n, u, rfl⟩ : ∃ n u, v = .int n u := intsAre_get hi (by rw [List.getElem?_take] at hv; split at hv; exact hv; cases hv)
    refine wpAny_assign_Name ?_
    iterate 9 walk_at "S"
    have hd0 : 0 ≤ n.fmod 60 := Int.fmod_nonneg_of_pos _ (by decide)
    have hd1 : n.fmod 60 < 60 := Int.fmod_lt_of_pos _ (by decide)
    generalize n.fmod 60 = d at *
    rename Fm _ _ _ _ => F8
    rename News _ _ _ _ => N8
    clear F7 N7
    rename Heap => h8
    have G' : Gd w mg mb B' := G.ext (eB.trans e1)
    have hD8 : h8.get? D = some (dictOf es ep) := (N8 _ (.head _)).1
    refine wpAny_If ?_
    refine wpAny_mono (Q := fun b s₂ => ∃ tk', tk ≤ tk' ∧ s₂ = { s with heap := h8, toks := tk' } ∧ (b = true → es.length < 3)) (E := fun _ _ => False) ?_ ?_ fun _ _ x => x
    · refine PyProof.Rows.isTrue_and ?_
      walk_at "SS"
      by_cases q : (d.fmod 3 == 2) = true
      · rw [if_pos q]
        walk_at "SS"
        refine call_len_dict (knd := strKind PG w) (kvs := kvsOf es) hDS ?_ ?_ ?_
        · exact (dictAt_x hD8 hW).dictOf
        · have := hT.2.1
          rw [kvsOf_length]
          rw [psL, prs, List.length_map, List.length_map] at this
          omega
        walk_at "SS"
        by_cases q2 : ((kvsOf es).length : Int) < 3
        · rw [if_pos (decide_eq_true q2)]
          walk_at "SS"
          refine ⟨_, ?_, rfl, fun _ => ?_⟩
          · walk_at "T"
          · rw [kvsOf_length] at q2; omega
        · rw [if_neg (by simpa using q2)]
          refine ⟨_, ?_, rfl, fun h => nomatch h⟩
          walk_at "T"
      · rw [if_neg q]
        refine ⟨_, ?_, rfl, fun h => nomatch h⟩
        walk_at "T"
    · rintro b s₂ ⟨tk', htk', rfl, hb⟩
      have hE' : ∀ e ∈ es, EntB tk' e := fun e he => (hE e he).up htk'
      cases b with
      | true =>
        rw [if_pos rfl]
        have hb := hb rfl
        walk_at "SS"
        refine push_w F8 N8 rfl ?_
        intro h9 F9 N9 e9 hne9
        clear F8 N8 hD8
        walk_at "SS"
        have h15 : d.fdiv 15 = ((d / 15).toNat : Int) := by rw [Int.fdiv_eq_ediv_of_nonneg _ (by decide)]; omega
        obtain ⟨v, u, hv1, hv2, hv3, hv4⟩ := valAt tk' (tk' + 1) (tk' + 1 + 1) (tk' + 1 + 1 + 1) (d / 15).toNat (by omega)
        refine item_list_n (N9 _ (.head _)).1 h15 hv1 (by omega) ?_
        walk_at "SS"
        have h5 : (d.fdiv 3).fmod 5 = ((d / 3 % 5).toNat : Int) := by rw [Int.fdiv_eq_ediv_of_nonneg _ (by decide), Int.fmod_eq_emod_of_nonneg _ (by decide)]; omega
        obtain ⟨c, hc1, hc2⟩ := keyAt (d / 3 % 5).toNat (by omega)
        refine item_str_n h5 hc1 (by decide) ?_
        dsimp only
        have hne : D ≠ h8.objs.size := hne9 (D, dictOf es ep) (.head _)
        have N10 : News B' _ h9 [(D, dictOf es ep)] := fun p hp => N9 p (.tail _ hp)
        have hDB : B'.get? D = none := (N10 (D, _) (.head _)).2.2
        refine setItem_x (w := w) (N10 (D, _) (.head _)).1 hW.kw (by omega) ?_
        intro h10 ep10 hd10 hs10
        have F10 := fmUpd F9 N10 hs10
        have N11 := newsUpd N10 hs10 hd10 (fun _ hp => nomatch hp)
        walk_at "SS"
        refine hQa _ _ ?_
        refine TurnedT.mk (by walk_at "T") F10 N11 rfl ⟨lt, t, _, _, hm1, hm2, rfl, hW.put, ?_, ?_, by omega, hlc⟩
        · have hu : @LE.le Nat _ tk' u ∧ @LT.lt Nat _ u (tk' + 4) := by
            rcases hv4 with e | e | e | e
            all_goals (have e : @Eq Nat _ _ := e; omega)
          have ht0 : @LE.le Nat _ tk₀ tk' := by walk_at "T"
          intro e he
          refine putL_ent (k := tk') (k' := tk' + 1 + 1 + 1 + 1 + 1 + 1 + 1 + 1 + 1 + 1 + 1 + 1 + 1) (tle (by omega)) (tlt (by omega)) (tlt (by omega)) (tle (by omega)) (tlt (by omega)) (tlt (by omega)) (fun e => absurd (show @Eq Nat _ _ from e) (by omega)) hv3 hE' e he
        · exact putL_tab hT hW.kw hc2 hv2 hb
      | false =>
        rw [if_neg Bool.false_ne_true]
        walk_at "SS"
        have h10 : (d.fdiv 3).fmod 10 = ((d / 3 % 10).toNat : Int) := by rw [Int.fdiv_eq_ediv_of_nonneg _ (by decide), Int.fmod_eq_emod_of_nonneg _ (by decide)]; omega
        obtain ⟨c, hc1, hc2⟩ := letAt (d / 3 % 10).toNat (by omega)
        refine item_str_n h10 hc1 (by decide) ?_
        have hil : i < 10 := by
          have := (List.getElem?_eq_some_iff.mp hv).1
          rw [List.length_take] at this
          omega
        refine add_ (by rw [tx_len]; show _ + 1 ≤ _; omega) ?_
        intro t7 k7 hk7
        walk_at "SS"
        rename Fm _ _ _ _ => F9
        rename News _ _ _ _ => N9
        refine hQa _ _ ?_
        refine TurnedT.mk (by walk_at "T") F9 N9 rfl ⟨lt ++ [c], t7, es, ep, ?_, hm2, rfl, hW, ?_, hT, ?_, ?_⟩
        · rw [show (⟨#[c]⟩ : Str) = tx [c] from rfl, tx_app]; rfl
        · intro e he
          refine (hE' e he).up ?_
          have hk8 : @LE.le Nat _ (tk' + 6) k7 := hk7
          show @LE.le Nat _ tk' (k7 + 1)
          omega
        · rw [List.length_append, List.length_singleton]; omega
        · intro c' hc'
          rcases List.mem_append.mp hc' with hc' | hc'
          · exact hlc c' hc'
          · rw [List.mem_singleton.mp hc']; exact hc2
  · rintro m₁ l₁ h' tk ht F7 N7 hl7 ⟨lt, t, es, ep, hm1, hm2, rfl, hW, hE, hT, hll, hlc⟩
    have hl10 : ((vs.toArray.toList).take 10).length ≤ 10 := by rw [List.length_take]; omega
    walk_at "SS"
    refine h _ D lt t es ep _ tk (by walk_at "T") ?_ hDs hDS ⟨_, Heap.get?_push_size _ rfl, rfl, 0, rfl⟩ (Heap.get?_push_of_some _ (N7 (D, _) (.head _)).1) hW hE hT (by omega) hlc
    exact (eB.trans F7.keep).trans (ext_push _ _)
theorem tle' {a b : Tok} (h : a ≤ b) : @LE.le Nat _ a b := h
theorem ale {a b : Addr} (h : @LE.le Nat _ a b) : a ≤ b := h
/-- a call of a def, also of one in a def -/
theorem enterX {w : World} {mg mb} {A : Around} {s : Shared} {R : Result → Shared → Prop} {f : Addr} {fo : Obj}
    {name qual : Str} {params : Arguments} {body : List Stmt} {scope : Scope} {cl : List (Str × Addr)} {dV kV doc pm cdv ct : Value} {an : Option Addr} {pos : List Value} {kw : List (Str × Value)} (binds : List (Str × Value))
    (G : Gd w mg mb s.heap)
    (ho : s.heap.get? f = some fo) (hfd : fo.data = .func (fnX name qual params body scope cl dV kV doc pm an cdv ct))
    (hcd : s.heap.CodeRec cdv qual) (hroom : A.depth < recursionLimit)
    (hbind : BindsTo s (fnX name qual params body scope cl dV kV doc pm an cdv ct) ⟨pos, kw⟩ binds) (hloc : ∀ y ∈ binds, scope.names.lookup y.1 = some .local)
    (h : ∀ h₁ L, L = s.heap.objs.size → Gd w mg mb h₁ → Fm s.heap L h₁ (fun y => binds.reverse.lookup y) →
      wpAny (model PG w) (A.deeper (envX qual scope L f cdv cl)) (execs body (envX qual scope L f cdv cl))
        (fun fl s' => R (.ok (.ret (match fl with | .ret v => v | _ => .none))) s') (fun _ _ => False) { s with heap := h₁, toks := s.toks + binds.length })
    (hco : scope.isCoroutine = false := by rfl) (hgen : scope.isGenerator = false := by rfl) (hk : scope.kind = .function := by rfl)
    (hcell : ∀ x ∈ scope.names, x.2 ≠ .cell := by decide) :
    codeAny (model PG w) A (.call (.ref f) ⟨pos, kw⟩) R s := by
  refine codeAny_call_def (fd := fnX name qual params body scope cl dV kV doc pm an cdv ct) (body := body) (binds := binds) hroom ho hfd G.nolimit hcd rfl hbind hcell hloc (fun h₁ hns hk₁ => ?_) hco hgen hk
  have F : Fr s.heap s.heap.objs.size h₁ _ := ⟨hns, hk₁, Nat.le_refl _⟩
  exact wpAny_mono (h h₁ _ rfl (G.ext hk₁) (Fm.of F)) (fun _ _ x => x) fun _ _ x => x.elim
section
variable {w : World} {A : Around} {s : Shared} {E : Value → Shared → Prop}
theorem item_list_n' {D : Addr} {vs : List Value} {i : Int} {u : Tok} {k : Nat} {v : Value} {Q : Value → Shared → Prop} (hL : s.heap.IsList D vs.toArray) (hi : i = k) (hv : vs[k]? = some v) (hk : k < 1000000) (h : Q v s) :
    ItemOn (model PG w) A E (.ref D) (.int i u) Q s := by
  refine ⟨"list", _, slot_list_getitem.lookup, hL.typeIs, wpAny_getItem_list hL (by omega) (by omega) ?_ h⟩
  rw [hi, Int.toNat_natCast]
  simpa using hv
theorem item_bytes_slice {b : Array UInt8} {ks : List Int} {t ui uj : Tok} {i j : Int} {k n : Nat} {H : Heap} {g : Array GenState} {dr : Drawn} {tk : Nat} {os : OsState} {Q : Value → Shared → Prop} (hk : KBw.bInts b = ks) (hz : ks.length ≤ 1000000) (hi : i = k) (hj : j = k + n)
    (hkn : k + n ≤ ks.length)
    (h : ∀ b' t' h' tk', tk ≤ tk' → Ext H h' → KBw.bInts b' = (ks.drop k).take n → Q (.bytes b' t') ⟨h', g, dr, tk', os⟩) :
    ItemOn (model PG w) A E (.bytes b t) (.ref H.objs.size) Q ⟨H.push { cls := .type "slice", data := .fields #[.int i ui, .int j uj, .none] }, g, dr, tk, os⟩ := by
  refine ⟨"bytes", _, FB.slot_bytes_getitem.lookup, typeIs_bytes _ _ _, wpAny_with_toks (n := tk) (Nat.le_refl _) (getItem_meets (typeIs_bytes _ _ _) (by decide) FB.slot_bytes_getitem FB.entry_bytes_getitem (FB.args_bytes_getitem_2 _ _)
    (KBc.meets_slice2 b t _ (.int i ui) (.int j uj)) ⟨Heap.IsSliceOf.new _ _ _ _, Nat.le_trans (KBc.size_picked_le b _ _) (by rw [← KBw.ints_length b, hk, sizeLine_eq]; omega), fun t' k' hk' => h _ t' _ k' hk' (ext_push _ _) ?_⟩)⟩
  rw [KBc.ints_picked hk]
  show (ks.drop (clipAt ks.length i)).take (clipAt ks.length j - clipAt ks.length i) = _
  rw [hi, hj, clipAt_nat, show ((k : Int) + (n : Int)) = ((k + n : Nat) : Int) from by omega, clipAt_nat, Nat.min_eq_left (by omega), Nat.min_eq_left (by omega), Nat.add_sub_cancel_left]
end
/-- what a call of the reader of the stream does -/
def TakeC (w : World) (mg mb : Str → Option Value) (B₂ : Heap) (f pl : Addr) (ks : List Int) : Prop :=
  ∀ (A : Around) (s : Shared) (E Q : Value → Shared → Prop) (B : Heap) (k n : Nat) (t u : Tok), Ext B₂ s.heap → Gd w mg mb B → Ext B s.heap → B.get? pl = none → s.heap.IsList pl [.int k t].toArray → A.handled = none → A.depth < recursionLimit → k + n ≤ ks.length →
    (∀ b' t' t2 h' tk', s.toks ≤ tk' → (∀ b o, b ≠ pl → s.heap.get? b = some o → h'.get? b = some o) → h'.IsList pl [.int ((k + n : Nat) : Int) t2].toArray → KBw.bInts b' = (ks.drop k).take n → Q (.bytes b' t') { s with heap := h', toks := tk' }) →
    wpAny (model PG w) A (call (.ref f) [.int n u] []) Q E s
/-- a stream at a heap -/
def Stm (w : World) (mg mb : Str → Option Value) (B₂ : Heap) (x pl : Addr) (ks : List Int) : Prop :=
  ∃ dx es n f, InstAt B₂ x (instObj 79 dx) 79 (some (dictOf es n)) ∧ getL (Str.ofString "read") es = some (some (.ref f)) ∧ FnAt f B₂ ∧ TakeC w mg mb B₂ f pl ks

set_option maxHeartbeats 1000000 in
theorem c_example {w : World} {mg mb} {A : Around} {s : Shared} {E : Value → Shared → Prop} {Q : Value → Shared → Prop} {B : Heap} {L : Addr} {m : Str → Option Value} {l : List (Addr × Obj)} {v : Value}
    (GB : Gd w mg mb B) (F : Fr B L s.heap m) (N : News B L s.heap l) (hroom : A.depth + 1 < recursionLimit)
    (h : ∀ x dx h' tk' tv, s.toks ≤ tk' → Fr B L h' m → News B L h' ((x, instObj 79 dx) :: (dx, dictOf (putL (Str.ofString "value") (PyData.keyHash w.params (Str.ofString "value")) (.str (Str.ofString "value") tv) v []) 1) :: l) → (∀ p ∈ l, p.1 < dx) → dx < x →
      Q (.ref x) { s with heap := h', toks := tk' }) :
    wpAny (model PG w) A (call (.ref 79) [v] []) Q E s := by
  refine call_cls (fI := 76) F GB.K N (by rfl) (by rfl) (by rfl) ?_
  intro x dx h1 F1 N1 l1 l2
  have G1 : Gd w mg mb h1 := GB.ext F1.keep
  refine enterX [(Str.ofString "self", .ref x), (Str.ofString "value", v)] G1 (G1.K _ _ (by rfl)) (by rfl) (codeRec_of G1.K (by rfl)) ?_ (by exact BindsTo.of_eq rfl) (locs rfl) ?_
  · show A.depth + 1 < _
    exact hroom
  intro h2 L' hL' G2 F2
  have F1' : Fr B L h2 m := F1.keeps F2.keep
  have N1' := newsExt N1 F2.keep
  clear F N F1 N1
  refine wpAny_execs_cons ?_
  refine plainObj_wpAny_Assign_Attribute ?_ (by rfl)
  refine ldL F2 rfl ?_
  refine ldL F2 rfl ?_
  have hxd : x ≠ dx := Nat.ne_of_gt l2
  have I : InstAt h2 x (instObj 79 dx) 79 (some (dictOf [] 0)) := ⟨(N1' _ (.head _)).1, rfl, rfl, (N1' _ (.tail _ (.head _))).1⟩
  refine wpAny_with_toks (n := s.toks) ?_ (set_dict F1' GB.K N1' I rfl (by rfl) (by rfl) (by rfl) (by rfl) (by rfl) rfl (.tail hxd (.head fun p hp => Nat.ne_of_lt (l1 p hp))) (Nat.le_of_ble_eq_true rfl) ?_)
  · show s.toks ≤ s.toks + _
    exact Nat.le_add_right _ _
  intro h3 F3 N3 ht3
  refine wpAny_execs_nil ?_
  refine ⟨rfl, ?_⟩
  exact h x dx h3 _ _ ht3 F3 N3 l1 l2

set_option maxHeartbeats 2000000 in
theorem c_stream {w : World} {mg mb} {loose mean} {A : Around} {s : Shared} {E : Value → Shared → Prop} {Q : Value → Shared → Prop} {B₀ : Heap} {b : Array UInt8} {ks : List Int} {t : Tok}
    (hk : KBw.bInts b = ks) (hks : ks.length ≤ 100000) (e₀ : Ext B₀ s.heap) (G : Gd w mg mb B₀) (T : Top topProg loose mean mg mb B₀) (h85 : B₀.get? 85 = none) (hs85 : s.heap.get? 85 = some (tabObj #[]))
    (hh : A.handled = none) (hroom : A.depth + 2 < recursionLimit)
    (h : ∀ x pl h' tk' B₂ ps85 t, s.toks ≤ tk' → (∀ b o, b ≠ 85 → s.heap.get? b = some o → h'.get? b = some o) → h'.get? 85 = some (tabObj ps85) → Ext B₂ h' → B₂.get? pl = none → s.heap.get? pl = none →
      (∀ b o, s.heap.get? b = some o → B₂.get? b = none) → Stm w mg mb B₂ x pl ks → h'.IsList pl [.int 0 t].toArray → Q (.ref x) { s with heap := h', toks := tk' }) :
    wpAny (model PG w) A (call (.ref 90) [.bytes b t] []) Q E s := by
  have Gs : Gd w mg mb s.heap := G.ext e₀
  refine enterC' [(Str.ofString "octets", .bytes b t)] Gs (by rfl) (by rfl) (by omega) (by exact BindsTo.of_eq rfl) (by rfl) (by decide) ?_
  intro h₁ L tk₀ cells hL htk₀ G₁ F N Y
  obtain ⟨oP, oO, rfl, hP, hO⟩ := CellsAre.two Y
  clear Y
  have hB : ∃ B, B = hideAll s.heap [85] := ⟨_, rfl⟩
  obtain ⟨B, hB⟩ := hB
  have eB : Ext B s.heap := fun b o e => by rw [hB] at e; exact of_hideAll _ e
  have hB85 : B.get? 85 = none := by rw [hB]; exact hideAll_none _ (.head _)
  have e0B : Ext B₀ B := fun b o e => by rw [hB]; exact hideAll_get _ (e₀ _ _ e) (fun hm => by rw [List.mem_singleton.mp hm, h85] at e; cases e)
  have habove : B.objs.size ≤ L := by rw [hB, hideAll_size, hL]; exact Nat.le_refl _
  have GB : Gd w mg mb B := G.ext e0B
  have TB := T.keeps e0B
  have hL85 : (85 : Addr) ≠ L := fun e => by have := F.off; rw [← e, hs85] at this; cases this
  have hO' : oO.data = .cell (some (.bytes b t)) := hO
  have hP' : oP.data = .cell none := hP
  clear hO hP
  have N0 : News B L h₁ [(L + 1 + 1, oP), (L + 1, oO), (85, tabObj #[])] := by
    have N' := newsDown N eB
    intro p hp
    rcases List.mem_cons.mp hp with rfl | hp
    · exact N' _ (.head _)
    rcases List.mem_cons.mp hp with rfl | hp
    · exact N' _ (.tail _ (.head _))
    rcases List.mem_singleton.mp hp with rfl
    exact ⟨F.keep _ _ hs85, hL85, hB85⟩
  have F0 := F.down eB
  clear F
  have hn1 : ∀ p ∈ ([(L + 1, oO), (85, tabObj #[])] : List (Addr × Obj)), p.1 ≠ L + 1 + 1 := by
    intro p hp
    rcases List.mem_cons.mp hp with rfl | hp
    · exact Nat.ne_of_lt (Nat.lt_succ_self _)
    rcases List.mem_singleton.mp hp with rfl
    intro e
    have := (N (L + 1 + 1, oP) (.head _)).2.2
    rw [← show (85 : Addr) = L + 1 + 1 from e, hs85] at this
    cases this
  clear N
  walk_at "SS"
  refine push_w F0 N0 rfl ?_
  intro h2 F2 N2 e2 hne2
  obtain ⟨oL, hoL⟩ : ∃ o : Obj, o = listOf [.int 0 tk₀].toArray 0 := ⟨_, rfl⟩
  change News B _ h2 ((h₁.objs.size, listOf [.int 0 tk₀].toArray 0) :: _) at N2
  rw [← hoL] at N2
  refine stCell (own := [(h₁.objs.size, oL)]) (c := L + 1 + 1) (rest := [(L + 1, oO), (85, tabObj #[])]) F2 N2 (by rfl) hP' (fun p hp => (List.mem_singleton.mp hp) ▸ (hne2 _ (.head _)).symm) hn1 ?_
  intro h3 oP3 hP3 F3 N3
  have hpl : @LT.lt Nat _ (L + 1 + 1) h₁.objs.size := Heap.lt_size (N0 _ (.head _)).1
  generalize hpe : h₁.objs.size = pl at *
  clear F0 N0 F2 N2
  refine wpAny_execs_cons ?_
  have C : CodeHd B 89 85 := codeHd_of_K GB.K (by rfl)
  have F3' : Fr B L h3 _ := ⟨F3.ns, F3.keep, habove⟩
  refine nestDef_K rfl rfl rfl ?_
  have hpl85 : pl ≠ 85 := fun e => by
    have h1 := (N3 (pl, oL) (.head _)).1
    have h2 := (N3 (85, _) (.tail _ (.tail _ (.tail _ (.head _))))).1
    rw [show pl = 85 from e, h2, hoL] at h1
    cases h1
  have hU : UpdF 85 (tabObj #[]) ([(pl, oL)] ++ (L + 1 + 1, oP3) :: [(L + 1, oO), (85, tabObj #[])]) _ := .tail hpl85 (.tail (fun e => hn1 (85, tabObj #[]) (.tail _ (.head _)) e.symm) (.tail (fun e => by
    have h1 := (N3 (L + 1, oO) (.tail _ (.tail _ (.head _)))).1
    have h2 := (N3 (85, _) (.tail _ (.tail _ (.tail _ (.head _))))).1
    rw [show L + 1 = 85 from e, h2] at h1
    rw [← (show tabObj #[] = oO from by injection h1)] at hO'
    cases hO') (.head fun _ hp => nomatch hp)))
  refine wpAny_with_toks (n := tk₀) ?_ (nest_K F3' N3 TB C rfl hU trivial rfl rfl ?_)
  · walk_at "T"
  intro f c' oc vs tq ctv doc h4 tk4 F4 N4 hoc hvs hlt1 hlt2 htk4
  refine stL (Fm.of F4) N4 ?_
  intro h5 F5 N5
  clear F4 N4 F3' F3 N3
  walk_at "SS"
  refine c_example GB (⟨F5.ns, F5.keep, habove⟩ : Fr B L h5 _) N5 (by show A.depth + 1 + 1 < _; exact hroom) ?_
  intro x dx h6 tk6 tv ht6 F6 N6 l1 l2
  clear F5 N5
  refine stL (Fm.of F6) N6 ?_
  intro h7 F7 N7
  clear F6 N6
  refine wpAny_execs_cons ?_
  refine plainObj_wpAny_Assign_Attribute ?_ (by rfl)
  refine ldL F7 rfl ?_
  refine ldL F7 rfl ?_
  have hxd : x ≠ dx := Nat.ne_of_gt l2
  have F7' : Fr B L h7 _ := ⟨F7.ns, F7.keep, habove⟩
  have I : InstAt h7 x (instObj 79 dx) 79 (some (dictOf (putL (Str.ofString "value") (PyData.keyHash w.params (Str.ofString "value")) (.str (Str.ofString "value") tv) (.int 0 (tk4 + 1)) []) 1)) := ⟨(N7 _ (.head _)).1, rfl, rfl, (N7 _ (.tail _ (.head _))).1⟩
  refine wpAny_with_toks (n := tk6) ?_ (set_dict F7' GB.K N7 I rfl (by rfl) (by rfl) (by rfl) (by rfl) (by rfl) rfl (.tail hxd (.head fun p hp => Nat.ne_of_lt (l1 p hp))) (Nat.le_of_ble_eq_true rfl) ?_)
  · exact Nat.le_add_right _ _
  intro h8 F8 N8 ht8
  clear F7 N7 F7' I
  refine wpAny_execs_cons ?_
  refine wpAny_Return_some ?_
  refine ldL (Fm.of F8) rfl ?_
  show Q (.ref x) _
  have hpl0 : h8.get? pl = some (listOf [.int 0 tk₀].toArray 0) := by rw [← hoL]; exact (N8 (pl, oL) (.tail _ (.tail _ (.tail _ (.tail _ (.head _)))))).1
  obtain ⟨B₂, hB₂⟩ : ∃ B₂, B₂ = hideAll h8 (pl :: (List.range s.heap.objs.size).filter fun b => (s.heap.get? b).isSome) := ⟨_, rfl⟩
  have old : ∀ a, B.get? a = none → a ≠ 85 → s.heap.get? a = none := by
    intro a ha hne
    cases q : s.heap.get? a with
    | none => rfl
    | some o =>
      have : B.get? a = some o := by rw [hB]; exact hideAll_get _ q fun hm => hne (List.mem_singleton.mp hm)
      rw [ha] at this; cases this
  have new : ∀ a o, h8.get? a = some o → B.get? a = none → a ≠ 85 → a ≠ pl → B₂.get? a = some o := by
    intro a o ha hb h1 h2
    rw [hB₂]
    refine hideAll_get _ ha fun hm => ?_
    rcases List.mem_cons.mp hm with e | hm
    · exact h2 e
    · have := (List.mem_filter.mp hm).2
      rw [old a hb h1] at this
      cases this
  refine h x pl h8 _ B₂ _ tk₀ ?_ ?_ (N8 (85, _) (.tail _ (.tail _ (.tail _ (.tail _ (.tail _ (.tail _ (.tail _ (.head _))))))))).1 ?_ ?_ ?_ ?_ ?_ ⟨_, hpl0, rfl, 0, rfl⟩
  · walk_at "T"
  · intro a o hne ha
    refine F8.keep a o ?_
    rw [hB]
    exact hideAll_get _ ha fun hm => hne (List.mem_singleton.mp hm)
  · intro a o ha
    rw [hB₂] at ha
    exact of_hideAll _ ha
  · rw [hB₂]; exact hideAll_none _ (.head _)
  · exact old pl (N8 (pl, oL) (.tail _ (.tail _ (.tail _ (.tail _ (.head _)))))).2.2 hpl85
  · intro a o ha
    rw [hB₂]
    refine hideAll_none _ (.tail _ ?_)
    exact List.mem_filter.mpr ⟨List.mem_range.mpr (Heap.lt_size ha), by rw [ha]; rfl⟩
  · have a1 : @LT.lt Nat _ pl c' := hlt1 (pl, oL) (.head _)
    have a2 : @LT.lt Nat _ 85 c' := hlt1 (85, tabObj #[]) (.tail _ (.tail _ (.tail _ (.head _))))
    have a3 : @LT.lt Nat _ c' f := hlt2
    have a4 : @LT.lt Nat _ f dx := l1 (f, _) (.head _)
    have a5 : @LT.lt Nat _ dx x := l2
    have p85 : ∀ a : Nat, @LT.lt Nat _ 85 a → a ≠ (85 : Addr) := fun a h => Nat.ne_of_gt h
    have ppl : ∀ a : Nat, @LT.lt Nat _ pl a → a ≠ pl := fun a h => Nat.ne_of_gt h
    have hf2 := new f _ (N8 _ (.tail _ (.tail _ (.head _)))).1 (N8 _ (.tail _ (.tail _ (.head _)))).2.2 (p85 f (Nat.lt_trans a2 a3)) (ppl f (Nat.lt_trans a1 a3))
    have hc2 := new c' _ (N8 _ (.tail _ (.tail _ (.tail _ (.head _))))).1 (N8 _ (.tail _ (.tail _ (.tail _ (.head _))))).2.2 (p85 c' a2) (ppl c' a1)
    have hP2 := new (L + 1 + 1) _ (N8 (L + 1 + 1, oP3) (.tail _ (.tail _ (.tail _ (.tail _ (.tail _ (.head _))))))).1 (N8 (L + 1 + 1, oP3) (.tail _ (.tail _ (.tail _ (.tail _ (.tail _ (.head _))))))).2.2
      (fun e => hn1 (85, tabObj #[]) (.tail _ (.head _)) e.symm) (Nat.ne_of_lt hpl)
    have hO2 := new (L + 1) _ (N8 (L + 1, oO) (.tail _ (.tail _ (.tail _ (.tail _ (.tail _ (.tail _ (.head _)))))))).1 (N8 (L + 1, oO) (.tail _ (.tail _ (.tail _ (.tail _ (.tail _ (.tail _ (.head _)))))))).2.2
      (fun e => by
        have h1 := (N8 (L + 1, oO) (.tail _ (.tail _ (.tail _ (.tail _ (.tail _ (.tail _ (.head _)))))))).1
        have h2 := (N8 (85, _) (.tail _ (.tail _ (.tail _ (.tail _ (.tail _ (.tail _ (.tail _ (.head _))))))))).1
        rw [show L + 1 = 85 from e] at h1
        have h3 := h1.symm.trans h2
        injection h3 with h3
        have h3 : oO = _ := h3
        rw [h3] at hO'
        cases hO') (Nat.ne_of_lt (Nat.lt_trans (Nat.lt_succ_self _) hpl))
    refine ⟨dx, _, _, f, ⟨new x _ (N8 _ (.head _)).1 (N8 _ (.head _)).2.2 (p85 x (Nat.lt_trans (Nat.lt_trans a2 a3) (Nat.lt_trans a4 a5))) (ppl x (Nat.lt_trans (Nat.lt_trans a1 a3) (Nat.lt_trans a4 a5))), rfl, rfl,
      new dx _ (N8 _ (.tail _ (.head _))).1 (N8 _ (.tail _ (.head _))).2.2 (p85 dx (Nat.lt_trans (Nat.lt_trans a2 a3) a4)) (ppl dx (Nat.lt_trans (Nat.lt_trans a1 a3) a4))⟩, by rfl, ⟨_, _, _, _, hf2⟩, ?_⟩
    clear N8 F8 h old new hpl0 hn1 l1
    intro A' s' E' Q' Bk k n t' u' eB2 GBk eBk hBk hpl' hh' hroom' hkn h'
    have G' := GBk.ext eBk
    have hf3 := eB2 _ _ hf2
    have hP3' : s'.heap.IsCell (L + 1 + 1) (some (.ref pl)) := ⟨_, eB2 _ _ hP2, hP3⟩
    have hO3' : s'.heap.IsCell (L + 1) (some (.bytes b t)) := ⟨_, eB2 _ _ hO2, hO'⟩
    refine wpAny_call ?_
    refine enterX [(Str.ofString "n", .int n u')] G' hf3 rfl ⟨c', oc, vs, tq, rfl, eB2 _ _ hc2, hoc, hvs⟩ hroom' (by exact BindsTo.of_eq rfl) (locs rfl) ?_
    intro h9 L9 hL9 G9 F9
    obtain ⟨oN, hoN, hoN1, hoN2⟩ := hpl'
    obtain ⟨B9, hB9⟩ : ∃ B9, B9 = hideAll s'.heap [pl] := ⟨_, rfl⟩
    have e9 : Ext B9 s'.heap := fun a o e => by rw [hB9] at e; exact of_hideAll _ e
    have g9 : ∀ a o, a ≠ pl → s'.heap.get? a = some o → B9.get? a = some o := fun a o hne e => by rw [hB9]; exact hideAll_get _ e fun hm => hne (List.mem_singleton.mp hm)
    have n9 : B9.get? pl = none := by rw [hB9]; exact hideAll_none _ (.head _)
    have hPB : B9.IsCell (L + 1 + 1) (some (.ref pl)) := ⟨_, g9 _ _ (Nat.ne_of_lt hpl) (eB2 _ _ hP2), hP3⟩
    have hOB : B9.IsCell (L + 1) (some (.bytes b t)) := ⟨_, g9 _ _ (Nat.ne_of_lt (Nat.lt_trans (Nat.lt_succ_self _) hpl)) (eB2 _ _ hO2), hO'⟩
    have cellK : ∀ {c v h m}, B9.IsCell c v → Fm B9 L9 h m → h.IsCell c v := fun ⟨o, ho, hd⟩ F => ⟨o, F.keep _ _ ho, hd⟩
    have Fa := F9.down e9
    have Na : News B9 L9 h9 [(pl, oN)] := by
      intro p hp
      rcases List.mem_singleton.mp hp with rfl
      refine ⟨F9.keep _ _ hoN, fun e => ?_, n9⟩
      have := F9.off
      rw [← show pl = L9 from e, hoN] at this
      cases this
    have eBk9 : Ext Bk B9 := fun a o e => g9 a o (fun q => by rw [q, hBk] at e; cases e) (eBk a o e)
    have G9' : Gd w mg mb B9 := GBk.ext eBk9
    clear F9 hf3 hP3' hO3'
    walk_at "SS"
    refine ldFree (c := L + 1) (v := .bytes b t) (by rfl) (cellK hOB Fa) ?_
    refine PySem.Subscript_Constant ?_
    refine ldFree (c := L + 1 + 1) (v := .ref pl) (by rfl) (cellK hPB Fa) ?_
    walk_at "SS"
    refine item_list_n' (vs := [.int k t']) (k := 0) ⟨oN, (Na _ (.head _)).1, hoN1, hoN2⟩ rfl rfl (by decide) ?_
    walk_at "SS"
    refine PySem.Subscript_Constant ?_
    refine ldFree (c := L + 1 + 1) (v := .ref pl) (by rfl) (cellK hPB Fa) ?_
    walk_at "SS"
    refine item_list_n' (vs := [.int k t']) (k := 0) ⟨oN, (Na _ (.head _)).1, hoN1, hoN2⟩ rfl rfl (by decide) ?_
    walk_at "SS"
    refine item_bytes_slice hk (by omega) rfl rfl hkn ?_
    intro b' t5 h5 k5 hk5 e5 hb'
    have Fb := Fa.ext e5
    have Nb := newsExt Na e5
    clear Fa Na
    walk_at "SS"
    rename Fm _ _ _ _ => Fc
    rename News _ _ _ _ => Nc
    clear Fb Nb
    refine PySem.Subscript_Constant ?_
    refine ldFree (c := L + 1 + 1) (v := .ref pl) (by rfl) (cellK hPB Fc) ?_
    walk_at "SS"
    refine item_list_n' (vs := [.int k t']) (k := 0) ⟨oN, (Nc _ (.head _)).1, hoN1, hoN2⟩ rfl rfl (by decide) ?_
    walk_at "SS"
    have hbl : ((ks.drop k).take n).length = n := by rw [List.length_take, List.length_drop]; omega
    refine KBw.len_K hb' (by rw [hbl]; omega) ?_
    rw [hbl]
    walk_at "SS"
    refine ldFree (c := L + 1 + 1) (v := .ref pl) (by rfl) (cellK hPB Fc) ?_
    walk_at "SS"
    refine wpAny_setItem_list (items := [.int k t'].toArray) ⟨oN, (Nc _ (.head _)).1, hoN1, hoN2⟩ (by decide) (by decide) (by show (0 : Int) < ((1 : Nat) : Int); decide) ?_
    intro h6 hl6 hs6
    have Fd := fmUpd Fc Nc hs6
    walk_at "SS"
    have hbB : ∀ a o, a ≠ pl → s'.heap.get? a = some o → h6.get? a = some o := fun a o hne e => Fd.keep a o (g9 a o hne e)
    refine h' b' t5 (k5 + 1 + 1 + 1 + 1) h6 _ (by walk_at "T") hbB ?_ hb'
    rw [show ((k + n : Nat) : Int) = (k : Int) + n from by omega]
    exact hl6
theorem get_read {w : World} {mg mb} {A : Around} {s : Shared} {E : Value → Shared → Prop} {x dx : Addr} {es : List DictEntry} {n : Nat} {f : Addr} {p : Sem Bool} {Q : Value × List Value → Shared → Prop}
    (G : Gd w mg mb s.heap) (I : InstAt s.heap x (instObj 79 dx) 79 (some (dictOf es n))) (hl : getL (Str.ofString "read") es = some (some (.ref f)))
    (h : Q (.ref f, []) { s with toks := s.toks + 1 }) : wpAny (model PG w) A (getMethod (.ref x) (Str.ofString "read") p) Q E s := by
  refine method_usual (r := none) G.K I (by rfl) (by rfl) (by rfl) (by rfl) ?_
  exact get_value G.K I (by rfl) (findObj_own (attr := none) (by rfl) (by rfl) (by rfl) (by rw [show lookIn (Str.ofString "read") (dictOf es n) = getL (Str.ofString "read") es from lookIn_dict ..]; exact hl)) (by rfl) h

theorem instAt_ext {h h' : Heap} {x dx C : Addr} {es : List DictEntry} {n : Nat} (I : InstAt h x (instObj C dx) C (some (dictOf es n))) (e : Ext h h') : InstAt h' x (instObj C dx) C (some (dictOf es n)) :=
  ⟨e _ _ I.at_, I.cls, I.no, e _ _ I.dict⟩
theorem fnAt_ext {h h' : Heap} {f : Addr} (X : FnAt f h) (e : Ext h h') : FnAt f h' := by
  obtain ⟨oc, od, fd, sl, g⟩ := X
  exact ⟨oc, od, fd, sl, e _ _ g⟩
theorem listAt_ext {h h' : Heap} {a : Addr} {vs : Array Value} (X : h.IsList a vs) (e : Ext h h') : h'.IsList a vs := by
  obtain ⟨o, g, r⟩ := X
  exact ⟨o, e _ _ g, r⟩

/-- f.read(n) told of the heap less the place -/
theorem do_read {w : World} {mg mb} {A : Around} {s : Shared} {E : Value → Shared → Prop} {B B₂ : Heap} {x pl : Addr} {ks : List Int} {k n : Nat} {t : Tok} {env : Env} {m : Str → Option Value} {arg : Expr} {p3 : Pos} {pl? : Sem Bool} {Q : Value → Shared → Prop}
    (S : Stm w mg mb B₂ x pl ks) (e2 : Ext B₂ B) (G : Gd w mg mb B) (F : Fm B env.locals s.heap m) (hB : B.get? pl = none) (hL : env.locals ≠ pl) (hl : s.heap.IsList pl [.int k t].toArray)
    (hh : A.handled = none) (hroom : A.depth < recursionLimit) (hkn : k + n ≤ ks.length)
    (harg : ∀ (Q' : Value → Shared → Prop) (s' : Shared), s'.heap = s.heap → (∀ u k', s'.toks ≤ k' → Q' (.int n u) { s' with toks := k' }) → wpAny (model PG w) A (eval arg env) Q' E s')
    (h : ∀ b' t' t2 h' tk', s.toks ≤ tk' → Fm B env.locals h' m → h'.IsList pl [.int ((k + n : Nat) : Int) t2].toArray → KBw.bInts b' = (ks.drop k).take n → Q (.bytes b' t') { s with heap := h', toks := tk' })
    (hs : starEach [arg] env = (false, eval arg env) :: starEach [] env := by rfl) :
    wpAny (model PG w) A (getMethod (.ref x) (Str.ofString "read") pl?) (fun fx s₂ => wpAny (model PG w) A (callWith p3 fx.1 fx.2 (backTo p3 (starEach [arg] env)) []) Q E s₂) E s := by
  obtain ⟨dx, es, ne, f, I, hg, hf, hT⟩ := S
  refine get_read (F.gd G) (instAt_ext I (e2.trans F.keep)) hg ?_
  refine callWith_F (first := []) (fnAt_ext hf (e2.trans F.keep)) ?_ hs
  refine args_cons (he := hs) ?_
  refine harg _ _ rfl fun u k' hk' => ?_
  refine args_nil ?_
  refine ⟨fnAt_ext hf (e2.trans F.keep), ?_⟩
  refine hT A _ E Q B k n t u (e2.trans F.keep) G F.keep hB hl hh hroom hkn ?_
  intro b' t' t2 h' tk' ht hb hl' hb'
  exact h b' t' t2 h' tk' (Nat.le_trans (Nat.le_succ _) (Nat.le_trans hk' ht)) (F.but hb hB hL) hl' hb'
theorem item_bytes_n {w : World} {A : Around} {s : Shared} {E : Value → Shared → Prop} {b : Array UInt8} {ks : List Int} {t u : Tok} {i : Int} {k : Nat} {Q : Value → Shared → Prop} (hk : KBw.bInts b = ks) (hz : ks.length ≤ 1000000) (hi : i = k) (hkl : k < ks.length)
    (h : ∀ t' k', s.toks ≤ k' → Q (.int ks[k] t') { s with toks := k' }) : ItemOn (model PG w) A E (.bytes b t) (.int i u) Q s := by
  subst hk
  have e : b.toList.toArray = b := Array.toArray_toList
  have hbl := KBw.ints_length b
  have g : wpAny (model PG w) A (getItem (.bytes b.toList.toArray t) (.int i u)) Q E s := by
    refine getItem_bytes (l := b.toList) (by rw [hbl] at hz; simpa using (by omega : b.size ≤ 1099511627776)) (by omega) (by rw [hbl] at hkl; rw [hi, Array.length_toList]; omega) ?_
    have e2 : ((b.toList.getD i.toNat 0).toNat : Int) = (KBw.bInts b)[k] := by
      rw [KBw.getD_ints, hi, Int.toNat_natCast]
      show (KBw.bInts b).getD k 0 = _
      rw [List.getD_eq_getElem?_getD, List.getElem?_eq_getElem hkl]
      rfl
    rw [e2]
    exact h _ _ (Nat.le_succ _)
  rw [e] at g
  exact ⟨"bytes", _, FB.slot_bytes_getitem.lookup, typeIs_bytes _ _ _, g⟩
theorem c_uint1 {w : World} {mg mb} {A : Around} {s : Shared} {E : Value → Shared → Prop} {Q : Value → Shared → Prop} {B B₂ : Heap} {x pl : Addr} {ks : List Int} {k : Nat} {t : Tok}
    (S : Stm w mg mb B₂ x pl ks) (e2 : Ext B₂ B) (G : Gd w mg mb B) (eB : Ext B s.heap) (hB : B.get? pl = none) (hl : s.heap.IsList pl [.int k t].toArray)
    (hh : A.handled = none) (hroom : A.depth + 1 < recursionLimit) (hk : k < ks.length) (hz : ks.length ≤ 100000)
    (h : ∀ t' t2 h' tk', s.toks ≤ tk' → Ext B h' → h'.IsList pl [.int ((k + 1 : Nat) : Int) t2].toArray → Q (.int ks[k] t') { s with heap := h', toks := tk' }) :
    wpAny (model PG w) A (call (.ref 55) [.ref x] []) Q E s := by
  have Gs : Gd w mg mb s.heap := G.ext eB
  refine enterM [(Str.ofString "f", .ref x)] Gs (by rfl) (by rfl) (by omega) (by exact BindsTo.of_eq rfl) (locs rfl) (Nat.zero_lt_succ _) ?_
  intro h₁ L tk₀ htk₀ G₁ F
  have hlL : L ≠ pl := fun e => by
    obtain ⟨o, ho, _⟩ := hl
    have := F.off
    rw [e, ho] at this; cases this
  have hl1 := listAt_ext hl F.keep
  have F1 := F.down eB
  clear F
  walk_at "SS"
  refine do_read (k := k) (n := 1) S e2 G F1 hB hlL hl1 hh (by show A.depth + 1 < _; omega) (by omega) ?_ ?_
  · intro Q' s' hs' hq
    refine wpAny_Constant_int ?_
    exact hq _ _ (Nat.le_succ _)
  intro b' t' t2 h2 tk2 ht2 F2 hl2 hb'
  obtain ⟨o2, ho2, hr2⟩ := hl2
  have N2 : News B L h2 [(pl, o2)] := fun p hp => by rcases List.mem_singleton.mp hp with rfl; exact ⟨ho2, hlL.symm, hB⟩
  clear F1 hl1
  walk_at "SS"
  have hdl : ((ks.drop k).take 1).length = 1 := by rw [List.length_take, List.length_drop]; omega
  refine KBw.truthy_K hb' (by rw [hdl]; decide) ?_
  rw [if_pos (by rw [hdl]; decide)]
  walk_at "SS"
  refine PySem.Subscript_Constant ?_
  walk_at "SS"
  refine item_bytes_n (k := 0) hb' (by omega) rfl (by omega) ?_
  intro t3 k3 hk3
  rename Fm _ _ _ _ => F3
  rename News _ _ _ _ => N3
  have e0 : ((ks.drop k).take 1)[0]'(by omega) = ks[k] := by simp
  rw [e0]
  exact h t3 t2 _ k3 (by walk_at "T") F3.keep ⟨o2, (N3 _ (.head _)).1, hr2⟩
open PySem.Builtin
theorem args_decode_2 (a b : Value) : argsOk "bytes.decode" ⟨[a, b], []⟩ := by
  unfold argsOk; rw [signature?_of (id := "bytes.decode") (n := ['e', 'd', 'o', 'c', 'e', 'd']) (o := ['s', 'e', 't', 'y', 'b']) (by kernel_rfl) FB.owner_bytes]; kernel_rfl
theorem decode_entry {c : UInt8} {cs : List UInt8} {t u : Tok} : «bytes.decode» ⟨[.bytes (c :: cs).toArray t, .str (PySem.Str.ofString "latin-1") u], []⟩ = (mkStr (PySem.Str.ofString "utf-8") >>= fun _ => mkStr (PySem.Str.ofString "latin-1") >>= fun e => mkStr (PySem.Str.ofString "bytes.decode") >>= fun d =>
    call (.builtin "_codecs.decode.text") [.bytes (c :: cs).toArray t, e, .none, d] >>= fun v => ret v) := by kernel_rfl
theorem decode_entry0 {t u : Tok} : «bytes.decode» ⟨[.bytes #[] t, .str (PySem.Str.ofString "latin-1") u], []⟩ = (rule "bytes.decode.empty" >>= fun _ => retStr Str.empty) := by kernel_rfl
theorem road_latin {id : String} {b : Array UInt8} : _codecs.decodeRoad id b (PySem.Str.ofString "latin-1") none [] = (_codecs.runDecoder id _codecs.latin1Decoder none true b 0 [] >>= fun r => mkStr ⟨r.1⟩) := by kernel_rfl

theorem run_key {b : Array UInt8} {F : Type} {st : F} {f : Nat → Nat × Array Nat × F → Sem (ForInStep (Nat × Array Nat × F))}
    (hf : ∀ x p out, p < b.size → out.size ≤ 1000 → f x (p, out, st) = pure (.yield (p + 1, out ++ [(b.getD p 0).toNat].toArray, st))) :
    ∀ (l : List Nat) (p : Nat) (out : Array Nat), p + l.length = b.size → b.size ≤ 1000 → out.size = p → forIn l (p, out, st) f = pure (b.size, out ++ ((b.toList.drop p).map UInt8.toNat).toArray, st)
  | [], p, out, h1, _, _ => by
    have hp : p = b.size := by simpa using h1
    subst hp
    rw [List.forIn_nil, List.drop_of_length_le (by simp)]
    simp
  | a :: l, p, out, h1, h2, h3 => by
    have hp : p < b.size := by rw [← h1, List.length_cons]; omega
    rw [List.forIn_cons, hf a p out hp (by omega), pure_bind]
    show forIn l _ f = _
    rw [run_key hf l (p + 1) _ (by rw [← h1, List.length_cons]; omega) h2 (by simp [h3])]
    have e : b.toList.drop p = b[p] :: b.toList.drop (p + 1) := by
      rw [List.drop_eq_getElem_cons (by simpa using hp)]; rfl
    have e2 : b.getD p 0 = b[p] := by simp [Array.getD, hp]
    rw [e, e2]
    simp
theorem run_latin {id : String} {b : Array UInt8} (hz : b.size ≤ 1000) : _codecs.runDecoder id _codecs.latin1Decoder none true b 0 [] = pure ((b.toList.map UInt8.toNat).toArray, b.size) := by
  unfold _codecs.runDecoder
  simp only [Std.Legacy.Range.forIn_eq_forIn_range', Std.Legacy.Range.size]
  rw [run_key (b := b) ?_ _ 0 #[] (by simp) hz rfl]
  · simp
  · intro x p out hp ho
    have h1 : ¬ out.size > sizeLine := by rw [sizeLine_eq]; omega
    have h2 : ¬ p ≥ b.size := by omega
    simp only [h1, h2, if_false]
    rfl

theorem meets_text_latin {b : Array UInt8} {t : Tok} {t1 t2 : Tok} {d : PySem.Str} (hz : b.size ≤ 1000) :
    Meets («_codecs.decode.text» ⟨[.bytes b t, .str (PySem.Str.ofString "latin-1") t1, .none, .str d t2], []⟩) (fun _ R s => R (.ok (.ret (.str ⟨(b.toList.map UInt8.toNat).toArray⟩ s.toks))) { s with toks := s.toks + 1 }) := by
  refine .of_wp fun prog w A R s h => ?_
  show wpAny _ _ (Bytes.bytesLike _ (.bytes b t) >>= fun r => _) _ _ s
  refine wpAny_bind (wpAny_of_eq KBd.like_eq ?_)
  refine wpAny_bind (wpAny_of_eq KBd.held_eq ?_)
  show wpAny _ _ (_codecs.decodeRoad _ b (PySem.Str.ofString "latin-1") none [] >>= fun v => _) _ _ s
  rw [road_latin, run_latin hz]
  refine wpAny_bind (wpAny_bind (wpAny_pure ?_))
  exact wpAny_mkStr (wpAny_pure ⟨_, rfl, h⟩) (by rw [sizeLine_eq]; show (List.toArray _).size ≤ _; simp; omega)

theorem meets_decode_latin {c : UInt8} {cs : List UInt8} {t u : Tok} (hz : (c :: cs).length ≤ 1000) :
    Meets («bytes.decode» ⟨[.bytes (c :: cs).toArray t, .str (PySem.Str.ofString "latin-1") u], []⟩) (fun _ R s => R (.ok (.ret (.str ⟨((c :: cs).map UInt8.toNat).toArray⟩ (s.toks + 1 + 1 + 1)))) { s with toks := s.toks + 1 + 1 + 1 + 1 }) := by
  refine .of_wp fun prog w A R s h => ?_
  rw [decode_entry]
  refine wpAny_bind (wpAny_mkStr ?_ (by decide))
  refine wpAny_bind (wpAny_mkStr ?_ (by decide))
  refine wpAny_bind (wpAny_mkStr ?_ (by decide))
  exact wpAny_bind (call_function_meets KBd.kind_text KBd.plain_text KBd.entry_text (KBd.args_text _ _ _ _) (meets_text_latin (by simpa using hz)) (wpAny_pure ⟨_, rfl, h⟩))
theorem meets_decode_latin0 {t u : Tok} :
    Meets («bytes.decode» ⟨[.bytes #[] t, .str (PySem.Str.ofString "latin-1") u], []⟩) (fun _ R s => R (.ok (.ret (.str ⟨#[]⟩ s.toks))) { s with toks := s.toks + 1 }) := by
  refine .of_wp fun prog w A R s h => ?_
  rw [decode_entry0]
  refine wpAny_bind (wpAny_rule ?_)
  exact wpAny_bind (wpAny_mkStr (wpAny_pure ⟨_, rfl, h⟩) (by decide))

theorem decode_latin {w : World} {A : Around} {s : Shared} {E : Value → Shared → Prop} {b : Array UInt8} {ks : List Int} {t u : Tok} {Q : Value → Shared → Prop} (hk : KBw.bInts b = ks) (hz : ks.length ≤ 1000)
    (h : ∀ t' k, @LE.le Nat _ s.toks t' → @LT.lt Nat _ t' k → Q (.str (tx (ks.map Int.toNat)) t') { s with toks := k }) :
    wpAny (model PG w) A (call (.builtin "bytes.decode") [.bytes b t, .str (PySem.Str.ofString "latin-1") u]) Q E s := by
  have hbz : b.size ≤ 1000 := by rw [← KBw.ints_length b, hk]; exact hz
  have e : ks.map Int.toNat = b.toList.map UInt8.toNat := by
    rw [← hk]
    show (b.toList.map _).map _ = _
    rw [List.map_map]
    exact List.map_congr_left fun x _ => rfl
  rw [e] at h
  obtain ⟨l, rfl⟩ : ∃ l : List UInt8, b = l.toArray := ⟨b.toList, by simp⟩
  cases l with
  | nil => exact call_meets FB.slot_bytes_decode (typeIs_bytes _ _ _) FB.entry_bytes_decode (args_decode_2 _ _) meets_decode_latin0 (h _ _ (Nat.le_refl _) (Nat.lt_succ_self _))
  | cons c cs => exact call_meets FB.slot_bytes_decode (typeIs_bytes _ _ _) FB.entry_bytes_decode (args_decode_2 _ _) (meets_decode_latin (by simpa using hbz)) (h _ _ (by show @LE.le Nat _ s.toks (s.toks + 1 + 1 + 1); omega) (Nat.lt_succ_self _))
/-- the heap less one thing, as a ground -/
theorem lessPl {w mg mb} {B B₂ h : Heap} {pl : Addr} (G : Gd w mg mb B) (eB : Ext B h) (e2 : Ext B₂ B) (hB : B.get? pl = none) :
    ∃ B', Ext B' h ∧ B'.get? pl = none ∧ Gd w mg mb B' ∧ Ext B₂ B' ∧ (∀ h', Ext B' h' → ∀ b o, b ≠ pl → h.get? b = some o → h'.get? b = some o) ∧ (∀ b o, b ≠ pl → h.get? b = some o → B'.get? b = some o) := by
  have e : Ext B (hideAll h [pl]) := fun b o x => hideAll_get _ (eB b o x) fun hm => by rw [List.mem_singleton.mp hm, hB] at x; cases x
  refine ⟨hideAll h [pl], fun b o x => of_hideAll _ x, hideAll_none _ (.head _), G.ext e, e2.trans e, fun h' x b o hne hb => x b o (hideAll_get _ hb fun hm => hne (List.mem_singleton.mp hm)), fun b o hne hb => hideAll_get _ hb fun hm => hne (List.mem_singleton.mp hm)⟩
set_option maxHeartbeats 1000000 in
theorem c_string1 {w : World} {mg mb} {A : Around} {s : Shared} {E : Value → Shared → Prop} {Q : Value → Shared → Prop} {B B₂ : Heap} {x pl : Addr} {ks : List Int} {k n : Nat} {t : Tok}
    (S : Stm w mg mb B₂ x pl ks) (e2 : Ext B₂ B) (G : Gd w mg mb B) (eB : Ext B s.heap) (hB : B.get? pl = none) (hl : s.heap.IsList pl [.int k t].toArray)
    (hh : A.handled = none) (hroom : A.depth + 2 < recursionLimit) (hk : k < ks.length) (hz : ks.length ≤ 100000) (hn : ks[k] = (n : Int)) (hkn : k + 1 + n ≤ ks.length) (hn2 : n ≤ 1000)
    (h : ∀ t' t2 h' tk', @LT.lt Nat _ s.toks t' → @LT.lt Nat _ t' tk' → Ext B h' → h'.IsList pl [.int ((k + 1 + n : Nat) : Int) t2].toArray → Q (.str (tx (((ks.drop (k + 1)).take n).map Int.toNat)) t') { s with heap := h', toks := tk' }) :
    wpAny (model PG w) A (call (.ref 62) [.ref x] []) Q E s := by
  have Gs : Gd w mg mb s.heap := G.ext eB
  refine enterM [(Str.ofString "f", .ref x)] Gs (by rfl) (by rfl) (by omega) (by exact BindsTo.of_eq rfl) (locs rfl) (Nat.zero_lt_succ _) ?_
  intro h₁ L tk₀ htk₀ G₁ F
  have hlL : L ≠ pl := fun e => by
    obtain ⟨o, ho, _⟩ := hl
    have := F.off
    rw [e, ho] at this; cases this
  have hl1 := listAt_ext hl F.keep
  have F1 := F.down eB
  clear F
  walk_at "SS"
  obtain ⟨B', eB', hB', G', e2', back, _⟩ := lessPl (pl := pl) G F1.keep e2 hB
  refine c_uint1 S e2' G' eB' hB' hl1 (by exact hh) (by show A.depth + 1 + 1 < _; exact hroom) hk hz ?_
  intro tn t3 h2 k2 hk2 eh2 hl2
  have F2 := F1.but (back h2 eh2) hB hlL
  clear F1 hl1
  rw [hn]
  obtain ⟨o2, ho2, hr2⟩ := hl2
  have N2 : News B L h2 [(pl, o2)] := fun p hp => by rcases List.mem_singleton.mp hp with rfl; exact ⟨ho2, hlL.symm, hB⟩
  walk_at "SS"
  rename Fm _ _ _ _ => F3
  rename News _ _ _ _ => N3
  clear F2 N2
  refine wpAny_Assert_new (by exact hh) ?_
  walk_at "SS"
  refine PySem.P.ge_int ?_
  walk_at "SS"
  rw [if_pos (by simp)]
  walk_at "SS"
  refine do_read (k := k + 1) (n := n) S e2 G F3 hB hlL ⟨o2, (N3 _ (.head _)).1, hr2⟩ (by exact hh) (by show A.depth + 1 < _; omega) hkn ?_ ?_
  · intro Q' s' hs' hq
    dsimp only at hs'
    have F3' := F3
    rw [← hs'] at F3'
    refine ldL F3' rfl ?_
    exact hq _ _ (Nat.le_refl _)
  intro b' t' t4 h4 k4 hk4 F4 hl4 hb'
  obtain ⟨o4, ho4, hr4⟩ := hl4
  have N4 : News B L h4 [(pl, o4)] := fun p hp => by rcases List.mem_singleton.mp hp with rfl; exact ⟨ho4, hlL.symm, hB⟩
  clear F3 N3
  walk_at "SS"
  have hdl : ((ks.drop (k + 1)).take n).length = n := by rw [List.length_take, List.length_drop]; omega
  refine KBw.len_K hb' (by rw [hdl]; omega) ?_
  rw [hdl]
  walk_at "SS"
  rw [if_pos (by simp)]
  walk_at "SS"
  refine KBd.method ?_
  walk_at "SS"
  refine decode_latin hb' (by rw [hdl]; exact hn2) ?_
  intro t5 k5 hk5 hk6
  rename Fm _ _ _ _ => F5
  rename News _ _ _ _ => N5
  exact h t5 t4 _ k5 (by
    have a1 : @LT.lt Nat _ s.toks tk₀ := htk₀
    have a2 : @LE.le Nat _ tk₀ k2 := hk2
    have a3 : @LE.le Nat _ (k2 + 1 + 1) k4 := hk4
    have a4 : @LE.le Nat _ (k4 + 1 + 1 + 1 + 1) t5 := hk5
    omega) hk6 F5.keep ⟨o4, (N5 _ (.head _)).1, hr4⟩
section
variable {w : World} {A : Around} {s : Shared} {E : Value → Shared → Prop} {B : Heap} {m : Str → Option Value} {l : List (Addr × Obj)} {env : Env}

/-- [elt for target in a list of the ground] -/
theorem comp_afterT {elt iter target : Expr} {scope : Scope} (cl : List (Str × Addr)) {pos : Pos} {D : Addr} {vs : List Value} {nD : Nat} {Q : Value → Shared → Prop} (J : Nat → Tok → List Value → List (Addr × Obj) → Prop) (mono : ∀ i k k' ys l, k ≤ k' → J i k ys l → J i k' ys l)
    (hcell : ∀ y ∈ scope.names, y.2 ≠ .cell) (hkind : scope.kind = .function)
    (hh : A.handled = none) (hz : vs.length ≤ 100000) (hD : B.get? D = some (listOf vs.toArray nD)) (F : Fm B env.locals s.heap m) (N : News B env.locals s.heap l) (h0 : J 0 s.toks [] l)
    (hgo : ∀ i v (s₁ : Shared) (q : Unit → Shared → Prop) (E' : Value → Shared → Prop), vs[i]? = some v → s₁.heap.IsListIter s.heap.objs.size D (i + 1) → q () s₁ → wpAny (model PG w) A (letOwnedTupleGo target (.ref s.heap.objs.size) v) q E' s₁)
    (step : ∀ i v ys l₁ B' C mC h tk, vs[i]? = some v → s.toks ≤ tk → Ext B B' → Ext B' h → B'.Ns env.locals m → Fm B' C h mC → News B' C h l₁ → l₁.map (·.1) = l.map (·.1) → J i tk ys l₁ →
      wpAny (model PG w) A (assign target (compEnvC scope cl C env) v) (fun _ s₂ => wpAny (model PG w) A (eval elt (compEnvC scope cl C env)) (fun y s₃ =>
        TurnedT B' C l (fun k _ l' => J (i + 1) k (ys ++ [y]) l') { s with heap := h, toks := tk } s₃) (fun _ _ => False) s₂) (fun _ _ => False) { s with heap := h, toks := tk })
    (done : ∀ ys l₁ D' nD' h tk, s.toks ≤ tk → ys.length = vs.length → Fm B env.locals h m → News B env.locals h ((D', listOf (List.toArray ys) nD') :: l₁) → (∀ p ∈ l₁, p.1 ≠ D') → l₁.map (·.1) = l.map (·.1) → J vs.length tk ys l₁ →
      Q (.ref D') { s with heap := h, toks := tk }) :
    wpAny (model PG w) A (pyIter (.ref D)) (fun it s₂ => wpAny (model PG w) A (newList []) (fun acc s₃ => wpAny (model PG w) A (newFunctionEnv scope env.globals cl [] env.qual none .none (some env)) (fun cenv s₄ =>
      codeAny (model PG w) A (.compStart (.ListComp elt [⟨target, iter, [], 0⟩] scope pos) 0 it acc { cenv with scope := relabel scope env }) (compPost (model PG w) A E none Q acc cenv.locals) s₄) E s₃) E s₂) E s := by
  have hDh := F.keep _ _ hD
  have hls : s.heap.IsList D vs.toArray := ⟨_, hDh, rfl, nD, rfl⟩
  have hne : D ≠ s.heap.objs.size := Nat.ne_of_lt (Heap.lt_size hDh)
  have hDL : env.locals ≠ D := fun e => by have := F.off; rw [e, hD] at this; cases this
  have hDl : ∀ p ∈ l, p.1 ≠ D := fun p hp e => by have := (N p hp).2.2; rw [e, hD] at this; cases this
  refine wpAny_pyIter_list hls ?_
  have W := Walks.list (prog := PG) (w := w) hh s.heap.objs.size D hne vs.toArray
  rw [List.size_toArray] at W
  have hst : Heap.IsListIter (s.heap.push { cls := .type "list_iterator", data := .fields #[.ref D, .int 0 0] }) s.heap.objs.size D 0 ∧ Heap.IsList (s.heap.push { cls := .type "list_iterator", data := .fields #[.ref D, .int 0 0] }) D vs.toArray :=
    ⟨⟨_, Heap.get?_push_size _ rfl, rfl, rfl⟩, hls.at fun o e => Heap.get?_push_of_some _ e⟩
  refine comp_genT (s := { s with heap := s.heap.push { cls := .type "list_iterator", data := .fields #[.ref D, .int 0 0] } }) W J mono hcell hkind ?_ ?_ ?_ ?_ ?_ hst (F.push _) (newsExt N (ext_push _ _)) h0 ?_ ?_ ?_
  · rw [sizeLine_eq]
    exact Nat.le_trans hz (by decide)
  · intro hm
    rcases List.mem_cons.mp hm with e | hm
    · exact F.ne_size e.symm
    · exact hDL (List.mem_singleton.mp hm)
  · intro p hp hm
    rcases List.mem_cons.mp hm with e | hm
    · exact absurd (Heap.lt_size (N p hp).1) (e ▸ Nat.lt_irrefl _)
    · exact hDl p hp (List.mem_singleton.mp hm)
  · exact fun b hb => (List.mem_singleton.mp hb) ▸ fresh_size F.keep
  · intro b hb
    show b < (s.heap.push _).objs.size
    rw [Heap.size_push]
    rcases List.mem_cons.mp hb with e | hb
    · rw [e]; exact Nat.lt_succ_self _
    · rw [List.mem_singleton.mp hb]; exact Nat.lt_succ_of_lt (Heap.lt_size hDh)
  · intro i v s₁ q E' hP hs hq
    exact hgo i v s₁ q E' (by simpa using hP) hs.1 hq
  · rintro i v ys l₁ B' C mC h tk hi hv ht e1 e2 eL F1 N1 hl hJ
    exact step i v ys l₁ B' C mC h tk (by simpa using hv) ht e1 e2 eL F1 N1 hl hJ
  · intro ys l₁ D' nD' h tk ht hlen F1 N1 hD' hl hJ _
    exact done ys l₁ D' nD' h tk ht hlen F1 N1 hD' hl hJ
/-- [elt for target in a list of the ground] -/
theorem comp_listT {elt iter target : Expr} {scope : Scope} (cl : List (Str × Addr)) {pos : Pos} {D : Addr} {vs : List Value} {nD : Nat} {Q : Value → Shared → Prop} (J : Nat → Tok → List Value → List (Addr × Obj) → Prop) (mono : ∀ i k k' ys l, k ≤ k' → J i k ys l → J i k' ys l)
    (hclos : closureFor scope env = pure cl) (hcell : ∀ y ∈ scope.names, y.2 ≠ .cell) (hkind : scope.kind = .function) (hnames : ∀ y ∈ scope.names, y.2 = .local → scope.names.lookup y.1 = some .local)
    (hh : A.handled = none) (hz : vs.length ≤ 100000) (hD : B.get? D = some (listOf vs.toArray nD)) (F : Fm B env.locals s.heap m) (N : News B env.locals s.heap l) (h0 : J 0 s.toks [] l)
    (hiter : ∀ Q' : Value → Shared → Prop, Q' (.ref D) s → wpAny (model PG w) A (eval iter env) Q' E s)
    (hgo : ∀ i v (s₁ : Shared) (q : Unit → Shared → Prop) (E' : Value → Shared → Prop), vs[i]? = some v → s₁.heap.IsListIter s.heap.objs.size D (i + 1) → q () s₁ → wpAny (model PG w) A (letOwnedTupleGo target (.ref s.heap.objs.size) v) q E' s₁)
    (step : ∀ i v ys l₁ B' C mC h tk, vs[i]? = some v → s.toks ≤ tk → Ext B B' → Ext B' h → B'.Ns env.locals m → Fm B' C h mC → News B' C h l₁ → l₁.map (·.1) = l.map (·.1) → J i tk ys l₁ →
      wpAny (model PG w) A (assign target (compEnvC scope cl C env) v) (fun _ s₂ => wpAny (model PG w) A (eval elt (compEnvC scope cl C env)) (fun y s₃ =>
        TurnedT B' C l (fun k _ l' => J (i + 1) k (ys ++ [y]) l') { s with heap := h, toks := tk } s₃) (fun _ _ => False) s₂) (fun _ _ => False) { s with heap := h, toks := tk })
    (done : ∀ ys l₁ D' nD' h tk, s.toks ≤ tk → ys.length = vs.length → Fm B env.locals h m → News B env.locals h ((D', listOf (List.toArray ys) nD') :: l₁) → (∀ p ∈ l₁, p.1 ≠ D') → l₁.map (·.1) = l.map (·.1) → J vs.length tk ys l₁ →
      Q (.ref D') { s with heap := h, toks := tk })
    (hs : ∀ x, foldedSetIterable iter env x = pure x := by intro _; rfl) :
    wpAny (model PG w) A (eval (.ListComp elt [⟨target, iter, [], 0⟩] scope pos) env) Q E s := by
  rw [eval_ListComp]
  refine wpAny_comprehension_free (use := none) rfl hs hclos hkind hnames (hiter _ ?_)
  exact comp_afterT cl J mono hcell hkind hh hz hD F N h0 hgo step done
/-- [elt for target in a list of the ground] -/
theorem comp_list {elt iter target : Expr} {scope : Scope} (cl : List (Str × Addr)) {pos : Pos} {D : Addr} {vs : List Value} {nD : Nat} {Q : Value → Shared → Prop} (J : Nat → List Value → List (Addr × Obj) → Prop)
    (hclos : closureFor scope env = pure cl) (hcell : ∀ y ∈ scope.names, y.2 ≠ .cell) (hkind : scope.kind = .function) (hnames : ∀ y ∈ scope.names, y.2 = .local → scope.names.lookup y.1 = some .local)
    (hh : A.handled = none) (hz : vs.length ≤ 100000) (hD : B.get? D = some (listOf vs.toArray nD)) (F : Fm B env.locals s.heap m) (N : News B env.locals s.heap l) (h0 : J 0 [] l)
    (hiter : ∀ Q' : Value → Shared → Prop, Q' (.ref D) s → wpAny (model PG w) A (eval iter env) Q' E s)
    (hgo : ∀ i v (s₁ : Shared) (q : Unit → Shared → Prop) (E' : Value → Shared → Prop), vs[i]? = some v → s₁.heap.IsListIter s.heap.objs.size D (i + 1) → q () s₁ → wpAny (model PG w) A (letOwnedTupleGo target (.ref s.heap.objs.size) v) q E' s₁)
    (step : ∀ i v ys l₁ B' C mC h tk, vs[i]? = some v → s.toks ≤ tk → Ext B B' → Ext B' h → B'.Ns env.locals m → Fm B' C h mC → News B' C h l₁ → l₁.map (·.1) = l.map (·.1) → J i ys l₁ →
      wpAny (model PG w) A (assign target (compEnvC scope cl C env) v) (fun _ s₂ => wpAny (model PG w) A (eval elt (compEnvC scope cl C env)) (fun y s₃ =>
        Turned B' C l (fun _ l' => J (i + 1) (ys ++ [y]) l') { s with heap := h, toks := tk } s₃) (fun _ _ => False) s₂) (fun _ _ => False) { s with heap := h, toks := tk })
    (done : ∀ ys l₁ D' nD' h tk, s.toks ≤ tk → ys.length = vs.length → Fm B env.locals h m → News B env.locals h ((D', listOf (List.toArray ys) nD') :: l₁) → (∀ p ∈ l₁, p.1 ≠ D') → l₁.map (·.1) = l.map (·.1) → J vs.length ys l₁ →
      Q (.ref D') { s with heap := h, toks := tk })
    (hs : ∀ x, foldedSetIterable iter env x = pure x := by intro _; rfl) :
    wpAny (model PG w) A (eval (.ListComp elt [⟨target, iter, [], 0⟩] scope pos) env) Q E s := comp_listT cl (fun i _ ys l => J i ys l) (fun _ _ _ _ _ _ x => x) hclos hcell hkind hnames hh hz hD F N h0 hiter hgo step done hs
end
/-- texts of their own, each below k -/
def Toks (k : Tok) (vs : List Value) : Prop := (∀ v ∈ vs, ∃ x t, v = .str x t ∧ @LT.lt Nat _ 0 t ∧ @LT.lt Nat _ t k) ∧ vs.Pairwise fun a b => ∀ x t y u, a = .str x t → b = .str y u → t ≠ u
theorem Toks.nil {k : Tok} : Toks k [] := ⟨fun _ h => (nomatch h), .nil⟩
theorem Toks.up {k k' : Tok} {vs : List Value} (h : Toks k vs) (l : @LE.le Nat _ k k') : Toks k' vs :=
  ⟨fun v hv => by obtain ⟨x, t, a, b, c⟩ := h.1 v hv; exact ⟨x, t, a, b, Nat.lt_of_lt_of_le c l⟩, h.2⟩
theorem Toks.snoc {k k' : Tok} {vs : List Value} {y : Str} {t : Tok} (h : Toks k vs) (h0 : @LT.lt Nat _ 0 t) (h1 : @LE.le Nat _ k t) (h2 : @LT.lt Nat _ t k') : Toks k' (vs ++ [.str y t]) := by
  refine ⟨fun v hv => ?_, List.pairwise_append.mpr ⟨h.2, List.pairwise_singleton _ _, fun a ha b hb => ?_⟩⟩
  · rcases List.mem_append.mp hv with hv | hv
    · obtain ⟨x, u, a, b, c⟩ := h.1 v hv
      exact ⟨x, u, a, b, Nat.lt_of_lt_of_le c (Nat.le_of_lt (Nat.lt_of_le_of_lt h1 h2))⟩
    · exact ⟨y, t, List.mem_singleton.mp hv, h0, h2⟩
  · obtain ⟨x, u, rfl, b', c⟩ := h.1 a ha
    intro x' t' y' u' e1 e2
    rw [List.mem_singleton.mp hb] at e2
    injection e1 with _ e1
    injection e2 with _ e2
    rw [← e1, ← e2]
    exact Nat.ne_of_lt (Nat.lt_of_lt_of_le c h1)
/-- the octets of a text as signs, and the items of a stream -/
def octN (l : List Nat) : List Nat := (octs l).map Int.toNat
def encS (xs : List Str) : List Int := xs.flatMap fun x => ((octs (lst x)).length : Int) :: octs (lst x)
theorem encS_take {xs : List Str} {i : Nat} {x : Str} (h : xs[i]? = some x) : encS (xs.take (i + 1)) = encS (xs.take i) ++ (((octs (lst x)).length : Int) :: octs (lst x)) := by
  rw [List.take_add_one, h]
  simp [encS]
theorem encS_at {xs : List Str} {i : Nat} {x : Str} (h : xs[i]? = some x) : ∃ r, encS xs = encS (xs.take i) ++ (((octs (lst x)).length : Int) :: (octs (lst x) ++ r)) := by
  have hi : i < xs.length := (List.getElem?_eq_some_iff.mp h).1
  refine ⟨encS (xs.drop (i + 1)), ?_⟩
  have e : xs = xs.take i ++ x :: xs.drop (i + 1) := by
    have e1 : xs[i] = x := by rw [List.getElem?_eq_getElem hi] at h; exact Option.some.inj h
    rw [← e1, ← List.drop_eq_getElem_cons hi, List.take_append_drop]
  show (xs.flatMap _) = _
  conv => lhs; rw [e]
  rw [List.flatMap_append, List.flatMap_cons]
  simp [encS]
theorem newsSnoc {B h : Heap} {L a : Addr} {o : Obj} {l : List (Addr × Obj)} (N : News B L h l) (ho : h.get? a = some o) (hL : a ≠ L) (hB : B.get? a = none) : News B L h (l ++ [(a, o)]) := by
  intro p hp
  rcases List.mem_append.mp hp with hp | hp
  · exact N p hp
  · rcases List.mem_singleton.mp hp with rfl
    exact ⟨ho, hL, hB⟩
theorem newsLess {B h : Heap} {L : Addr} {l r : List (Addr × Obj)} (N : News B L h (l ++ r)) : News B L h l := fun p hp => N p (List.mem_append_left _ hp)
theorem oct1_eq (n : Nat) : oct1 n = if n < 128 then [(n : Int)] else if n < 2048 then [((192 + n / 64 : Nat) : Int), ((128 + n % 64 : Nat) : Int)] else [((224 + n / 4096 : Nat) : Int), ((128 + n / 64 % 64 : Nat) : Int), ((128 + n % 64 : Nat) : Int)] := by
  have f1 : ∀ (k m : Nat), 0 < m → (k : Int).fdiv (m : Int) = ((k / m : Nat) : Int) := fun k m h => by rw [Int.fdiv_eq_ediv_of_nonneg _ (by omega)]; rfl
  have f2 : ∀ (k m : Nat), 0 < m → (k : Int).fmod (m : Int) = ((k % m : Nat) : Int) := fun k m h => by rw [Int.fmod_eq_emod_of_nonneg _ (by omega)]; rfl
  have g1 := f1 n 64 (by decide)
  have g2 := f1 n 4096 (by decide)
  have g3 := f2 n 64 (by decide)
  have g4 := f2 (n / 64) 64 (by decide)
  unfold oct1
  by_cases c1 : n < 128
  · rw [if_pos (by omega), if_pos c1]
  rw [if_neg (by omega), if_neg c1]
  by_cases c2 : n < 2048
  · rw [if_pos (by omega), if_pos c2]
    rw [show (n : Int).fdiv 64 = _ from g1, show (n : Int).fmod 64 = _ from g3]
    simp
  rw [if_neg (by omega), if_neg c2]
  rw [show (n : Int).fdiv 64 = _ from g1, show (n : Int).fmod 64 = _ from g3, show (n : Int).fdiv 4096 = _ from g2, show ((n / 64 : Nat) : Int).fmod 64 = _ from g4]
  simp
theorem octs_rng (l : List Nat) (hl : ∀ c ∈ l, c < 65536) : ∀ n ∈ octs l, 0 ≤ n ∧ n < 256 := by
  intro n hn
  obtain ⟨c, hc, hn⟩ := List.mem_flatMap.mp hn
  have hc := hl c hc
  rw [oct1_eq] at hn
  split at hn
  · rcases List.mem_singleton.mp hn with rfl
    omega
  · split at hn
    · simp only [List.mem_cons, List.not_mem_nil, or_false] at hn
      rcases hn with rfl | rfl <;> omega
    · simp only [List.mem_cons, List.not_mem_nil, or_false] at hn
      rcases hn with rfl | rfl | rfl <;> omega
theorem encS_rng {xs : List Str} (hx : ∀ x ∈ xs, (octs (lst x)).length < 256 ∧ ∀ c ∈ lst x, c < 65536) : ∀ n ∈ encS xs, 0 ≤ n ∧ n < 256 := by
  intro n hn
  obtain ⟨x, hx1, hx2⟩ := List.mem_flatMap.mp hn
  rcases List.mem_cons.mp hx2 with rfl | h
  · have := (hx x hx1).1; omega
  · exact octs_rng _ (hx x hx1).2 n h
theorem strsAre_get {vs : List Value} {xs : List Str} (h : StrsAre vs xs) {i : Nat} {v : Value} (hv : vs[i]? = some v) : ∃ x t, xs[i]? = some x ∧ v = .str x t := by
  induction h generalizing i with
  | nil => cases hv
  | cons y t _ ih =>
    cases i with
    | zero => cases hv; exact ⟨_, _, rfl, rfl⟩
    | succ i => exact ih hv
theorem encS_len {xs : List Str} (hx : ∀ x ∈ xs, (octs (lst x)).length < 256) : (encS xs).length ≤ 256 * xs.length := by
  induction xs with
  | nil => exact Nat.le_refl _
  | cons a r ih =>
    have h1 := hx a (.head _)
    have h2 := ih fun x hx' => hx x (.tail _ hx')
    show ((a :: r).flatMap _).length ≤ _
    rw [List.flatMap_cons, List.length_append, List.length_cons, List.length_cons]
    have h3 : (r.flatMap fun x => ((octs (lst x)).length : Int) :: octs (lst x)).length ≤ 256 * r.length := h2
    omega
set_option maxHeartbeats 2000000 in
theorem c_read_all {w : World} {mg mb} {loose mean} {A : Around} {s : Shared} {E : Value → Shared → Prop} {Q : Value → Shared → Prop} {B₀ : Heap} {a : Addr} {vs : List Value} {xs : List Str} {nv : Nat}
    (e₀ : Ext B₀ s.heap) (G : Gd w mg mb B₀) (T : Top topProg loose mean mg mb B₀) (h85 : B₀.get? 85 = none) (hs85 : s.heap.get? 85 = some (tabObj #[]))
    (hh : A.handled = none) (hroom : A.depth + 3 < recursionLimit) (ha : s.heap.get? a = some (listOf vs.toArray nv)) (ha85 : a ≠ 85) (hi : StrsAre vs xs) (hz : xs.length ≤ 50) (hx : ∀ x ∈ xs, (octs (lst x)).length < 256 ∧ x.length ≤ 1000 ∧ ∀ c ∈ lst x, c < 65536)
    (h : ∀ D ys n h' tk' ps85, s.toks ≤ tk' → (∀ b o, b ≠ 85 → s.heap.get? b = some o → h'.get? b = some o) → h'.get? 85 = some (tabObj ps85) → s.heap.get? D = none → h'.get? D = some (listOf (List.toArray ys) n) → StrsAre ys (xs.map fun x => tx (octN (lst x))) → Toks tk' ys → Q (.ref D) { s with heap := h', toks := tk' }) :
    wpAny (model PG w) A (call (.ref 109) [.ref a] []) Q E s := by
  have Gs : Gd w mg mb s.heap := G.ext e₀
  refine enterC' [(Str.ofString "texts", .ref a)] Gs (by rfl) (by rfl) (by omega) (by exact BindsTo.of_eq rfl) (by rfl) (by decide) ?_
  intro h₁ L tk₀ cells hL htk₀ G₁ F N Y
  obtain ⟨oS, rfl, hS⟩ := CellsAre.one Y
  clear Y
  obtain ⟨B, hB⟩ : ∃ B, B = hideAll s.heap [85] := ⟨_, rfl⟩
  have eB : Ext B s.heap := fun b o e => by rw [hB] at e; exact of_hideAll _ e
  have hB85 : B.get? 85 = none := by rw [hB]; exact hideAll_none _ (.head _)
  have gB : ∀ b o, b ≠ 85 → s.heap.get? b = some o → B.get? b = some o := fun b o hne e => by rw [hB]; exact hideAll_get _ e fun hm => hne (List.mem_singleton.mp hm)
  have e0B : Ext B₀ B := fun b o e => gB b o (fun q => by rw [q, h85] at e; cases e) (e₀ _ _ e)
  have GB : Gd w mg mb B := G.ext e0B
  have TB := T.keeps e0B
  have hL85 : (85 : Addr) ≠ L := fun e => by have := F.off; rw [← e, hs85] at this; cases this
  have hS85 : L + 1 ≠ 85 := fun e => by
    have := (N (L + 1, oS) (.head _)).2.2
    rw [show L + 1 = 85 from e, hs85] at this; cases this
  have N0 : News B L h₁ [(L + 1, oS), (85, tabObj #[])] := by
    have N' := newsDown N eB
    intro p hp
    rcases List.mem_cons.mp hp with rfl | hp
    · exact N' _ (.head _)
    rcases List.mem_singleton.mp hp with rfl
    exact ⟨F.keep _ _ hs85, hL85, hB85⟩
  have F0 := F.down eB
  clear F N
  walk_at "SS"
  refine push_w F0 N0 rfl ?_
  intro h2 F2 N2 e2 hneD
  change News B _ h2 ((h₁.objs.size, listOf ([] : List Value).toArray 0) :: _) at N2
  generalize h₁.objs.size = D at *
  clear F0 N0
  walk_at "SS"
  rename Fm _ _ _ _ => F3
  rename News _ _ _ _ => N3
  clear F2 N2
  refine wpAny_For ?_ (by intro _; rfl)
  walk_at "SS"
  refine for_list hh (fun i m l => m (Str.ofString "octets") = some (.ref D) ∧ m (Str.ofString "texts") = some (.ref a) ∧ ∃ acc n, l = [(D, listOf (List.toArray acc) n), (L + 1, oS), (85, tabObj #[])] ∧ IntsAre acc (encS (xs.take i))) (gB a _ ha85 ha) F3 N3 ⟨rfl, rfl, [], 0, rfl, .nil⟩ ?_ ?_ ?_
  · intro i v s₁ q E' hv hi hq
    exact wpAny_of_eq rfl hq
  · rintro i v m₁ l₁ B' h' tk hv ht e3 e4 F4 N4 hl4 ⟨hm1, hm2, acc, n, rfl, hacc⟩
    refine wpAny_post2 fun Qa hQa => ?_
    obtain ⟨x, tx', hxi, rfl⟩ := strsAre_get hi hv
    have hxm : x ∈ xs := List.mem_of_getElem? hxi
    have G' : Gd w mg mb B' := GB.ext e3
    clear F3 N3 hl4
    refine wpAny_assign_Name ?_
    walk_at "SS"
    rename Fm _ _ _ _ => F5
    rename News _ _ _ _ => N5
    clear F4 N4
    refine c_octets (F5.gd G') (by exact hh) (by show A.depth + 1 < _; omega) (by have := (hx x hxm).2.1; omega) ?_
    intro D' vs' n' h6 tk6 ht6 e6 hD'0 hD' hvs'
    have F6 := F5.ext e6
    have hD'L : D' ≠ L := fun e => by
      obtain ⟨o, _, _, ho, _⟩ := F5.ns
      exact absurd (hD'0.symm.trans (e ▸ ho)) (by intro h; cases h)
    have hD'B : B'.get? D' = none := by
      cases q : B'.get? D' with
      | none => rfl
      | some o => have := F5.keep _ _ q; rw [hD'0] at this; cases this
    have N6 := newsSnoc (newsExt N5 e6) hD' hD'L hD'B
    have hneD' : ∀ p ∈ ([(L + 1, oS), (85, tabObj #[])] ++ [(D', listOf (List.toArray vs') n')] : List (Addr × Obj)), p.1 ≠ D := by
      intro p hp
      rcases List.mem_append.mp hp with hp | hp
      · exact hneD p hp
      · rcases List.mem_singleton.mp hp with rfl
        intro e
        have := (N5 _ (.head _)).1
        rw [← show D' = D from e, hD'0] at this; cases this
    clear F5 N5
    walk_at "SS"
    rename Fm _ _ _ _ => F7
    rename News _ _ _ _ => N7
    clear F6 N6
    have hacl : acc.length ≤ 12800 := by
      rw [hacc.length]
      have := encS_len (xs := xs.take i) fun x hx' => (hx x (List.mem_of_mem_take hx')).1
      rw [List.length_take] at this
      omega
    have hvl : vs'.length < 256 := by rw [hvs'.length]; exact (hx x hxm).1
    change News B' _ _ ((D, listOf (List.toArray acc) n) :: ([(L + 1, oS), (85, tabObj #[])] ++ [(D', listOf (List.toArray vs') n')])) at N7
    refine meth_list (N7 _ (.head _)).1 PySem.F.slot_list_append PySem.F.type_list_append ?_
    walk_at "SS"
    refine len_list (items := vs'.toArray) ⟨_, (N7 (D', listOf (List.toArray vs') n') (.tail _ (List.mem_append_right _ (.head _)))).1, rfl, n', rfl⟩ (by rw [List.size_toArray]; omega) ?_
    walk_at "SS"
    refine append_x F7 N7 hneD' (by omega) ?_
    intro h8 n8 F8 N8
    clear F7 N7
    walk_at "SS"
    refine meth_list (N8 _ (.head _)).1 PySem.F.slot_list_extend PySem.F.type_list_extend ?_
    walk_at "SS"
    refine extend_x F8 N8 hneD' (N8 (D', listOf (List.toArray vs') n') (.tail _ (List.mem_append_right _ (.head _)))).1 (by rw [List.length_append, List.length_singleton]; omega) ?_
    intro h9 n9 F9 N9
    clear F8 N8
    walk_at "SS"
    have N10 : News B' L h9 [(D, listOf (List.toArray ((acc ++ [.int (vs'.toArray.size : Nat) (tk6 + 1 + 1)]) ++ vs')) n9), (L + 1, oS), (85, tabObj #[])] := fun p hp => N9 p (by
      rcases List.mem_cons.mp hp with rfl | hp
      · exact .head _
      · exact .tail _ (List.mem_append_left _ hp))
    refine hQa _ _ ?_
    refine Turned.mk (by walk_at "T") F9 N10 rfl ⟨hm1, hm2, _, n9, rfl, ?_⟩
    rw [encS_take hxi, List.append_assoc]
    refine hacc.append ?_
    have e1 : ((vs'.toArray.size : Nat) : Int) = ((octs (lst x)).length : Int) := by rw [List.size_toArray, hvs'.length]; rfl
    rw [e1]
    exact .cons _ _ hvs'
  · rintro m₁ l₁ h' tk ht F4 N4 hl4 ⟨hm1, hm2, acc, n, rfl, hacc⟩
    clear F3 N3 hl4
    rw [hi.length, List.take_of_length_le (Nat.le_refl _)] at hacc
    walk_at "SS"
    have hks : (encS xs).length ≤ 12800 := by
      have := encS_len (xs := xs) fun x hx' => (hx x hx').1
      omega
    have hrng := encS_rng (xs := xs) fun x hx' => ⟨(hx x hx').1, (hx x hx').2.2⟩
    refine wpAny_with_toks (n := tk) (Nat.le_refl _) (call_bytes_ints (ns := encS xs) ⟨_, (N4 _ (.head _)).1, rfl, n, rfl⟩ hacc hrng (by rw [hacc.length, sizeLine_eq]; omega) (by exact hh) ?_)
    intro h5 tb k5 e5 hk5
    have F5 := F4.ext e5
    have N5 := newsExt N4 e5
    clear F4 N4
    walk_at "SS"
    refine c_stream (ks := encS xs) (KBa.ints_make hrng) (by omega) (e0B.trans F5.keep) G T h85 (N5 (85, _) (.tail _ (.tail _ (.head _)))).1 (by exact hh) (by show A.depth + 1 + 2 < _; exact hroom) ?_
    intro x pl h6 tk6 B₂ ps85 tp htk6 back6 h685 eB₂ hB₂pl hpl6 hB₂old S hl6
    obtain ⟨o85, hq85⟩ : ∃ o, o = tabObj ps85 := ⟨_, rfl⟩
    rw [← hq85] at h685
    have hD85 : D ≠ 85 := (hneD (85, tabObj #[]) (.tail _ (.head _))).symm
    have hDS : D ≠ L + 1 := (hneD (L + 1, oS) (.head _)).symm
    have F6 := F5.but back6 hB85 hL85.symm
    obtain ⟨oLL, _, _, hoLL, _⟩ := F5.ns
    have plne : ∀ b o, h5.get? b = some o → b ≠ pl := fun b o e q => by rw [q, hpl6] at e; cases e
    obtain ⟨oL, hoL, hrL⟩ := hl6
    have N6 : News B L h6 [(pl, oL), (D, listOf (List.toArray acc) n), (L + 1, oS), (85, o85)] := by
      intro p hp
      rcases List.mem_cons.mp hp with rfl | hp
      · refine ⟨hoL, (plne L _ hoLL).symm, ?_⟩
        cases q : B.get? pl with
        | none => rfl
        | some o => exact absurd rfl (plne pl o (F5.keep _ _ q))
      rcases List.mem_cons.mp hp with rfl | hp
      · have := N5 (D, _) (.head _)
        exact ⟨back6 _ _ hD85 this.1, this.2⟩
      rcases List.mem_cons.mp hp with rfl | hp
      · have := N5 (L + 1, _) (.tail _ (.head _))
        exact ⟨back6 _ _ hS85 this.1, this.2⟩
      rcases List.mem_singleton.mp hp with rfl
      exact ⟨h685, hL85, hB85⟩
    obtain ⟨B3, eB3, eH3, F6', N6', ap⟩ := ground F6 N6
    have e23 : Ext B₂ B3 := by
      intro b o hb
      have nn : ∀ c oc, h5.get? c = some oc → c ≠ b := fun c oc e q => by
        have := hB₂old c oc e
        rw [q, hb] at this; cases this
      refine ap b (nn L _ hoLL).symm ?_ o (eB₂ b o hb)
      intro p hp
      rcases List.mem_cons.mp hp with rfl | hp
      · intro q; rw [← show pl = b from q, hB₂pl] at hb; cases hb
      rcases List.mem_cons.mp hp with rfl | hp
      · exact nn D _ (N5 (D, _) (.head _)).1
      rcases List.mem_cons.mp hp with rfl | hp
      · exact nn (L + 1) _ (N5 (L + 1, _) (.tail _ (.head _))).1
      rcases List.mem_singleton.mp hp with rfl
      exact nn 85 _ (N5 (85, _) (.tail _ (.tail _ (.head _)))).1
    have plS : pl ≠ L + 1 := (plne (L + 1) _ (N5 (L + 1, oS) (.tail _ (.head _))).1).symm
    have plD : D ≠ pl := plne D _ (N5 (D, _) (.head _)).1
    have pl85 : (85 : Addr) ≠ pl := plne 85 _ (N5 (85, _) (.tail _ (.tail _ (.head _)))).1
    clear F5 N5 F6 N6
    refine stCell (own := [(pl, oL), (D, listOf (List.toArray acc) n)]) (c := L + 1) (rest := [(85, o85)]) F6' N6' (by rfl) hS ?_ ?_ ?_
    · intro p hp
      rcases List.mem_cons.mp hp with rfl | hp
      · exact plS
      rcases List.mem_singleton.mp hp with rfl
      exact hDS
    · intro p hp
      rcases List.mem_singleton.mp hp with rfl
      exact hS85.symm
    intro h7 oS' hS' F7 N7
    clear F6' N6'
    walk_at "SS"
    refine comp_listT [(Str.ofString "stream", L + 1)] (fun k kt ys l => Toks kt ys ∧ StrsAre ys ((xs.take k).map fun x => tx (octN (lst x))) ∧ ∃ o t, l = [(pl, o), (D, listOf (List.toArray acc) n), (L + 1, oS'), (85, o85)] ∧ o.cls = .type "list" ∧ ∃ ne, o.data = .seq [.int ((encS (xs.take k)).length : Nat) t].toArray ne) (fun _ _ _ _ _ hk x => ⟨x.1.up hk, x.2⟩) (by rfl) (by decide) (by rfl) (by decide) (by exact hh) (by rw [hi.length]; omega) (eB3 a _ (gB a _ ha85 ha)) F7 N7 ⟨.nil, .nil, oL, tp, rfl, hrL.1, hrL.2⟩ ?_ ?_ ?_ ?_
    · intro Q' hq
      refine ldL F7 hm2 hq
    · intro i v s₁ q E' hv hi hq
      exact wpAny_of_eq rfl hq
    · rintro k v ys l₁ B' C mC h' tk' hv htk' e4 e5' eL F8 N8 hl8 ⟨htok, hys, o, t, rfl, hoc, ne, hod⟩
      refine wpAny_post2 fun Qb hQb => ?_
      obtain ⟨x', tx', hxi, rfl⟩ := strsAre_get hi hv
      have hxm : x' ∈ xs := List.mem_of_getElem? hxi
      refine wpAny_assign_Name ?_
      have G' : Gd w mg mb B' := GB.ext (eB3.trans e4)
      walk_at "SS"
      rename Fm _ _ _ _ => F9
      rename News _ _ _ _ => N9
      clear F8 N8
      refine ldCell (c := L + 1) (v := .ref x) (by rfl) ⟨oS', (N9 (L + 1, oS') (.tail _ (.tail _ (.head _)))).1, hS'⟩ ?_
      walk_at "SS"
      have hpl9 := N9 (pl, o) (.head _)
      obtain ⟨r, hr⟩ := encS_at hxi
      have hol : (octs (lst x')).length < 256 := (hx x' hxm).1
      have hlen : (encS xs).length = (encS (xs.take k)).length + 1 + (octs (lst x')).length + r.length := by
        rw [hr, List.length_append, List.length_cons, List.length_append]; omega
      obtain ⟨B'', eB'', hB'', G'', e2'', back9, _⟩ := lessPl (pl := pl) (B₂ := B₂) G' F9.keep (e23.trans e4) hpl9.2.2
      refine c_string1 (k := (encS (xs.take k)).length) (n := (octs (lst x')).length) S e2'' G'' eB'' hB'' ⟨o, hpl9.1, hoc, ne, hod⟩ (by exact hh) (by show A.depth + 1 + 2 < _; exact hroom) (by omega) (by omega) ?_ (by omega) (by omega) ?_
      · rw [List.getElem_of_eq hr, List.getElem_append_right (Nat.le_refl _)]
        simp
      intro t' t2 h10 k10 hk10 hk11 e10 hl10
      obtain ⟨o10, ho10, hc10, hd10⟩ := hl10
      have hCpl : C ≠ pl := hpl9.2.1.symm
      have F10 := F9.but (back9 h10 e10) hpl9.2.2 hCpl
      have N10 : News B' C h10 [(pl, o10), (D, listOf (List.toArray acc) n), (L + 1, oS'), (85, o85)] := by
        intro p hp
        rcases List.mem_cons.mp hp with rfl | hp
        · exact ⟨ho10, hpl9.2⟩
        rcases List.mem_cons.mp hp with rfl | hp
        · have := N9 (D, _) (.tail _ (.head _))
          exact ⟨back9 h10 e10 _ _ plD this.1, this.2⟩
        rcases List.mem_cons.mp hp with rfl | hp
        · have := N9 (L + 1, _) (.tail _ (.tail _ (.head _)))
          exact ⟨back9 h10 e10 _ _ plS.symm this.1, this.2⟩
        rcases List.mem_singleton.mp hp with rfl
        have := N9 (85, _) (.tail _ (.tail _ (.tail _ (.head _))))
        exact ⟨back9 h10 e10 _ _ pl85 this.1, this.2⟩
      have b1 : @LE.le Nat _ (tk' + 1) _ := Nat.le_of_lt hk10
      refine hQb _ _ ?_
      refine TurnedT.mk (by have b2 := hk11; show @LE.le Nat _ _ k10; dsimp only at *; omega) F10 N10 rfl ⟨htok.snoc (by omega) (by omega) hk11, ?_, o10, t2, rfl, hc10, ?_⟩
      · have e1 : (((encS xs).drop ((encS (xs.take k)).length + 1)).take (octs (lst x')).length).map Int.toNat = octN (lst x') := by
          rw [hr, ← List.drop_drop, List.drop_left, List.drop_one, List.tail_cons, List.take_left]
          rfl
        rw [e1, List.take_add_one, hxi]
        rw [Option.toList_some, List.map_append]
        exact strsAre_snoc hys _ _
      · obtain ⟨ne2, hd10⟩ := hd10
        refine ⟨ne2, ?_⟩
        have e2 : (encS (xs.take (k + 1))).length = (encS (xs.take k)).length + 1 + (octs (lst x')).length := by
          rw [encS_take hxi, List.length_append, List.length_cons]; omega
        rw [e2]
        exact hd10
    · rintro ys l₁ D5 n5 h' tk' htk' hyl F8 N8 hD5 hl8 ⟨htok, hys, o, t, rfl, hoc, ne, hod⟩
      rw [hi.length, List.take_of_length_le (Nat.le_refl _)] at hys
      walk_at "SS"
      have hD5' := N8 (D5, listOf (List.toArray ys) n5) (.head _)
      have hD585 : D5 ≠ 85 := (hD5 (85, o85) (.tail _ (.tail _ (.tail _ (.head _))))).symm
      refine h D5 ys n5 h' _ ps85 (by walk_at "T") ?_ (by rw [← hq85]; exact (N8 (85, o85) (.tail _ (.tail _ (.tail _ (.tail _ (.head _)))))).1) ?_ hD5'.1 hys htok
      · intro b o' hb hbo
        exact F8.keep b o' (eB3 b o' (gB b o' hb hbo))
      · cases q : s.heap.get? D5 with
        | none => rfl
        | some o' => have := eB3 _ _ (gB D5 o' hD585 q); rw [hD5'.2.2] at this; cases this
/-- a zip whose own pair is given out and kept -/
abbrev ZipOut (h : Heap) (z TI TO T : Addr) (f : Bool) : Prop :=
  h.get? z = some { cls := .type "zip", dict := none, data := .fields #[rawInt T, .bool f, .bool false, .ref TI, .ref TO], slots := #[] }
section
variable {prog : Program} {w : World} {A : Around} {E : Value → Shared → Prop} {s : Shared}
theorem owned_out {z TI TO T : Addr} {f : Bool} {oT : Obj} {Q : Bool → Shared → Prop} (hz : ZipOut s.heap z TI TO T f) (hT : s.heap.get? T = some oT)
    (h : ∀ h', ZipOut h' z TI TO T true → Heap.SameBut z s.heap h' → Q false { s with heap := h' }) :
    wpAny (model prog w) A (Builtin.SmallTypes.ownedTupleIsFree (.ref z)) Q E s := by
  unfold Builtin.SmallTypes.ownedTupleIsFree
  refine wpAny_bind (wpAny_field hz rfl (x := rawInt T) rfl ?_)
  show wpAny _ _ (loadIfAlive (T : Int).toNat >>= _) _ _ _
  rw [Int.toNat_natCast]
  refine wpAny_bind (kdx_alive hT ?_)
  show wpAny _ _ (field (.ref z) 1 >>= _) _ _ _
  refine wpAny_bind (wpAny_field hz rfl (x := .bool f) rfl ?_)
  cases f with
  | true =>
    show wpAny _ _ (pure false) _ _ _
    exact wpAny_pure (h s.heap hz ⟨rfl, fun _ _ => rfl⟩)
  | false =>
    show wpAny _ _ (setField (.ref z) 1 (.bool true) >>= fun _ => pure false) _ _ _
    refine wpAny_bind (wpAny_setField_rec hz (by simp) fun h₁ hz₁ hs₁ => ?_)
    exact wpAny_pure (h h₁ hz₁ hs₁)

theorem zip_out_item {z TI TO T i1 i2 l1 l2 : Addr} {f : Bool} {oT : Obj} {k1 k2 : Nat} {xs ys : Array Value} {x y : Value} {Q : Value → Shared → Prop} (D : ZipApart z TI TO i1 i2 l1 l2)
    (hz : ZipOut s.heap z TI TO T f) (hT : s.heap.get? T = some oT) (hTI : IsPair s.heap TI (.ref i1) (.ref i2))
    (h1 : s.heap.IsListIter i1 l1 k1) (h2 : s.heap.IsListIter i2 l2 k2) (hl1 : s.heap.IsList l1 xs) (hl2 : s.heap.IsList l2 ys) (hx : xs[k1]? = some x) (hy : ys[k2]? = some y)
    (hQ : ∀ h', ZipOut h' z TI TO T true → h'.IsListIter i1 l1 (k1 + 1) → h'.IsListIter i2 l2 (k2 + 1) → IsPair h' s.heap.objs.size x y → h'.objs.size = s.heap.objs.size + 1 →
      (∀ c o, c ≠ z → c ≠ i1 → c ≠ i2 → s.heap.get? c = some o → h'.get? c = some o) → Q (.ref s.heap.objs.size) { s with heap := h' }) :
    wpAny (model prog w) A (Builtin.«zip.__next__» ⟨[.ref z], []⟩) (fun fin s' => ∃ v, fin = .done (.ret v) ∧ Q v s') E s := by
  show wpAny _ _ (field (.ref z) 2 >>= _) _ _ _
  refine wpAny_bind (wpAny_field hz rfl (x := .bool false) rfl ?_)
  show wpAny _ _ (field (.ref z) 3 >>= _) _ _ _
  refine wpAny_bind (wpAny_field hz rfl (x := .ref TI) rfl ?_)
  refine wpAny_bind (wpAny_seqItems hTI rfl ?_)
  show wpAny _ _ (Builtin.SmallTypes.ownedTupleIsFree (.ref z) >>= _) _ _ _
  refine wpAny_bind (owned_out hz hT fun h₁ hz₁ hs₁ => ?_)
  simp only [Bool.false_eq_true, if_false]
  refine wpAny_bind ?_
  simp only [← Array.forIn_toList, List.forIn_cons, List.forIn_nil]
  refine wpAny_bind (wpAny_bind (wpAny_holding ?_))
  show wpAny _ _ (Builtin.SmallTypes.nextOf (.ref i1) >>= _) _ _ _
  refine wpAny_bind (wpAny_nextOf_list_item (h1.extBut hs₁.extBut D.i1z) (hl1.extBut hs₁.extBut D.l1z) hx fun h₂ h1₂ hs₂ => wpAny_pure ?_)
  refine wpAny_pure ?_
  dsimp only
  refine wpAny_bind (wpAny_bind (wpAny_holding ?_))
  show wpAny _ _ (Builtin.SmallTypes.nextOf (.ref i2) >>= _) _ _ _
  refine wpAny_bind (wpAny_nextOf_list_item ((h2.extBut hs₁.extBut D.i2z).extBut hs₂.extBut D.i12.symm) ((hl2.extBut hs₁.extBut D.l2z).extBut hs₂.extBut D.l2i1) hy fun h₃ h2₃ hs₃ => wpAny_pure ?_)
  refine wpAny_pure ?_
  dsimp only
  refine wpAny_pure ?_
  dsimp only
  refine wpAny_bind ?_
  refine wpAny_newTuple ?_ (by rw [sizeLine_eq]; simp)
  have hsz : h₃.objs.size = s.heap.objs.size := by rw [hs₃.1, hs₂.1, hs₁.1]
  have hk₃ : ∀ c o, c ≠ z → c ≠ i1 → c ≠ i2 → s.heap.get? c = some o → h₃.get? c = some o := fun c o c1 c2 c3 e => hs₃.extBut _ _ c3 (hs₂.extBut _ _ c2 (hs₁.extBut _ _ c1 e))
  have hz₃ : ZipOut h₃ z TI TO T true := hs₃.extBut _ _ D.i2z.symm (hs₂.extBut _ _ D.i1z.symm hz₁)
  refine wpAny_pure ⟨_, rfl, ?_⟩
  show Q (.ref h₃.objs.size) _
  rw [hsz]
  refine hQ _ (Heap.get?_push_of_some _ hz₃) ((h1₂.extBut hs₃.extBut D.i12).at fun o e => Heap.get?_push_of_some _ e) (h2₃.at fun o e => Heap.get?_push_of_some _ e) ?_ (by rw [Heap.size_push, hsz]) fun c o c1 c2 c3 e => Heap.get?_push_of_some _ (hk₃ c o c1 c2 c3 e)
  have e5 : Heap.get? (h₃.push { cls := .type "tuple", data := .seq #[x, y] }) h₃.objs.size = _ := Heap.get?_push_size _ rfl
  rw [hsz] at e5
  exact e5

theorem zip_out_end {z TI TO T i1 i2 l1 l2 : Addr} {f : Bool} {oT : Obj} {k1 k2 : Nat} {xs ys : Array Value} {Q : Fin → Shared → Prop} (hh : A.handled = none) (D : ZipApart z TI TO i1 i2 l1 l2)
    (hz : ZipOut s.heap z TI TO T f) (hT : s.heap.get? T = some oT) (hTI : IsPair s.heap TI (.ref i1) (.ref i2))
    (h1 : s.heap.IsListIter i1 l1 k1) (hl1 : s.heap.IsList l1 xs) (hx : xs[k1]? = none)
    (hE : ∀ h' e, (∀ c o, c ≠ z → c ≠ i1 → c ≠ i2 → s.heap.get? c = some o → h'.get? c = some o) → (∃ o, h'.get? e = some o ∧ o.cls = .type "StopIteration") → E (.ref e) { s with heap := h' }) :
    wpAny (model prog w) A (Builtin.«zip.__next__» ⟨[.ref z], []⟩) Q E s := by
  show wpAny _ _ (field (.ref z) 2 >>= _) _ _ _
  refine wpAny_bind (wpAny_field hz rfl (x := .bool false) rfl ?_)
  show wpAny _ _ (field (.ref z) 3 >>= _) _ _ _
  refine wpAny_bind (wpAny_field hz rfl (x := .ref TI) rfl ?_)
  refine wpAny_bind (wpAny_seqItems hTI rfl ?_)
  show wpAny _ _ (Builtin.SmallTypes.ownedTupleIsFree (.ref z) >>= _) _ _ _
  refine wpAny_bind (owned_out hz hT fun h₁ hz₁ hs₁ => ?_)
  simp only [Bool.false_eq_true, if_false]
  refine wpAny_bind ?_
  simp only [← Array.forIn_toList, List.forIn_cons, List.forIn_nil]
  refine wpAny_bind (wpAny_bind (wpAny_holding ?_))
  show wpAny _ _ (Builtin.SmallTypes.nextOf (.ref i1) >>= _) _ _ _
  refine wpAny_bind (wpAny_nextOf_list_end hh (h1.extBut hs₁.extBut D.i1z) (hl1.extBut hs₁.extBut D.l1z) hx fun h₂ e hs₂ he => ?_)
  exact hE h₂ e (fun c o c1 c2 c3 x => hs₂ _ _ c2 (hs₁.extBut _ _ c1 x)) he

theorem pyNext_zip_out {z TI TO T i1 i2 l1 l2 : Addr} {f : Bool} {oT : Obj} {k1 k2 : Nat} {xs ys : Array Value} {x y : Value} {Q : Option Value → Shared → Prop} (D : ZipApart z TI TO i1 i2 l1 l2)
    (hz : ZipOut s.heap z TI TO T f) (hT : s.heap.get? T = some oT) (hTI : IsPair s.heap TI (.ref i1) (.ref i2))
    (h1 : s.heap.IsListIter i1 l1 k1) (h2 : s.heap.IsListIter i2 l2 k2) (hl1 : s.heap.IsList l1 xs) (hl2 : s.heap.IsList l2 ys) (hx : xs[k1]? = some x) (hy : ys[k2]? = some y)
    (hQ : ∀ h', ZipOut h' z TI TO T true → h'.IsListIter i1 l1 (k1 + 1) → h'.IsListIter i2 l2 (k2 + 1) → IsPair h' s.heap.objs.size x y → h'.objs.size = s.heap.objs.size + 1 →
      (∀ c o, c ≠ z → c ≠ i1 → c ≠ i2 → s.heap.get? c = some o → h'.get? c = some o) → Q (some (.ref s.heap.objs.size)) { s with heap := h' }) :
    wpAny (model prog w) A (pyNext (.ref z)) Q E s := by
  have hTy : s.TypeIs (.ref z) "zip" := ⟨_, hz, rfl⟩
  unfold pyNext
  exact wpAny_bind (wpAny_attempt (wpAny_callSpecial?_slot (name := Str.ofString "__next__") hTy PySem.F.slot_zip_next
    (wpAny_call_entry PySem.F.slot_zip_next hTy PySem.F.entry_zip_next
      (zip_out_item D hz hT hTI h1 h2 hl1 hl2 hx hy fun h' a1 a3 a4 a5 a6 a7 => wpAny_pure (hQ h' a1 a3 a4 a5 a6 a7)) (PySem.F.args_zip_next_1 _))))

theorem pyNext_zip_out_end {z TI TO T i1 i2 l1 l2 : Addr} {f : Bool} {oT : Obj} {k1 : Nat} {xs : Array Value} {Q : Option Value → Shared → Prop} (hh : A.handled = none) (D : ZipApart z TI TO i1 i2 l1 l2)
    (hz : ZipOut s.heap z TI TO T f) (hT : s.heap.get? T = some oT) (hTI : IsPair s.heap TI (.ref i1) (.ref i2))
    (h1 : s.heap.IsListIter i1 l1 k1) (hl1 : s.heap.IsList l1 xs) (hx : xs[k1]? = none)
    (hQ : ∀ h', (∀ c o, c ≠ z → c ≠ i1 → c ≠ i2 → s.heap.get? c = some o → h'.get? c = some o) → Q none { s with heap := h' }) : wpAny (model prog w) A (pyNext (.ref z)) Q E s := by
  have hTy : s.TypeIs (.ref z) "zip" := ⟨_, hz, rfl⟩
  unfold pyNext
  refine wpAny_bind (wpAny_attempt (wpAny_callSpecial?_slot (name := Str.ofString "__next__") hTy PySem.F.slot_zip_next
    (wpAny_call_entry PySem.F.slot_zip_next hTy PySem.F.entry_zip_next (zip_out_end (k2 := 0) (ys := #[]) (l2 := l2) hh D hz hT hTI h1 hl1 hx fun h' e hk he => ?_) (PySem.F.args_zip_next_1 _))))
  obtain ⟨o, ho, hc⟩ := he
  refine wpAny_bind (wpAny_isInstance (T := "StopIteration") (b := true) ⟨o, ho, hc⟩ isSubtype_stop ?_)
  exact wpAny_pure (hQ _ hk)
end
theorem zip_keys_none : typeLookup (.type "zip") "keys" = pure none := by rw [typeLookup_type, builtinLookup_eq_fast]; kernel_rfl
theorem zip_getattr_none : typeLookup (.type "zip") "__getattr__" = pure none := by rw [typeLookup_type, builtinLookup_eq_fast]; kernel_rfl
theorem entry_zip_getattribute : entryFor table "zip.__getattribute__" = some Builtin.«object.__getattribute__» :=
  entryFor_alias (id' := "object.__getattribute__") (by kernel_rfl) (by decide +kernel) (by decide +kernel) (by kernel_rfl)
theorem meets_miss_zip (a : Addr) (vs : Array Value) (sl : Array (Option Value)) (name : Str) (u : Tok) (hmiss : typeLookup (.type "zip") name = pure none) (hname : (["__module__", "__name__", "__qualname__", "__doc__", "__annotations__"] : List Str).contains name = false) (hsz : name.length + 100 ≤ sizeLine := by size_fits) :
    Meets (Builtin.«object.__getattribute__» ⟨[.ref a, .str name u], []⟩) (fun A R s => s.heap.get? a = some { cls := .type "zip", dict := none, data := .fields vs, slots := sl } ∧ raisesAttr (.ref a) name A R s) :=
  Meets.of_wp fun prog w A R s hs => by
    obtain ⟨hp, g, d, tk, os⟩ := s
    obtain ⟨hx, hs⟩ := hs
    have hT : (⟨hp, g, d, tk, os⟩ : Shared).TypeIs (.ref a) "zip" := ⟨_, hx, rfl⟩
    unfold Builtin.«object.__getattribute__»
    repeat (any_goals (first | assumption | wp_step))
    simp only [hname, Bool.false_eq_true, if_false]
    repeat (any_goals (first | assumption | wp_step))
    exact wpAny_raiseAttrError hs.1 hs.2 (attrMsg_fits (by decide +kernel) hsz)
theorem getAttr?_zip {prog : Program} {w : World} {A : Around} {E : Value → Shared → Prop} {s : Shared} {a : Addr} {vs : Array Value} {Q : Option Value → Shared → Prop}
    (hx : s.heap.get? a = some { cls := .type "zip", dict := none, data := .fields vs, slots := #[] }) (hA : A.handled = none)
    (h : ∀ h' tk, (∀ b o, s.heap.get? b = some o → h'.get? b = some o) → Q none { s with heap := h', toks := tk }) :
    wpAny (model prog w) A (getAttr? (.ref a) "keys") Q E s := by
  obtain ⟨hp, g, d, tk, os⟩ := s
  have hmiss := zip_keys_none
  have hT : ∀ tk', (⟨hp, g, d, tk', os⟩ : Shared).TypeIs (.ref a) "zip" := fun _ => ⟨_, hx, rfl⟩
  have f1 := sub_AttributeError
  have f3 := PySem.F.slot_zip_getattribute.lookup
  have f4 := PySem.F.slot_zip_getattribute.bind (.ref a)
  have f5 := zip_getattr_none
  unfold getAttr? getAttrBy? getAttrBy
  repeat (any_goals (first | assumption | exact hT _ | ((with_reducible show wpAny _ _ (call (Value.builtin "zip.__getattribute__") _ _) _ _ _); refine call_meets PySem.F.slot_zip_getattribute (hT _) entry_zip_getattribute (PySem.F.args_zip_getattribute_2 _ _) (meets_miss_zip a vs #[] "keys" _ hmiss (by decide) (by rw [sizeLine_eq]; decide)) ⟨hx, hA, fun h' tk' e hx' => ?_⟩) | wp_step))
  obtain ⟨t', u', he⟩ := hx'.there
  show wpAny _ _ (getattributeRaised _ _ _ _ _ _ _) _ _ _
  unfold getattributeRaised
  repeat (any_goals (first | assumption | wp_step))
  exact h _ _ hx'.keeps
theorem entry_update_loop : entryFor table "dict.update.loop" = some Builtin.«dict.update.loop» := entryFor_of_tree (by kernel_rfl)
theorem plain_update_loop : plainId "dict.update.loop" = true := by decide +kernel

/-- the state of a zip of two lists after i pairs that were kept -/
def ZipSt (h : Heap) (z TI TO i1 i2 l1 l2 : Addr) (xs ys : Array Value) (i : Nat) : Prop :=
  IsPair h TI (.ref i1) (.ref i2) ∧ h.IsListIter i1 l1 i ∧ h.IsListIter i2 l2 i ∧ h.IsList l1 xs ∧ h.IsList l2 ys ∧
    ((IsZip h z TI TO .none ∧ ∃ a b, IsPair h TO a b) ∨ ∃ T oT f, ZipOut h z TI TO T f ∧ h.get? T = some oT ∧ oT.cls = .type "tuple" ∧ T ≠ z ∧ T ≠ i1 ∧ T ≠ i2)
theorem ZipSt.next {w : World} {A : Around} {E : Value → Shared → Prop} {s : Shared} {z TI TO i1 i2 l1 l2 : Addr} {xs ys : Array Value} {i : Nat} {x y : Value} {Q : Option Value → Shared → Prop} (D : ZipApart z TI TO i1 i2 l1 l2)
    (S : ZipSt s.heap z TI TO i1 i2 l1 l2 xs ys i) (hx : xs[i]? = some x) (hy : ys[i]? = some y)
    (hQ : ∀ h', ZipSt h' z TI TO i1 i2 l1 l2 xs ys (i + 1) → IsPair h' s.heap.objs.size x y → (∀ c o, c ≠ z → c ≠ TO → c ≠ i1 → c ≠ i2 → s.heap.get? c = some o → h'.get? c = some o) → Q (some (.ref s.heap.objs.size)) { s with heap := h' }) :
    wpAny (model PG w) A (pyNext (.ref z)) Q E s := by
  obtain ⟨hTI, h1, h2, hl1, hl2, hc⟩ := S
  have nz : s.heap.objs.size ≠ i1 ∧ s.heap.objs.size ≠ i2 := by
    obtain ⟨_, a, _⟩ := h1
    obtain ⟨_, b, _⟩ := h2
    exact ⟨(Nat.ne_of_lt (Heap.lt_size a)).symm, (Nat.ne_of_lt (Heap.lt_size b)).symm⟩
  rcases hc with ⟨hz, a, b, hTO⟩ | ⟨T, oT, f, hz, hT, hTc, n1, n2, n3⟩
  · have nz0 : s.heap.objs.size ≠ z := (Nat.ne_of_lt (Heap.lt_size hz)).symm
    refine wpAny_pyNext_zip_item D hz hTI hTO h1 h2 hl1 hl2 hx hy fun h' a1 a2 a3 a4 a5 a6 a7 => hQ h' ⟨a7 _ _ D.TIz D.TITO D.TIi1 D.TIi2 hTI, a3, a4, hl1.at fun o e => a7 _ o D.l1z D.l1TO D.l1i1 D.l1i2 e, hl2.at fun o e => a7 _ o D.l2z D.l2TO D.l2i1 D.l2i2 e, .inr ⟨_, _, false, a1, a5, rfl, nz0, nz.1, nz.2⟩⟩ a5 a7
  · refine pyNext_zip_out D hz hT hTI h1 h2 hl1 hl2 hx hy fun h' a1 a3 a4 a5 a6 a7 => hQ h' ⟨a7 _ _ D.TIz D.TIi1 D.TIi2 hTI, a3, a4, hl1.at fun o e => a7 _ o D.l1z D.l1i1 D.l1i2 e, hl2.at fun o e => a7 _ o D.l2z D.l2i1 D.l2i2 e, .inr ⟨T, oT, true, a1, a7 _ _ n1 n2 n3 hT, hTc, n1, n2, n3⟩⟩ a5 fun c o c1 _ c3 c4 e => a7 c o c1 c3 c4 e
theorem ZipSt.stop {w : World} {A : Around} {E : Value → Shared → Prop} {s : Shared} {z TI TO i1 i2 l1 l2 : Addr} {xs ys : Array Value} {i : Nat} {Q : Option Value → Shared → Prop} (hh : A.handled = none) (D : ZipApart z TI TO i1 i2 l1 l2)
    (S : ZipSt s.heap z TI TO i1 i2 l1 l2 xs ys i) (hx : xs[i]? = none)
    (hQ : ∀ h', (∀ c o, c ≠ z → c ≠ TO → c ≠ i1 → c ≠ i2 → s.heap.get? c = some o → h'.get? c = some o) → Q none { s with heap := h' }) :
    wpAny (model PG w) A (pyNext (.ref z)) Q E s := by
  obtain ⟨hTI, h1, h2, hl1, hl2, hc⟩ := S
  rcases hc with ⟨hz, a, b, hTO⟩ | ⟨T, oT, f, hz, hT, hTc, n1, n2, n3⟩
  · exact wpAny_pyNext_zip_end hh D hz hTI hTO h1 h2 hl1 hl2 (.inl hx) hQ
  · exact pyNext_zip_out_end hh D hz hT hTI h1 hl1 hx fun h' a7 => hQ h' fun c o c1 _ c3 c4 e => a7 c o c1 c3 c4 e
theorem ZipSt.but {h h' : Heap} {d z TI TO i1 i2 l1 l2 : Addr} {xs ys : Array Value} {i : Nat} {od : Obj} (S : ZipSt h z TI TO i1 i2 l1 l2 xs ys i) (hd : h.get? d = some od) (hdc : od.cls = .type "dict") (hk : ∀ c o, c ≠ d → h.get? c = some o → h'.get? c = some o) : ZipSt h' z TI TO i1 i2 l1 l2 xs ys i := by
  have k : ∀ c o, h.get? c = some o → o.cls ≠ .type "dict" → h'.get? c = some o := fun c o e hc => hk c o (fun q => hc (by rw [q, hd] at e; cases e; exact hdc)) e
  obtain ⟨hTI, ⟨o1, e1, c1, d1⟩, ⟨o2, e2, c2, d2⟩, ⟨o3, e3, c3, d3⟩, ⟨o4, e4, c4, d4⟩, hc⟩ := S
  refine ⟨k _ _ hTI (by show Value.type "tuple" ≠ _; decide), ⟨o1, k _ _ e1 (by rw [c1]; decide), c1, d1⟩, ⟨o2, k _ _ e2 (by rw [c2]; decide), c2, d2⟩, ⟨o3, k _ _ e3 (by rw [c3]; decide), c3, d3⟩, ⟨o4, k _ _ e4 (by rw [c4]; decide), c4, d4⟩, ?_⟩
  rcases hc with ⟨hz, a, b, hTO⟩ | ⟨T, oT, f, hz, hT, hTc, n1, n2, n3⟩
  · exact .inl ⟨k _ _ hz (by show Value.type "zip" ≠ _; decide), a, b, k _ _ hTO (by show Value.type "tuple" ≠ _; decide)⟩
  · exact .inr ⟨T, oT, f, k _ _ hz (by show Value.type "zip" ≠ _; decide), k _ _ hT (by rw [hTc]; decide), hTc, n1, n2, n3⟩

theorem KW.ent' {w : World} : ∀ (l : List ((Str × Tok) × (Str × Tok))), KW w (l.map fun p => entE w p.1.1 p.1.2 (.str p.2.1 p.2.2))
  | [] => KW.nil
  | x :: r => KW.cons (KW.ent' r)
/-- dict's loop over a zip -/
theorem zip_loop {w : World} {A : Around} {R : Result → Shared → Prop} {s : Shared} {d z TI TO i1 i2 l1 l2 : Addr} (ps : List ((Str × Tok) × (Str × Tok))) (hh : A.handled = none) (D : ZipApart z TI TO i1 i2 l1 l2)
    (hdz : d ≠ z) (hdT : d ≠ TO) (hd1 : d ≠ i1) (hd2 : d ≠ i2) (hps : ps.length ≤ 100) {h₁ : Heap}
    (hR : ∀ h' tk ep', h'.get? d = some (dictOf (putAll [] (ps.map fun p => entE w p.1.1 p.1.2 (.str p.2.1 p.2.2))) ep') → (∀ c o, c ≠ d → c ≠ z → c ≠ TO → c ≠ i1 → c ≠ i2 → h₁.get? c = some o → h'.get? c = some o) → R (.ok (.ret .none)) { s with heap := h', toks := tk }) :
    ∀ (n i : Nat) (h : Heap) (tk : Tok) (ep : Nat), ps.length - i = n → i ≤ ps.length → ZipSt h z TI TO i1 i2 l1 l2 (ps.map fun p => Value.str p.1.1 p.1.2).toArray (ps.map fun p => Value.str p.2.1 p.2.2).toArray i →
      h.get? d = some (dictOf (putAll [] ((ps.take i).map fun p => entE w p.1.1 p.1.2 (.str p.2.1 p.2.2))) ep) → (∀ c o, c ≠ d → c ≠ z → c ≠ TO → c ≠ i1 → c ≠ i2 → h₁.get? c = some o → h.get? c = some o) →
      codeAny (model PG w) A (.builtin "dict.update.loop" ⟨[.ref d, .ref z, .int i 0, .none], []⟩) R { s with heap := h, toks := tk } := by
  intro n
  induction n with
  | zero =>
    intro i h tk ep hn hi S hd hk
    refine codeAny_builtin entry_update_loop ?_
    rw [Around.under_plainId plain_update_loop _]
    show wpAny _ A.in1 (pyNext (.ref z) >>= _) _ _ _
    refine wpAny_bind (ZipSt.stop (s := { s with heap := h, toks := tk }) (A := A.in1) hh D S (by simp; omega) fun h' hk' => ?_)
    show wpAny _ _ (Builtin.Dict.addKeywords d [] >>= _) _ _ _
    refine wpAny_bind (wpAny_pure (wpAny_pure ?_))
    rw [List.take_of_length_le (by omega)] at hd
    exact hR h' _ ep (hk' d _ hdz hdT hd1 hd2 hd) fun c o c0 c1 c2 c3 c4 e => hk' c o c1 c2 c3 c4 (hk c o c0 c1 c2 c3 c4 e)
  | succ n ih =>
    intro i h tk ep hn hi S hd hk
    have hlt : i < ps.length := by omega
    refine codeAny_builtin entry_update_loop ?_
    rw [Around.under_plainId plain_update_loop _]
    show wpAny _ A.in1 (pyNext (.ref z) >>= _) _ _ _
    refine wpAny_bind (ZipSt.next (s := { s with heap := h, toks := tk }) (A := A.in1) (x := .str ps[i].1.1 ps[i].1.2) (y := .str ps[i].2.1 ps[i].2.2) D S (by simp [hlt]) (by simp [hlt]) fun h' S' hp hk' => ?_)
    dsimp only at hp hk' ⊢
    refine wpAny_bind (wpAny_holding ?_)
    have hTy : Shared.TypeIs { s with heap := h', toks := tk } (.ref h.objs.size) "tuple" := ⟨_, hp, rfl⟩
    refine wpAny_bind ?_
    refine wpAny_tryCatch ?_
    unfold Builtin.Dict.pairItems
    refine wpAny_bind (wpAny_typeOf hTy ?_)
    rw [if_pos (by decide)]
    refine wpAny_bind (wpAny_seqItems hp rfl ?_)
    refine wpAny_pure ?_
    dsimp only [Option.getD]
    refine wpAny_holding ?_
    have hd' := hk' d _ hdz hdT hd1 hd2 hd
    have hkw : WD w (putAll [] ((ps.take i).map fun p => entE w p.1.1 p.1.2 (.str p.2.1 p.2.2))) := WD.nil.putAll (KW.ent' _)
    refine dictSet_x (s := { s with heap := h', toks := tk }) hd' hkw.kw ?_ ?_
    · have := putAll_len ((ps.take i).map fun p => entE w p.1.1 p.1.2 (.str p.2.1 p.2.2)) []
      rw [List.length_map, List.length_take, List.length_nil] at this
      omega
    intro h'' ep'' hd'' hs''
    refine wpAny_pure ⟨plainId_quiet plain_update_loop _, ?_⟩
    have e1 : rawInt ((i : Int) + 1) = .int ((i + 1 : Nat) : Int) 0 := rfl
    rw [e1]
    refine ih (i + 1) h'' _ ep'' (by omega) hlt (S'.but hd' rfl fun c o hc e => hs''.extBut c o hc e) ?_ ?_
    · have e2 : putAll [] ((ps.take (i + 1)).map fun p => entE w p.1.1 p.1.2 (.str p.2.1 p.2.2)) = putL ps[i].1.1 (hashStr w ps[i].1.1) (.str ps[i].1.1 ps[i].1.2) (.str ps[i].2.1 ps[i].2.2) (putAll [] ((ps.take i).map fun p => entE w p.1.1 p.1.2 (.str p.2.1 p.2.2))) := by
        rw [List.take_add_one, List.getElem?_eq_getElem hlt, Option.toList_some, List.map_append]
        unfold putAll
        rw [List.foldl_append]
        rfl
      rw [e2]
      exact hd''
    · exact fun c o c0 c1 c2 c3 c4 e => hs''.extBut c o c0 (hk' c o c1 c2 c3 c4 (hk c o c0 c1 c2 c3 c4 e))
theorem dict_zip {w : World} {A : Around} {E : Value → Shared → Prop} {s : Shared} {z TI TO i1 i2 l1 l2 : Addr} {Q : Value → Shared → Prop} (ps : List ((Str × Tok) × (Str × Tok))) (hh : A.handled = none) (D : ZipApart z TI TO i1 i2 l1 l2)
    (hps : ps.length ≤ 100) (hz : IsZip s.heap z TI TO .none)
    (S : ZipSt s.heap z TI TO i1 i2 l1 l2 (ps.map fun p => Value.str p.1.1 p.1.2).toArray (ps.map fun p => Value.str p.2.1 p.2.2).toArray 0)
    (h : ∀ D h' tk ep', s.heap.get? D = none → D = s.heap.objs.size → h'.get? D = some (dictOf (putAll [] (ps.map fun p => entE w p.1.1 p.1.2 (.str p.2.1 p.2.2))) ep') → (∀ c o, c ≠ z → c ≠ TO → c ≠ i1 → c ≠ i2 → s.heap.get? c = some o → h'.get? c = some o) → Q (.ref D) { s with heap := h', toks := tk }) :
    wpAny (model PG w) A (call (.type "dict") [.ref z]) Q E s := by
  refine callType_codes (Q₁ := fun obj s₁ => obj = .ref s.heap.objs.size ∧ s₁ = { s with heap := s.heap.push { cls := .type "dict", data := .dict #[] } }) PySem.F.kt_called_dict (PySem.F.kt_typeCall_dict_1 _) PySem.F.entry_dict_init (kt_code_dict_new _ ⟨rfl, rfl⟩) ?_
  rintro obj s₁ ⟨rfl, rfl⟩
  have hd : Heap.get? (s.heap.push { cls := .type "dict", data := .dict #[] }) s.heap.objs.size = some (dictOf [] 0) := Heap.get?_push_size _ rfl
  have hTd : Shared.TypeIs { s with heap := s.heap.push { cls := .type "dict", data := .dict #[] } } (.ref s.heap.objs.size) "dict" := ⟨_, hd, rfl⟩
  have up : ∀ c o, s.heap.get? c = some o → Heap.get? (s.heap.push { cls := .type "dict", data := .dict #[] }) c = some o := fun c o e => Heap.get?_push_of_some _ e
  have hz1 : IsZip (s.heap.push { cls := .type "dict", data := .dict #[] }) z TI TO .none := up _ _ hz
  have hTz : Shared.TypeIs { s with heap := s.heap.push { cls := .type "dict", data := .dict #[] } } (.ref z) "zip" := ⟨_, hz1, rfl⟩
  refine ⟨hTd, PySem.F.args_dict_init_2 _ _, ?_⟩
  unfold Builtin.«dict.__init__»
  refine wpAny_bind ?_
  unfold Builtin.Dict.selfAndRest
  refine wpAny_bind (wpAny_notOrdered_dict hTd ?_)
  show wpAny _ _ (pure (s.heap.objs.size, [Value.ref z])) _ _ _
  refine wpAny_pure ?_
  show wpAny _ _ (Builtin.Dict.updateFrom "dict.__init__" s.heap.objs.size (.ref z) [] .none) _ _ _
  unfold Builtin.Dict.updateFrom
  refine wpAny_bind (wpAny_typeOf hTz ?_)
  rw [if_pos (by decide)]
  refine wpAny_bind ?_
  refine getAttr?_zip hz1 (by exact hh) fun h2 tk2 hk2 => ?_
  have hz2 : IsZip h2 z TI TO .none := hk2 _ _ hz1
  rw [if_pos (show (none : Option Value).isNone = true from rfl)]
  refine wpAny_bind (wpAny_rule ?_)
  refine wpAny_bind (wpAny_pyIter_zip hz2 ?_)
  refine wpAny_pure ⟨plainId_quiet plain_update_loop _, ?_⟩
  have hlt : ∀ c o, s.heap.get? c = some o → s.heap.objs.size ≠ c := fun c o e => (Nat.ne_of_lt (Heap.lt_size e)).symm
  obtain ⟨hTI, ⟨o1, e1, c1⟩, ⟨o2, e2, c2⟩, ⟨o3, e3, c3⟩, ⟨o4, e4, c4⟩, hc⟩ := S
  obtain ⟨a, b, hTO⟩ : ∃ a b, IsPair s.heap TO a b := by
    rcases hc with ⟨_, x⟩ | ⟨T, oT, f, hz', _⟩
    · exact x
    · exact absurd (Option.some.inj (Eq.trans (Eq.symm hz') hz)) (by intro e; simp [rawInt] at e)
  have k2 : ∀ c o, s.heap.get? c = some o → h2.get? c = some o := fun c o e => hk2 _ _ (up _ _ e)
  refine zip_loop (s := { s with heap := h2, toks := tk2 }) (h₁ := h2) ps (by exact hh) D (hlt _ _ hz) (hlt _ _ hTO) (hlt _ _ e1) (hlt _ _ e2) hps (fun h' tk ep' hd' hk' => ?_) ps.length 0 h2 tk2 0 rfl (Nat.zero_le _) ?_ (hk2 _ _ hd) (fun c o _ _ _ _ _ e => e)
  · refine ⟨rfl, h _ h' tk ep' (Heap.get?_none_of_le (Nat.le_refl _)) rfl hd' fun c o n1 n2 n3 n4 e => hk' c o (hlt c o e).symm n1 n2 n3 n4 (k2 c o e)⟩
  · exact ⟨k2 _ _ hTI, ⟨o1, k2 _ _ e1, c1⟩, ⟨o2, k2 _ _ e2, c2⟩, ⟨o3, k2 _ _ e3, c3⟩, ⟨o4, k2 _ _ e4, c4⟩, .inl ⟨hz2, a, b, k2 _ _ hTO⟩⟩
theorem str_of_is {w : World} {k : Str} {v : Value} (h : (PySem.strKind PG w).is k v = true) : ∃ t, v = .str k t := Value.isStrOf_shape h
/-- list(d.items()), d a dict of texts -/
theorem list_items {w : World} {A : Around} {E : Value → Shared → Prop} {s : Shared} {r d : Addr} {es : List DictEntry} {ep : Nat} {Q : Value → Shared → Prop} (hh : A.handled = none) (hv : s.heap.IsItemsView r d) (hd : s.heap.get? d = some (dictOf es ep)) (k : WD w es)
    (hE : ∀ e ∈ es, ∃ x t, e.val = .str x t) (hz : es.length ≤ 1000)
    (h : ∀ D h' tk, Ext s.heap h' → s.heap.get? D = none → EntL h' D (prs es) → Q (.ref D) { s with heap := h', toks := tk }) :
    wpAny (model PG w) A (call (.type "list") [.ref r]) Q E s := by
  refine kdx_call (knd := PySem.strKind PG w) hh hv (dictAt_x hd k) (by rw [kvsOf_length, sizeLine_eq]; omega) fun h' tk acc c as hk hS hl hG hacc => ?_
  refine h _ h' tk hk (Heap.get?_none_of_le (Nat.le_refl _)) ⟨as, c, ?_, ?_, ?_⟩
  · rw [hS, show acc = (as.map Value.ref).toArray from by rw [← hacc]]
  · rw [hl, kvsOf_length, prs, List.length_map]
  · intro i T p hi hp
    obtain ⟨key, kk, x, e1, e2, e3⟩ := hG.pairs i T hi
    rw [prs, List.getElem?_map] at hp
    obtain ⟨e, he, rfl⟩ := Option.map_eq_some_iff.mp hp
    rw [kvsOf, List.getElem?_map, he] at e1
    cases e1
    obtain ⟨t, rfl⟩ := str_of_is e2
    obtain ⟨y, u, hy⟩ := hE e (List.mem_of_getElem? he)
    have hv2 : valTx e = y := by unfold valTx; rw [hy]
    rw [hy] at e3
    exact ⟨t, u, _, e3, rfl, 0, by rw [hv2]⟩
/-- one pass of replacing k by v; n signs are passed over first -/
def rpS (k v : List Nat) : Nat → List Nat → List Nat
  | _, [] => []
  | n + 1, _ :: r => rpS k v n r
  | 0, c :: r => if k <+: c :: r then v ++ rpS k v (k.length - 1) r else c :: rpS k v 0 r
def rep (k v l : List Nat) : List Nat := rpS k v 0 l
theorem rpS_skip (k v : List Nat) : ∀ p r : List Nat, rpS k v p.length (p ++ r) = rpS k v 0 r
  | [], _ => rfl
  | c :: p, r => by
    show rpS k v (p.length + 1) (c :: (p ++ r)) = _
    rw [rpS]
    exact rpS_skip k v p r
theorem rep_nil (k v : List Nat) : rep k v [] = [] := rfl
theorem rep_hit {k v : List Nat} (hk : k ≠ []) (r : List Nat) : rep k v (k ++ r) = v ++ rep k v r := by
  cases k with
  | nil => exact absurd rfl hk
  | cons a k =>
    unfold rep
    rw [List.cons_append, rpS, if_pos ⟨r, rfl⟩]
    have := rpS_skip (a :: k) v k r
    rw [show (a :: k).length - 1 = k.length from rfl, this]
theorem rep_miss {k v : List Nat} {c : Nat} {r : List Nat} (h : ¬ k <+: c :: r) : rep k v (c :: r) = c :: rep k v r := by
  unfold rep
  rw [rpS, if_neg h]
theorem rep_run {k v : List Nat} : ∀ {p r : List Nat}, (∀ j, j < p.length → ¬ k <+: p.drop j ++ r) → rep k v (p ++ r) = p ++ rep k v r
  | [], _, _ => rfl
  | c :: p, r, h => by
    have h0 := h 0 (Nat.zero_lt_succ _)
    have h0 : ¬ k <+: c :: (p ++ r) := h0
    rw [List.cons_append, rep_miss h0, rep_run (p := p) (r := r) fun j hj => h (j + 1) (Nat.succ_lt_succ hj), List.cons_append]

theorem at_iff {x y : Str} (hy : 1 ≤ y.length) (i : Nat) : StrLaws.At x y x.length i ↔ lst y <+: (lst x).drop i := by
  unfold StrLaws.At
  rw [StrLaws.subAt_eq, List.prefix_iff_eq_take]
  have e1 : (lst x).length = x.length := lst_len x
  have e2 : (lst y).length = y.length := lst_len y
  constructor
  · rintro ⟨h1, h2⟩
    have := eq_of_beq h2
    rw [e2]
    exact this.symm
  · intro h
    have hl := congrArg List.length h
    rw [List.length_take, List.length_drop, e1, e2] at hl
    rw [e2] at h
    refine ⟨by omega, ?_⟩
    show (((lst x).drop i).take y.length == lst y) = true
    rw [← h]
    exact beq_self_eq_true _

theorem strSub_lst (x : Str) (a b : Nat) : lst (Builtin.Str.strSub x a b) = ((lst x).drop a).take (b - a) := StrLaws.strSub_toList x a b

theorem parts_rep {x y : Str} (z : Str) (hy : 1 ≤ y.length) : ∀ (cuts : List Nat) (a f : Nat), a ≤ x.length → StrLaws.ChainG x y x.length a cuts f → (∀ k, f ≤ k → ¬ StrLaws.At x y x.length k) →
    lst (Str.join z (StrLaws.partsFrom x y.length a cuts)) = rep (lst y) (lst z) ((lst x).drop a)
  | [], a, f, ha, h, hn => by
    have e : f = a := h
    subst e
    have hd : ((lst x).drop f).take (x.length - f) = (lst x).drop f := List.take_of_length_le (by rw [List.length_drop, lst_len]; omega)
    show lst (Builtin.Str.strSub x f x.length) = _
    rw [strSub_lst, hd]
    have := rep_run (k := lst y) (v := lst z) (p := (lst x).drop f) (r := []) fun j hj hp => by
      rw [List.append_nil, List.drop_drop] at hp
      exact hn (f + j) (by omega) ((at_iff hy _).mpr hp)
    rw [List.append_nil, rep_nil, List.append_nil] at this
    exact this.symm
  | c :: r, a, f, ha, h, hn => by
    obtain ⟨h1, h2, h3, h4⟩ := h
    have hc := h2.1
    have ih := parts_rep z hy r (c + y.length) f hc h4 hn
    obtain ⟨p, q, e⟩ := StrLaws.partsFrom_ne x y.length (c + y.length) r
    have hpre := (at_iff hy c).mp h2
    obtain ⟨t, ht⟩ := hpre
    have et : t = (lst x).drop (c + y.length) := by
      have := congrArg (List.drop (lst y).length) ht
      rw [List.drop_left, List.drop_drop, lst_len] at this
      exact this
    have hsp : (lst x).drop a = ((lst x).drop a).take (c - a) ++ (lst y ++ (lst x).drop (c + y.length)) := by
      have h9 := (List.take_append_drop (c - a) ((lst x).drop a)).symm
      rw [List.drop_drop, show a + (c - a) = c from by omega, ← ht, et] at h9
      exact h9
    have hne : lst y ≠ [] := fun q => by have := lst_len y; rw [q] at this; simp at this; omega
    have hlen : (((lst x).drop a).take (c - a)).length = c - a := by rw [List.length_take, List.length_drop, lst_len]; exact Nat.min_eq_left (by omega)
    show lst (Str.join z (Builtin.Str.strSub x a c :: StrLaws.partsFrom x y.length (c + y.length) r)) = _
    rw [e] at ih ⊢
    show lst (Builtin.Str.strSub x a c ++ z ++ Str.join z (p :: q)) = _
    have app : ∀ u v : Str, lst (u ++ v) = lst u ++ lst v := fun u v => by
      have := tx_app (lst u) (lst v)
      rw [tx_lst, tx_lst] at this
      rw [this, lst_tx]
    rw [app, app, ih, strSub_lst]
    conv => rhs; rw [hsp]
    rw [rep_run, rep_hit hne, List.append_assoc]
    intro j hj hp
    rw [hlen] at hj
    have e2 : (((lst x).drop a).take (c - a)).drop j ++ (lst y ++ (lst x).drop (c + y.length)) = (lst x).drop (a + j) := by
      rw [← List.drop_append_of_le_length (by omega), ← hsp, List.drop_drop]
    rw [e2] at hp
    exact h3 (a + j) (by omega) (by omega) ((at_iff hy _).mpr hp)

/-- str.replace is one pass -/
theorem replace_rep (l k v : List Nat) (hk : k ≠ []) : Txt.replace (tx l) (tx k) (tx v) = tx (rep k v l) := by
  have hkl : 1 ≤ (tx k).length := by
    rw [tx_len]
    cases k with
    | nil => exact absurd rfl hk
    | cons _ _ => simp
  obtain ⟨f, hc, hn⟩ := StrLaws.occ_tight (tx l) (tx k) hkl
  have hp := parts_rep (tx v) hkl _ 0 f (Nat.zero_le _) hc hn
  rw [List.drop_zero, lst_tx, lst_tx, lst_tx] at hp
  unfold Txt.replace
  have h10 : ((tx k).length == 0) = false := by rw [beq_eq_false_iff_ne]; omega
  rw [h10, Bool.false_and, Bool.or_false]
  cases ho : Builtin.Str.occurrences (tx l) (tx k) 0 (tx l).length ((tx l).length + 1) with
  | nil =>
    rw [if_pos (show ([] : List Nat).isEmpty = true from rfl)]
    rw [ho] at hp
    have e : lst (Str.join (tx v) (StrLaws.partsFrom (tx l) (tx k).length 0 [])) = l := by
      show lst (Builtin.Str.strSub (tx l) 0 (tx l).length) = l
      rw [StrLaws.sub_whole, lst_tx]
    rw [← hp, e]
  | cons i r =>
    rw [if_neg (by simp), StrLaws.glued_eq_join, StrLaws.partsBetween_eq, ← ho, ← hp, tx_lst]
/-! octets -/
def octB (c : Nat) : List Nat := if c < 128 then [c] else if c < 2048 then [192 + c / 64, 128 + c % 64] else [224 + c / 4096, 128 + c / 64 % 64, 128 + c % 64]
theorem octN_flat (l : List Nat) : octN l = l.flatMap octB := by
  unfold octN octs
  rw [List.map_flatMap]
  congr 1
  funext c
  rw [oct1_eq]
  unfold octB
  by_cases c1 : c < 128
  · rw [if_pos c1, if_pos c1]; rfl
  rw [if_neg c1, if_neg c1]
  by_cases c2 : c < 2048
  · rw [if_pos c2, if_pos c2]; rfl
  rw [if_neg c2, if_neg c2]; rfl
theorem octN_nil : octN [] = [] := rfl
theorem octN_cons (c : Nat) (l : List Nat) : octN (c :: l) = octB c ++ octN l := by rw [octN_flat, octN_flat, List.flatMap_cons]
theorem octN_app (a b : List Nat) : octN (a ++ b) = octN a ++ octN b := by rw [octN_flat, octN_flat, octN_flat, List.flatMap_append]
theorem octN_len8 (l : List Nat) : (octs l).length = (octN l).length := by rw [octN, List.length_map]
/-- a lead octet -/
def Lead (b : Nat) : Prop := b < 128 ∨ 192 ≤ b
theorem octB_lead (c : Nat) : ∃ h t, octB c = h :: t ∧ Lead h ∧ ∀ b ∈ t, ¬ Lead b := by
  unfold octB Lead
  by_cases c1 : c < 128
  · rw [if_pos c1]; exact ⟨_, _, rfl, .inl c1, by simp⟩
  rw [if_neg c1]
  by_cases c2 : c < 2048
  · rw [if_pos c2]
    refine ⟨_, _, rfl, .inr (by omega), fun b hb => ?_⟩
    simp only [List.mem_cons, List.not_mem_nil, or_false] at hb
    omega
  rw [if_neg c2]
  refine ⟨_, _, rfl, .inr (by omega), fun b hb => ?_⟩
  simp only [List.mem_cons, List.not_mem_nil, or_false] at hb
  omega
theorem octB_uniq {c d : Nat} {r s : List Nat} (h : octB c ++ r = octB d ++ s) : c = d ∧ r = s := by
  unfold octB at h
  split at h <;> split at h <;> (try split at h) <;> (try split at h) <;> simp only [List.cons_append, List.nil_append, List.cons.injEq] at h <;>
    first
    | (obtain ⟨h1, h2⟩ := h; refine ⟨?_, h2⟩; omega)
    | (obtain ⟨h1, h2, h3⟩ := h; refine ⟨?_, h3⟩; omega)
    | (obtain ⟨h1, h2, h3, h4⟩ := h; refine ⟨?_, h4⟩; omega)
    | omega
theorem octN_prefix : ∀ {k l : List Nat}, octN k <+: octN l → k <+: l
  | [], _, _ => List.nil_prefix
  | c :: k, [], h => by
    obtain ⟨s, h⟩ := h
    obtain ⟨b, t, e, _⟩ := octB_lead c
    rw [octN_cons, e, octN_nil] at h
    simp at h
  | c :: k, d :: l, h => by
    obtain ⟨s, h⟩ := h
    rw [octN_cons, octN_cons, List.append_assoc] at h
    obtain ⟨rfl, h2⟩ := octB_uniq h
    obtain ⟨t, rfl⟩ := octN_prefix (k := k) (l := l) ⟨s, h2⟩
    exact ⟨t, rfl⟩
theorem octN_inj {a b : List Nat} (h : octN a = octN b) : a = b := by
  have h1 := octN_prefix (k := a) (l := b) ⟨[], by rw [List.append_nil, h]⟩
  have h2 := octN_prefix (k := b) (l := a) ⟨[], by rw [List.append_nil, h]⟩
  exact h1.eq_of_length (Nat.le_antisymm h1.length_le h2.length_le)
theorem octN_ne {k : List Nat} (h : k ≠ []) : octN k ≠ [] := fun q => h (octN_inj (q.trans octN_nil.symm))

/-- what is replaced in the text is replaced in its octets -/
theorem rep_oct {k v : List Nat} (hk : k ≠ []) : ∀ (n : Nat) (l : List Nat), l.length ≤ n → rep (octN k) (octN v) (octN l) = octN (rep k v l)
  | _, [], _ => rfl
  | 0, c :: r, h => absurd h (by simp)
  | n + 1, c :: r, h => by
    by_cases hp : k <+: c :: r
    · obtain ⟨t, ht⟩ := hp
      have hl := congrArg List.length ht
      rw [List.length_append, List.length_cons] at hl
      rw [List.length_cons] at h
      have hk1 : 0 < k.length := List.length_pos_iff.mpr hk
      rw [← ht, octN_app, rep_hit (octN_ne hk), rep_hit hk, octN_app, rep_oct hk n t (by omega)]
    · rw [rep_miss hp, octN_cons]
      have hp' : ¬ octN k <+: octN (c :: r) := fun q => hp (octN_prefix q)
      obtain ⟨b, t, e, hb, ht⟩ := octB_lead c
      rw [octN_cons, e, List.cons_append] at hp'
      rw [e, List.cons_append, rep_miss hp', octN_cons, e, List.cons_append]
      have ih := rep_oct hk (v := v) n r (by rw [List.length_cons] at h; omega)
      rw [rep_run, ih]
      intro j hj hq
      cases k with
      | nil => exact hk rfl
      | cons kc kr =>
        obtain ⟨b2, t2, e2, hb2, _⟩ := octB_lead kc
        rw [octN_cons, e2, List.drop_eq_getElem_cons hj, List.cons_append, List.cons_append] at hq
        have := (List.cons_prefix_cons.mp hq).1
        exact ht _ (List.getElem_mem hj) (this ▸ hb2)
theorem rep_octN {k : List Nat} (v l : List Nat) (hk : k ≠ []) : rep (octN k) (octN v) (octN l) = octN (rep k v l) := rep_oct hk _ l (Nat.le_refl _)
theorem octN_len (l : List Nat) : (octN l).length ≤ 3 * l.length := by
  induction l with
  | nil => exact Nat.zero_le _
  | cons c r ih =>
    rw [octN_cons, List.length_append, List.length_cons]
    have : (octB c).length ≤ 3 := by
      by_cases c1 : c < 128
      · unfold octB; rw [if_pos c1]; simp
      · unfold octB; rw [if_neg c1]; by_cases c2 : c < 2048 <;> simp [c2]
    omega
theorem octN_len_le (l : List Nat) : l.length ≤ (octN l).length := by
  induction l with
  | nil => exact Nat.zero_le _
  | cons c r ih =>
    rw [octN_cons, List.length_append, List.length_cons]
    obtain ⟨b, t, e, _⟩ := octB_lead c
    rw [e, List.length_cons]
    omega
theorem octB_ascii {a : Nat} (ha : a < 128) (c : Nat) : a ∈ octB c ↔ a = c := by
  unfold octB
  by_cases c1 : c < 128
  · rw [if_pos c1]; simp
  rw [if_neg c1]
  by_cases c2 : c < 2048
  · rw [if_pos c2]; simp; omega
  rw [if_neg c2]; simp; omega
theorem octN_ascii {a : Nat} (ha : a < 128) (l : List Nat) : a ∈ octN l ↔ a ∈ l := by
  rw [octN_flat, List.mem_flatMap]
  constructor
  · rintro ⟨c, hc, h⟩
    rw [octB_ascii ha] at h
    exact h ▸ hc
  · intro h
    exact ⟨a, h, (octB_ascii ha a).mpr rfl⟩

/-! one sign for a key -/
theorem rep_one (c : Nat) (v : List Nat) : ∀ l : List Nat, rep [c] v l = subL [c] v l
  | [] => rfl
  | d :: r => by
    have hs : subL [c] v (d :: r) = (if [d] = [c] then v else [d]) ++ subL [c] v r := rfl
    rw [hs, ← rep_one c v r]
    by_cases q : d = c
    · subst q
      rw [if_pos rfl]
      exact rep_hit (k := [d]) (by simp) r
    · rw [if_neg (by simpa using q), List.singleton_append]
      refine rep_miss fun h => q ?_
      exact (List.cons_prefix_cons.mp h).1.symm
theorem subL_app (k v a b : List Nat) : subL k v (a ++ b) = subL k v a ++ subL k v b := by simp [subL]
theorem subL_flat (k v : List Nat) (f : Nat → List Nat) (l : List Nat) : subL k v (l.flatMap f) = l.flatMap fun c => subL k v (f c) := by
  induction l with
  | nil => rfl
  | cons c r ih => rw [List.flatMap_cons, List.flatMap_cons, subL_app, ih]
theorem subs_flat (f : Nat → List Nat) (l : List Nat) : ∀ qs : List (List Nat × List Nat), subs qs (l.flatMap f) = l.flatMap fun c => subs qs (f c) := by
  intro qs
  induction qs generalizing f with
  | nil => rfl
  | cons q qs ih =>
    show subs qs (subL q.1 q.2 (l.flatMap f)) = l.flatMap fun c => subs qs (subL q.1 q.2 (f c))
    rw [subL_flat, ih]
theorem subL_free {k : Nat} {v : List Nat} : ∀ {l : List Nat}, k ∉ l → subL [k] v l = l
  | [], _ => rfl
  | d :: r, h => by
    have hs : subL [k] v (d :: r) = (if [d] = [k] then v else [d]) ++ subL [k] v r := rfl
    rw [hs, subL_free fun m => h (.tail _ m), if_neg (by intro q; injection q with q; exact h (q ▸ .head _)), List.singleton_append]

/-! one after the other -/
def repP (qs : List (List Nat × List Nat)) (l : List Nat) : List Nat := qs.foldl (fun l q => rep q.1 q.2 l) l
theorem replP_tx : ∀ (ps : List (Str × Str)) (l : List Nat), (∀ p ∈ ps, lst p.1 ≠ []) → replP ps (tx l) = tx (repP (psL ps) l)
  | [], _, _ => rfl
  | p :: ps, l, h => by
    show replP ps (Txt.replace (tx l) p.1 p.2) = tx (repP (psL ps) (rep (lst p.1) (lst p.2) l))
    have := replace_rep l (lst p.1) (lst p.2) (h p (.head _))
    rw [tx_lst, tx_lst] at this
    rw [this]
    exact replP_tx ps _ fun q hq => h q (.tail _ hq)
theorem repP_one : ∀ (qs : List (List Nat × List Nat)) (l : List Nat), (∀ q ∈ qs, ∃ c, q.1 = [c]) → repP qs l = subs qs l
  | [], _, _ => rfl
  | q :: qs, l, h => by
    obtain ⟨c, hc⟩ := h q (.head _)
    show repP qs (rep q.1 q.2 l) = subs qs (subL q.1 q.2 l)
    rw [hc, rep_one]
    exact repP_one qs _ fun q hq => h q (.tail _ hq)
def octP (qs : List (List Nat × List Nat)) : List (List Nat × List Nat) := qs.map fun q => (octN q.1, octN q.2)
theorem repP_oct : ∀ (qs : List (List Nat × List Nat)) (l : List Nat), (∀ q ∈ qs, q.1 ≠ []) → repP (octP qs) (octN l) = octN (repP qs l)
  | [], _, _ => rfl
  | q :: qs, l, h => by
    show repP (octP qs) (rep (octN q.1) (octN q.2) (octN l)) = octN (repP qs (rep q.1 q.2 l))
    rw [rep_octN _ _ (h q (.head _))]
    exact repP_oct qs _ fun q hq => h q (.tail _ hq)

/-! unescape is one pass from the left -/
def LT : List Nat := [38, 108, 116, 59]
def GT : List Nat := [38, 103, 116, 59]
def AM : List Nat := [38, 97, 109, 112, 59]
def U1 (l : List Nat) : List Nat := rep LT [60] l
def U2 (l : List Nat) : List Nat := rep GT [62] (U1 l)
def U3 (l : List Nat) : List Nat := rep AM [38] (U2 l)
theorem rep_back {k : List Nat} {x c : Nat} {r s : List Nat} (hk : k ≠ []) (h : rep k [x] r = c :: s) (hx : c ≠ x) : ∃ r', r = c :: r' ∧ s = rep k [x] r' := by
  cases r with
  | nil => cases h
  | cons d r =>
    by_cases hp : k <+: d :: r
    · obtain ⟨t, ht⟩ := hp
      rw [← ht, rep_hit hk] at h
      injection h with h1 h2
      exact absurd h1.symm hx
    · rw [rep_miss hp] at h
      injection h with h1 h2
      exact ⟨r, by rw [h1], h2.symm⟩
theorem rep_pre {k : List Nat} {x : Nat} (hk : k ≠ []) : ∀ {p r : List Nat}, x ∉ p → p <+: rep k [x] r → p <+: r
  | [], _, _, _ => List.nil_prefix
  | c :: p, r, hx, h => by
    obtain ⟨s, h⟩ := h
    rw [List.cons_append] at h
    obtain ⟨r', rfl, e⟩ := rep_back hk h.symm fun q => hx (q ▸ .head _)
    obtain ⟨t, rfl⟩ := rep_pre (p := p) hk (fun q => hx (.tail _ q)) ⟨s, e⟩
    exact ⟨t, rfl⟩
theorem rep_head {a c : Nat} {k v r : List Nat} (h : c ≠ a) : rep (a :: k) v (c :: r) = c :: rep (a :: k) v r :=
  rep_miss fun q => h (List.cons_prefix_cons.mp q).1.symm
theorem rep_head2 {a b c : Nat} {k v r : List Nat} (h : c ≠ b) : rep (a :: b :: k) v (a :: c :: r) = a :: rep (a :: b :: k) v (c :: r) :=
  rep_miss fun q => h (List.cons_prefix_cons.mp (List.cons_prefix_cons.mp q).2).1.symm
theorem U_nil : U3 [] = [] := rfl
theorem U_lt (r : List Nat) : U3 (LT ++ r) = 60 :: U3 r := by
  unfold U3 U2 U1
  rw [rep_hit (k := LT) (by decide), List.singleton_append]
  unfold GT AM
  rw [rep_head (by decide), rep_head (by decide)]
theorem U_gt (r : List Nat) : U3 (GT ++ r) = 62 :: U3 r := by
  have e : U1 (GT ++ r) = GT ++ U1 r := by
    unfold U1 LT GT
    simp only [List.cons_append, List.nil_append]
    rw [rep_head2 (by decide), rep_head (by decide), rep_head (by decide), rep_head (by decide)]
  unfold U3 U2
  rw [e, rep_hit (k := GT) (by decide), List.singleton_append]
  unfold AM
  rw [rep_head (by decide)]
theorem U_am (r : List Nat) : U3 (AM ++ r) = 38 :: U3 r := by
  have e : U1 (AM ++ r) = AM ++ U1 r := by
    unfold U1 LT AM
    simp only [List.cons_append, List.nil_append]
    rw [rep_head2 (by decide), rep_head (by decide), rep_head (by decide), rep_head (by decide), rep_head (by decide)]
  have e2 : U2 (AM ++ r) = AM ++ U2 r := by
    unfold U2
    rw [e]
    unfold GT AM
    simp only [List.cons_append, List.nil_append]
    rw [rep_head2 (by decide), rep_head (by decide), rep_head (by decide), rep_head (by decide), rep_head (by decide)]
  unfold U3
  rw [e2, rep_hit (k := AM) (by decide), List.singleton_append]
theorem U_else {c : Nat} {r : List Nat} (h1 : ¬ LT <+: c :: r) (h2 : ¬ GT <+: c :: r) (h3 : ¬ AM <+: c :: r) : U3 (c :: r) = c :: U3 r := by
  have e1 : U1 (c :: r) = c :: U1 r := rep_miss h1
  have n2 : ¬ GT <+: c :: U1 r := fun q => h2 (by
    unfold GT at q ⊢
    obtain ⟨hc, q2⟩ := List.cons_prefix_cons.mp q
    exact List.cons_prefix_cons.mpr ⟨hc, rep_pre (k := LT) (x := 60) (by decide) (by decide) q2⟩)
  have e2 : U2 (c :: r) = c :: U2 r := by unfold U2; rw [e1, rep_miss n2]
  have n3 : ¬ AM <+: c :: U2 r := fun q => h3 (by
    unfold AM at q ⊢
    obtain ⟨hc, q2⟩ := List.cons_prefix_cons.mp q
    exact List.cons_prefix_cons.mpr ⟨hc, rep_pre (k := LT) (x := 60) (by decide) (by decide) (rep_pre (k := GT) (x := 62) (by decide) (by decide) q2)⟩)
  unfold U3
  rw [e2, rep_miss n3]
theorem take_pre {k l : List Nat} : l.take k.length = k ↔ k <+: l := ⟨fun h => List.prefix_iff_eq_take.mpr h.symm, fun h => (List.prefix_iff_eq_take.mp h).symm⟩
theorem fromN_U : ∀ (n : Nat) (l : List Nat), l.length ≤ n → fromN n l = U3 l
  | 0, l, h => by rw [List.length_eq_zero_iff.mp (Nat.le_zero.mp h)]; rfl
  | n + 1, l, h => by
    unfold fromN
    by_cases c1 : l.take 5 = [38, 97, 109, 112, 59]
    · rw [if_pos c1]
      obtain ⟨r, rfl⟩ := (take_pre (k := AM)).mp c1
      have := fromN_U n r (by rw [List.length_append] at h; have : AM.length = 5 := rfl; omega)
      rw [U_am, show (AM ++ r).drop 5 = r from rfl, this]
    rw [if_neg c1]
    by_cases c2 : l.take 4 = [38, 108, 116, 59]
    · rw [if_pos c2]
      obtain ⟨r, rfl⟩ := (take_pre (k := LT)).mp c2
      have := fromN_U n r (by rw [List.length_append] at h; have : LT.length = 4 := rfl; omega)
      rw [U_lt, show (LT ++ r).drop 4 = r from rfl, this]
    rw [if_neg c2]
    by_cases c3 : l.take 4 = [38, 103, 116, 59]
    · rw [if_pos c3]
      obtain ⟨r, rfl⟩ := (take_pre (k := GT)).mp c3
      have := fromN_U n r (by rw [List.length_append] at h; have : GT.length = 4 := rfl; omega)
      rw [U_gt, show (GT ++ r).drop 4 = r from rfl, this]
    rw [if_neg c3]
    cases l with
    | nil => rfl
    | cons c r =>
      show c :: fromN n r = _
      rw [U_else (fun q => c2 (take_pre.mpr q)) (fun q => c3 (take_pre.mpr q)) (fun q => c1 (take_pre.mpr q)), fromN_U n r (by rw [List.length_cons] at h; omega)]
theorem fromL_U (l : List Nat) : fromL l = U3 l := fromN_U _ _ (Nat.le_refl _)
/-- from the left: never longer, no new signs -/
theorem fromN_len : ∀ (n : Nat) (l : List Nat), (octN (fromN n l)).length ≤ (octN l).length ∧ (fromN n l).length ≤ l.length ∧ ∀ c ∈ fromN n l, c ∈ l ∨ c = 38 ∨ c = 60 ∨ c = 62
  | 0, l => ⟨Nat.zero_le _, Nat.zero_le _, fun _ h => nomatch h⟩
  | n + 1, l => by
    have step : ∀ (K : List Nat) (x : Nat), x < 128 → (x = 38 ∨ x = 60 ∨ x = 62) → K ≠ [] → l.take K.length = K → (octN (x :: fromN n (l.drop K.length))).length ≤ (octN l).length ∧ (x :: fromN n (l.drop K.length)).length ≤ l.length ∧ ∀ c ∈ x :: fromN n (l.drop K.length), c ∈ l ∨ c = 38 ∨ c = 60 ∨ c = 62 := by
      intro K x hx hx2 hK e
      obtain ⟨r, rfl⟩ := take_pre.mp e
      rw [List.drop_left]
      obtain ⟨i1, i2, i3⟩ := fromN_len n r
      have hk1 : 0 < K.length := List.length_pos_iff.mpr hK
      have hk2 := octN_len_le K
      have e1 : octB x = [x] := by unfold octB; rw [if_pos hx]
      refine ⟨?_, ?_, ?_⟩
      · rw [octN_cons, e1, octN_app, List.length_append, List.length_append, List.length_singleton]; omega
      · rw [List.length_append, List.length_cons]; omega
      · intro c hc
        rcases List.mem_cons.mp hc with rfl | hc
        · exact .inr hx2
        · rcases i3 c hc with h | h
          · exact .inl (List.mem_append_right _ h)
          · exact .inr h
    unfold fromN
    by_cases c1 : l.take 5 = [38, 97, 109, 112, 59]
    · rw [if_pos c1]; exact step AM 38 (by decide) (by decide) (by decide) c1
    rw [if_neg c1]
    by_cases c2 : l.take 4 = [38, 108, 116, 59]
    · rw [if_pos c2]; exact step LT 60 (by decide) (by decide) (by decide) c2
    rw [if_neg c2]
    by_cases c3 : l.take 4 = [38, 103, 116, 59]
    · rw [if_pos c3]; exact step GT 62 (by decide) (by decide) (by decide) c3
    rw [if_neg c3]
    cases l with
    | nil => exact ⟨Nat.zero_le _, Nat.zero_le _, fun _ h => nomatch h⟩
    | cons c r =>
      obtain ⟨i1, i2, i3⟩ := fromN_len n r
      refine ⟨?_, ?_, ?_⟩
      · show (octN (c :: fromN n r)).length ≤ _
        rw [octN_cons, octN_cons, List.length_append, List.length_append]; omega
      · show (c :: fromN n r).length ≤ _
        rw [List.length_cons, List.length_cons]; omega
      · intro d hd
        rcases List.mem_cons.mp (show d ∈ c :: fromN n r from hd) with rfl | hd
        · exact .inl (.head _)
        · rcases i3 d hd with h | h
          · exact .inl (.tail _ h)
          · exact .inr h
def L0 : List (List Nat) := [[38, 97, 109, 112, 59], [38, 108, 116, 59], [38, 103, 116, 59], [34], [39], [10], [233], [169], [195], [8364]]
def L1 : List (List Nat) := [[38, 97, 109, 112, 59], [38, 108, 116, 59], [38, 103, 116, 59], [34], [39], [10], [233], [169], [195], [8364], [], [38, 101, 59], [8364, 38]]
def L2 : List (List Nat) := [[38, 97, 109, 112, 59], [38, 108, 116, 59], [38, 103, 116, 59], [34], [39], [10], [233], [169], [195], [8364], [], [38, 101, 59], [8364, 38], [97, 109, 112, 59], [38, 101, 59, 97, 109, 112, 59], [8364, 38, 97, 109, 112, 59], [34, 97, 109, 112, 59], [108, 116, 59], [38, 101, 59, 108, 116, 59], [8364, 38, 108, 116, 59], [34, 108, 116, 59], [103, 116, 59], [38, 101, 59, 103, 116, 59], [8364, 38, 103, 116, 59], [34, 103, 116, 59], [101, 59], [38, 101, 59, 101, 59], [8364, 38, 101, 59], [34, 101, 59], [38], [38, 101, 59, 38], [8364, 38, 38], [34, 38], [8364, 8364, 38], [8364, 34]]
def L3 : List (List Nat) := [[38, 97, 109, 112, 59], [38, 108, 116, 59], [38, 103, 116, 59], [34], [39], [10], [233], [169], [195], [8364], [], [38, 101, 59], [8364, 38], [97, 109, 112, 59], [38, 101, 59, 97, 109, 112, 59], [8364, 38, 97, 109, 112, 59], [34, 97, 109, 112, 59], [108, 116, 59], [38, 101, 59, 108, 116, 59], [8364, 38, 108, 116, 59], [34, 108, 116, 59], [103, 116, 59], [38, 101, 59, 103, 116, 59], [8364, 38, 103, 116, 59], [34, 103, 116, 59], [101, 59], [38, 101, 59, 101, 59], [8364, 38, 101, 59], [34, 101, 59], [38], [38, 101, 59, 38], [8364, 38, 38], [34, 38], [8364, 8364, 38], [8364, 34], [101, 59, 97, 109, 112, 59], [38, 101, 59, 101, 59, 97, 109, 112, 59], [8364, 38, 101, 59, 97, 109, 112, 59], [34, 101, 59, 97, 109, 112, 59], [38, 101, 59, 38, 97, 109, 112, 59], [8364, 38, 38, 97, 109, 112, 59], [34, 38, 97, 109, 112, 59], [8364, 97, 109, 112, 59], [8364, 8364, 38, 97, 109, 112, 59], [8364, 34, 97, 109, 112, 59], [101, 59, 108, 116, 59], [38, 101, 59, 101, 59, 108, 116, 59], [8364, 38, 101, 59, 108, 116, 59], [34, 101, 59, 108, 116, 59], [38, 101, 59, 38, 108, 116, 59], [8364, 38, 38, 108, 116, 59], [34, 38, 108, 116, 59], [8364, 108, 116, 59], [8364, 8364, 38, 108, 116, 59], [8364, 34, 108, 116, 59], [101, 59, 103, 116, 59], [38, 101, 59, 101, 59, 103, 116, 59], [8364, 38, 101, 59, 103, 116, 59], [34, 101, 59, 103, 116, 59], [38, 101, 59, 38, 103, 116, 59], [8364, 38, 38, 103, 116, 59], [34, 38, 103, 116, 59], [8364, 103, 116, 59], [8364, 8364, 38, 103, 116, 59], [8364, 34, 103, 116, 59], [101, 59, 101, 59], [38, 101, 59, 101, 59, 101, 59], [8364, 38, 101, 59, 101, 59], [34, 101, 59, 101, 59], [38, 101, 59, 38, 101, 59], [8364, 38, 38, 101, 59], [34, 38, 101, 59], [8364, 101, 59], [8364, 8364, 38, 101, 59], [8364, 34, 101, 59], [38, 101, 59, 101, 59, 38, 101, 59], [8364, 38, 101, 59, 8364, 38], [34, 101, 59, 34], [38, 38], [38, 101, 59, 38, 38], [8364, 38, 38, 38], [34, 38, 38], [8364, 38, 101, 59, 38, 101, 59], [8364, 8364, 38, 8364, 38], [8364, 34, 34], [34, 8364, 38], [34, 34], [38, 101, 59, 38, 101, 59, 38], [8364, 38, 8364, 38, 38], [34, 34, 38], [8364, 8364], [8364, 8364, 8364, 38], [8364, 8364, 34], [38, 101, 59, 34], [8364, 38, 34]]
def NL : List Nat × List Nat := ([10], [38, 35, 49, 48, 59])
def CR : List Nat × List Nat := ([13], [38, 35, 49, 51, 59])
def TB : List Nat × List Nat := ([9], [38, 35, 57, 59])
def QU : List Nat := [38, 113, 117, 111, 116, 59]
theorem pc0 : ∀ c ∈ LETS, ref1 c ∈ L0 := by decide +kernel
theorem pc1 : ∀ p ∈ L0, ∀ v ∈ VALS, subL [233] v p ∈ L1 := by decide +kernel
theorem pc2 : ∀ p ∈ L1, ∀ k ∈ KEYS, ∀ v ∈ VALS, subL k v p ∈ L2 := by decide +kernel
theorem pc3 : ∀ p ∈ L2, ∀ k ∈ KEYS, ∀ v ∈ VALS, subL k v p ∈ L3 := by decide +kernel
theorem pc03 : ∀ p ∈ L0, p ∈ L3 := by decide +kernel
theorem pc13 : ∀ p ∈ L1, p ∈ L3 := by decide +kernel
theorem pc23 : ∀ p ∈ L2, p ∈ L3 := by decide +kernel
theorem fine1 : ∀ p ∈ L3, p.length ≤ 15 ∧ (p.flatMap octB).length ≤ 15 ∧ ∀ c ∈ p, c < 65536 := by decide +kernel
theorem fine2 : ∀ p ∈ L3, (subL [10] NL.2 p).length ≤ 15 ∧ ((subL [10] NL.2 p).flatMap octB).length ≤ 15 ∧ ∀ c ∈ subL [10] NL.2 p, c < 65536 ∧ c ≠ 13 ∧ c ≠ 9 := by decide +kernel
theorem fine3 : ∀ p ∈ L3, (subL [34] QU (subL [10] NL.2 p)).length ≤ 15 ∧ ((subL [34] QU (subL [10] NL.2 p)).flatMap octB).length ≤ 15 ∧ ∀ c ∈ subL [34] QU (subL [10] NL.2 p), c < 65536 := by decide +kernel
theorem fineL : ∀ c ∈ LETS, (octB c).length ≤ 3 ∧ c < 65536 := by decide +kernel
/-- what escape and quoteattr need and give -/
structure EscOk (x : Str) (ps : List (Str × Str)) (wr qu : List Nat) : Prop where
  l0 : x.length ≤ 10000
  l1 : (e1 x).length ≤ 10000
  l2 : (e2 x).length ≤ 10000
  lr : ∀ i, (replP (ps.take i) (e3 x)).length ≤ 10000
  lq : ∀ i, (replP ((ps ++ nrt).take i) (e3 x)).length ≤ 10000
  lqq : (Txt.replace (replP (ps ++ nrt) (e3 x)) (Str.ofString "\"") (Str.ofString "&quot;")).length ≤ 10000
  esc : replP ps (e3 x) = tx wr
  quo : qform (replP (ps ++ nrt) (e3 x)) = tx qu
structure UnOk (x : Str) (op : List Nat) : Prop where
  l0 : x.length ≤ 10000
  l1 : (u1 x).length ≤ 10000
  l2 : (u2 x).length ≤ 10000
  un : u3 x = tx op
def oct8 (ps : List (Str × Str)) : List (Str × Str) := ps.map fun p => (tx (octN (lst p.1)), tx (octN (lst p.2)))
structure TextOk (l : List Nat) : Prop where
  oc : (octs l).length < 256
  ln : l.length ≤ 1000
  sg : ∀ c ∈ l, c < 65536

/-! the same in lists -/
def E1 (l : List Nat) : List Nat := rep [38] AM l
def E2 (l : List Nat) : List Nat := rep [62] GT (E1 l)
def E3 (l : List Nat) : List Nat := rep [60] LT (E2 l)
theorem e1_tx (l : List Nat) : e1 (tx l) = tx (E1 l) := replace_rep l [38] AM (by decide)
theorem e2_tx (l : List Nat) : e2 (tx l) = tx (E2 l) := by
  unfold e2
  rw [e1_tx]
  exact replace_rep _ [62] GT (by decide)
theorem e3_tx (l : List Nat) : e3 (tx l) = tx (E3 l) := by
  unfold e3
  rw [e2_tx]
  exact replace_rep _ [60] LT (by decide)
theorem u1_tx (l : List Nat) : u1 (tx l) = tx (U1 l) := replace_rep l LT [60] (by decide)
theorem u2_tx (l : List Nat) : u2 (tx l) = tx (U2 l) := by
  unfold u2
  rw [u1_tx]
  exact replace_rep _ GT [62] (by decide)
theorem u3_tx (l : List Nat) : u3 (tx l) = tx (U3 l) := by
  unfold u3
  rw [u2_tx]
  exact replace_rep _ AM [38] (by decide)
theorem oAM : octN AM = AM := by decide
theorem oGT : octN GT = GT := by decide
theorem oLT : octN LT = LT := by decide
theorem oQU : octN QU = QU := by decide
theorem o1 {c : Nat} (h : c < 128) : octN [c] = [c] := by rw [octN_cons, octN_nil, List.append_nil, octB, if_pos h]
theorem E1_oct (l : List Nat) : E1 (octN l) = octN (E1 l) := by
  have := rep_octN (k := [38]) AM l (by decide)
  rw [oAM, o1 (by decide)] at this
  exact this
theorem E2_oct (l : List Nat) : E2 (octN l) = octN (E2 l) := by
  have := rep_octN (k := [62]) GT (E1 l) (by decide)
  rw [oGT, o1 (by decide), ← E1_oct] at this
  exact this
theorem E3_oct (l : List Nat) : E3 (octN l) = octN (E3 l) := by
  have := rep_octN (k := [60]) LT (E2 l) (by decide)
  rw [oLT, o1 (by decide), ← E2_oct] at this
  exact this
theorem U1_oct (l : List Nat) : U1 (octN l) = octN (U1 l) := by
  have := rep_octN (k := LT) [60] l (by decide)
  rw [oLT, o1 (by decide)] at this
  exact this
theorem U2_oct (l : List Nat) : U2 (octN l) = octN (U2 l) := by
  have := rep_octN (k := GT) [62] (U1 l) (by decide)
  rw [oGT, o1 (by decide), ← U1_oct] at this
  exact this
theorem U3_oct (l : List Nat) : U3 (octN l) = octN (U3 l) := by
  have := rep_octN (k := AM) [38] (U2 l) (by decide)
  rw [oAM, o1 (by decide), ← U2_oct] at this
  exact this
theorem E3_flat (l : List Nat) : E3 l = l.flatMap ref1 := by
  have e : E3 l = subs [([38], AM), ([62], GT), ([60], LT)] (l.flatMap fun c => [c]) := by
    unfold E3 E2 E1
    rw [rep_one, rep_one, rep_one]
    simp [subs]
  rw [e, subs_flat]
  congr 1
  funext c
  unfold ref1
  by_cases c1 : c = 62
  · subst c1; decide
  rw [if_neg c1]
  by_cases c2 : c = 60
  · subst c2; decide
  rw [if_neg c2]
  by_cases c3 : c = 38
  · subst c3; decide
  rw [if_neg c3]
  have h : ∀ (k : Nat) (v : List Nat), c ≠ k → subL [k] v [c] = [c] := fun k v h => subL_free fun m => h (List.mem_singleton.mp m).symm
  show subL [60] LT (subL [62] GT (subL [38] AM [c])) = [c]
  rw [h 38 _ c3, h 62 _ c1, h 60 _ c2]

def NRT : List (List Nat × List Nat) := [NL, CR, TB]
theorem psL_nrt (ps : List (Str × Str)) : psL (ps ++ nrt) = psL ps ++ NRT := by rw [psL, List.map_append]; rfl
theorem psL_take (ps : List (Str × Str)) (i : Nat) : psL (ps.take i) = (psL ps).take i := by rw [psL, List.map_take]; rfl
theorem psL_oct8 (ps : List (Str × Str)) : psL (oct8 ps) = octP (psL ps) := by
  rw [psL, oct8, octP, psL, List.map_map, List.map_map]
  apply List.map_congr_left
  intro p _
  show (lst (tx _), lst (tx _)) = _
  rw [lst_tx, lst_tx]
  rfl
theorem octP_nrt : octP NRT = NRT := by decide
theorem octP_app (a b : List (List Nat × List Nat)) : octP (a ++ b) = octP a ++ octP b := by simp [octP]
theorem octP_take (a : List (List Nat × List Nat)) (i : Nat) : octP (a.take i) = (octP a).take i := by simp [octP, List.map_take]
/-- the last of quoteattr, in lists -/
def qfL (z : List Nat) : List Nat := if 34 ∈ z then (if 39 ∈ z then 34 :: rep [34] QU z ++ [34] else 39 :: z ++ [39]) else 34 :: z ++ [34]
theorem qform_tx (z : List Nat) : qform (tx z) = tx (qfL z) := by
  have h1 : hasS (tx z) (Str.ofString "\"") = decide (34 ∈ z) := by
    have := occ_one z 34
    unfold hasS
    rw [show Str.ofString "\"" = (⟨#[34]⟩ : Str) from rfl, this, Bool.not_not]
  have h2 : hasS (tx z) (Str.ofString "'") = decide (39 ∈ z) := by
    have := occ_one z 39
    unfold hasS
    rw [show Str.ofString "'" = (⟨#[39]⟩ : Str) from rfl, this, Bool.not_not]
  have h3 : Txt.replace (tx z) (Str.ofString "\"") (Str.ofString "&quot;") = tx (rep [34] QU z) := replace_rep z [34] QU (by decide)
  unfold qform qfL
  rw [h1, h2, h3]
  have a : ∀ (c : Nat) (y : List Nat), tx [c] ++ tx y ++ tx [c] = tx (c :: y ++ [c]) := fun c y => by rw [tx_app, tx_app]; rfl
  by_cases c1 : 34 ∈ z
  · rw [if_pos (decide_eq_true c1), if_pos c1]
    by_cases c2 : 39 ∈ z
    · rw [if_pos (decide_eq_true c2), if_pos c2]; exact a 34 _
    · rw [if_neg (by simpa using c2), if_neg c2]; exact a 39 _
  · rw [if_neg (by simpa using c1), if_neg c1]; exact a 34 _
theorem qfL_oct (z : List Nat) : qfL (octN z) = octN (qfL z) := by
  have := rep_octN (k := [34]) QU z (by decide)
  rw [oQU, o1 (by decide)] at this
  unfold qfL
  rw [this]
  have a : ∀ (c : Nat) (y : List Nat), c < 128 → c :: octN y ++ [c] = octN (c :: y ++ [c]) := fun c y h => by
    rw [List.cons_append, List.cons_append, octN_cons, octN_app, o1 h, octB, if_pos h]; rfl
  by_cases c1 : 34 ∈ z
  · rw [if_pos ((octN_ascii (by decide) z).mpr c1), if_pos c1]
    by_cases c2 : 39 ∈ z
    · rw [if_pos ((octN_ascii (by decide) z).mpr c2), if_pos c2]; exact a 34 _ (by decide)
    · rw [if_neg (fun q => c2 ((octN_ascii (by decide) z).mp q)), if_neg c2]; exact a 39 _ (by decide)
  · rw [if_neg (fun q => c1 ((octN_ascii (by decide) z).mp q)), if_neg c1]; exact a 34 _ (by decide)

structure EscL (n : Nat) (l : List Nat) (qs : List (List Nat × List Nat)) (wr qu : List Nat) : Prop where
  ne : ∀ q ∈ qs, q.1 ≠ []
  l0 : l.length ≤ n
  l1 : (E1 l).length ≤ n
  l2 : (E2 l).length ≤ n
  lr : ∀ i, (repP (qs.take i) (E3 l)).length ≤ n
  lq : ∀ i, (repP ((qs ++ NRT).take i) (E3 l)).length ≤ n
  lqq : (rep [34] QU (repP (qs ++ NRT) (E3 l))).length ≤ n
  esc : repP qs (E3 l) = wr
  quo : qfL (repP (qs ++ NRT) (E3 l)) = qu
theorem ne_nrt {qs : List (List Nat × List Nat)} (h : ∀ q ∈ qs, q.1 ≠ []) : ∀ q ∈ qs ++ NRT, q.1 ≠ [] := fun q hq => by
  rcases List.mem_append.mp hq with hq | hq
  · exact h q hq
  · simp only [NRT, List.mem_cons, List.not_mem_nil, or_false] at hq
    rcases hq with rfl | rfl | rfl <;> decide
theorem EscL.ok {n : Nat} (hn : n ≤ 10000) {l : List Nat} {ps : List (Str × Str)} {wr qu : List Nat} (x : EscL n l (psL ps) wr qu) : EscOk (tx l) ps wr qu := by
  have ne1 : ∀ p ∈ ps, lst p.1 ≠ [] := fun p hp => x.ne (lst p.1, lst p.2) (List.mem_map_of_mem (f := fun p : Str × Str => (lst p.1, lst p.2)) hp)
  have ne2 : ∀ p ∈ ps ++ nrt, lst p.1 ≠ [] := fun p hp => by
    rcases List.mem_append.mp hp with hp | hp
    · exact ne1 p hp
    · simp only [nrt, List.mem_cons, List.not_mem_nil, or_false] at hp
      rcases hp with rfl | rfl | rfl
      · show lst (tx [10]) ≠ []; rw [lst_tx]; decide
      · show lst (tx [13]) ≠ []; rw [lst_tx]; decide
      · show lst (tx [9]) ≠ []; rw [lst_tx]; decide
  have r1 : ∀ i, replP (ps.take i) (tx (E3 l)) = tx (repP ((psL ps).take i) (E3 l)) := fun i => by
    rw [replP_tx _ _ fun p hp => ne1 p (List.mem_of_mem_take hp), psL_take]
  have r2 : ∀ i, replP ((ps ++ nrt).take i) (tx (E3 l)) = tx (repP ((psL ps ++ NRT).take i) (E3 l)) := fun i => by
    rw [replP_tx _ _ fun p hp => ne2 p (List.mem_of_mem_take hp), psL_take, psL_nrt]
  have r3 : replP (ps ++ nrt) (tx (E3 l)) = tx (repP (psL ps ++ NRT) (E3 l)) := by rw [replP_tx _ _ ne2, psL_nrt]
  refine ⟨?_, ?_, ?_, fun i => ?_, fun i => ?_, ?_, ?_, ?_⟩
  · rw [tx_len]; exact Nat.le_trans x.l0 hn
  · rw [e1_tx, tx_len]; exact Nat.le_trans x.l1 hn
  · rw [e2_tx, tx_len]; exact Nat.le_trans x.l2 hn
  · rw [e3_tx, r1, tx_len]; exact Nat.le_trans (x.lr i) hn
  · rw [e3_tx, r2, tx_len]; exact Nat.le_trans (x.lq i) hn
  · rw [e3_tx, r3, show Str.ofString "\"" = tx [34] from rfl, show Str.ofString "&quot;" = tx QU from rfl, replace_rep _ [34] QU (by decide), tx_len]; exact Nat.le_trans x.lqq hn
  · rw [e3_tx, replP_tx _ _ ne1, x.esc]
  · rw [e3_tx, r3, qform_tx, x.quo]
theorem EscL.oct {n : Nat} {l : List Nat} {qs : List (List Nat × List Nat)} {wr qu : List Nat} (x : EscL n l qs wr qu) : EscL (3 * n) (octN l) (octP qs) (octN wr) (octN qu) := by
  have up : ∀ {y : List Nat}, y.length ≤ n → (octN y).length ≤ 3 * n := fun {y} h => by have := octN_len y; omega
  have e : octP qs ++ NRT = octP (qs ++ NRT) := by rw [octP_app, octP_nrt]
  have ne2 := ne_nrt x.ne
  have hq : rep [34] QU (octN (repP (qs ++ NRT) (E3 l))) = octN (rep [34] QU (repP (qs ++ NRT) (E3 l))) := by
    have := rep_octN (k := [34]) QU (repP (qs ++ NRT) (E3 l)) (by decide)
    rw [oQU, o1 (by decide)] at this
    exact this
  refine ⟨fun q hq => ?_, up x.l0, ?_, ?_, fun i => ?_, fun i => ?_, ?_, ?_, ?_⟩
  · obtain ⟨p, hp, rfl⟩ := List.mem_map.mp hq
    exact octN_ne (x.ne p hp)
  · rw [E1_oct]; exact up x.l1
  · rw [E2_oct]; exact up x.l2
  · rw [E3_oct, ← octP_take, repP_oct _ _ fun q hq => x.ne q (List.mem_of_mem_take hq)]; exact up (x.lr i)
  · rw [E3_oct, e, ← octP_take, repP_oct _ _ fun q hq => ne2 q (List.mem_of_mem_take hq)]; exact up (x.lq i)
  · rw [E3_oct, e, repP_oct _ _ ne2, hq]; exact up x.lqq
  · rw [E3_oct, repP_oct _ _ x.ne, x.esc]
  · rw [E3_oct, e, repP_oct _ _ ne2, qfL_oct, x.quo]

/-! the pieces -/
theorem subs_app (a b : List (List Nat × List Nat)) (p : List Nat) : subs (a ++ b) p = subs b (subs a p) := by
  unfold subs
  rw [List.foldl_append]
theorem piece {qs : List (List Nat × List Nat)} (hT : Tab qs) {c : Nat} (hc : c ∈ LETS) (j : Nat) : subs (qs.take j) (ref1 c) ∈ L3 := by
  obtain ⟨⟨v, r, rfl⟩, hl, hm⟩ := hT
  have h0 := pc0 c hc
  cases j with
  | zero => exact pc03 _ h0
  | succ j =>
    have hv := (hm _ (.head _)).2
    have h1 := pc1 _ h0 v hv
    rw [List.take_succ_cons]
    have hr : ∀ p ∈ r.take j, p.1 ∈ KEYS ∧ p.2 ∈ VALS := fun p hp => hm p (.tail _ (List.mem_of_mem_take hp))
    have hrl : (r.take j).length ≤ 2 := by rw [List.length_take]; rw [List.length_cons] at hl; omega
    show subs (r.take j) (subL [233] v (ref1 c)) ∈ L3
    generalize r.take j = t at hr hrl
    cases t with
    | nil => exact pc13 _ h1
    | cons a t =>
      have ha := hr a (.head _)
      have h2 := pc2 _ h1 a.1 ha.1 a.2 ha.2
      cases t with
      | nil => exact pc23 _ h2
      | cons b t =>
        have hb := hr b (.tail _ (.head _))
        have h3 := pc3 _ h2 b.1 hb.1 b.2 hb.2
        cases t with
        | nil => exact h3
        | cons _ _ => simp only [List.length_cons] at hrl; omega
theorem piece' {qs : List (List Nat × List Nat)} (hT : Tab qs) {c : Nat} (hc : c ∈ LETS) : subs qs (ref1 c) ∈ L3 := by
  have := piece hT hc qs.length
  rwa [List.take_length] at this
theorem pieceN {qs : List (List Nat × List Nat)} (hT : Tab qs) {c : Nat} (hc : c ∈ LETS) : subs (qs ++ [NL]) (ref1 c) = subL [10] NL.2 (subs qs (ref1 c)) := subs_app _ _ _
theorem pieceNRT {qs : List (List Nat × List Nat)} (hT : Tab qs) {c : Nat} (hc : c ∈ LETS) (i : Nat) : subs (NRT.take (i + 1)) (subs qs (ref1 c)) = subL [10] NL.2 (subs qs (ref1 c)) := by
  have hf := (fine2 _ (piece' hT hc)).2.2
  generalize subs qs (ref1 c) = p at hf
  have h13 : subL [13] CR.2 (subL [10] NL.2 p) = subL [10] NL.2 p := subL_free fun m => (hf _ m).2.1 rfl
  have h9 : subL [9] TB.2 (subL [10] NL.2 p) = subL [10] NL.2 p := subL_free fun m => (hf _ m).2.2 rfl
  match i with
  | 0 => rfl
  | 1 => exact h13
  | n + 2 =>
    have e : NRT.take (n + 2 + 1) = NRT := List.take_of_length_le (by show 3 ≤ _; omega)
    rw [e]
    show subL [9] TB.2 (subL [13] CR.2 (subL [10] NL.2 p)) = _
    rw [h13, h9]
theorem flat_len {f : Nat → List Nat} {n : Nat} : ∀ {x : List Nat}, (∀ c ∈ x, (f c).length ≤ n) → (x.flatMap f).length ≤ n * x.length
  | [], _ => Nat.zero_le _
  | c :: r, h => by
    have a := h c (.head _)
    have b := flat_len (f := f) (n := n) (x := r) fun d hd => h d (.tail _ hd)
    rw [List.flatMap_cons, List.length_append, List.length_cons, Nat.mul_succ]
    omega
theorem octN_flatMap (f : Nat → List Nat) (l : List Nat) : octN (l.flatMap f) = l.flatMap fun c => octN (f c) := by
  induction l with
  | nil => rfl
  | cons c r ih => rw [List.flatMap_cons, octN_app, ih, List.flatMap_cons]
theorem single {qs : List (List Nat × List Nat)} (hT : Tab qs) : ∀ q ∈ qs, ∃ c, q.1 = [c] := fun q hq => by
  have h := (hT.2.2 q hq).1
  revert h
  have : ∀ k ∈ KEYS, ∃ c, k = [c] := by
    intro k hk
    simp only [KEYS, List.mem_cons, List.not_mem_nil, or_false] at hk
    rcases hk with rfl | rfl | rfl | rfl | rfl <;> exact ⟨_, rfl⟩
  exact this _
theorem singleN {qs : List (List Nat × List Nat)} (hT : Tab qs) : ∀ q ∈ qs ++ NRT, ∃ c, q.1 = [c] := fun q hq => by
  rcases List.mem_append.mp hq with hq | hq
  · exact single hT q hq
  · simp only [NRT, List.mem_cons, List.not_mem_nil, or_false] at hq
    rcases hq with rfl | rfl | rfl <;> exact ⟨_, rfl⟩
theorem repP_flat {qs : List (List Nat × List Nat)} (h : ∀ q ∈ qs, ∃ c, q.1 = [c]) (l : List Nat) : repP qs (E3 l) = l.flatMap fun c => subs qs (ref1 c) := by
  rw [repP_one _ _ h, E3_flat, subs_flat]
theorem quot1_flat (z : List Nat) : rep [34] QU z = z.flatMap quot1 := by
  rw [rep_one, subL]
  congr 1
  funext c
  unfold quot1
  by_cases h : c = 34
  · rw [if_pos (by rw [h]), if_pos h]; rfl
  · rw [if_neg (by simpa using h), if_neg h]
section
variable {lt : List Nat} {ps : List (Str × Str)} (hT : Tab (psL ps)) (hl : lt.length ≤ 13) (hc : ∀ c ∈ lt, c ∈ LETS)
include hT hc
theorem bound_w : ∀ c ∈ lt, ∀ j, (subs ((psL ps).take j) (ref1 c)).length ≤ 100 := fun c h j => by
  have := (fine1 _ (piece hT (hc c h) j)).1
  omega
theorem bound_n : ∀ c ∈ lt, ∀ j, (subs ((psL ps ++ NRT).take j) (ref1 c)).length ≤ 15 := fun c h j => by
  by_cases q : j ≤ (psL ps).length
  · rw [List.take_append_of_le_length q]
    exact (fine1 _ (piece hT (hc c h) j)).1
  · obtain ⟨i, rfl⟩ : ∃ i, j = (psL ps).length + (i + 1) := ⟨j - (psL ps).length - 1, by omega⟩
    rw [List.take_append, List.take_of_length_le (Nat.le_add_right _ _), Nat.add_sub_cancel_left, subs_app, pieceNRT hT (hc c h)]
    exact (fine2 _ (piece' hT (hc c h))).1
theorem bound_q : ∀ c ∈ lt, ∀ j, (subs ((psL ps ++ [NL]).take j) (ref1 c)).length ≤ 100 := fun c h j => by
  by_cases q : j ≤ (psL ps).length
  · rw [List.take_append_of_le_length q]
    have := (fine1 _ (piece hT (hc c h) j)).1
    omega
  · rw [List.take_of_length_le (by rw [List.length_append, List.length_singleton]; omega), pieceN hT (hc c h)]
    have := (fine2 _ (piece' hT (hc c h))).1
    omega
theorem inside_eq : repP (psL ps ++ NRT) (E3 lt) = writtenL (psL ps ++ [NL]) lt := by
  rw [repP_flat (singleN hT), writtenL]
  rw [List.flatMap_def, List.flatMap_def]
  congr 1
  refine List.map_congr_left fun c h => ?_
  rw [subs_app, pieceN hT (hc c h), show NRT = NRT.take (2 + 1) from rfl, pieceNRT hT (hc c h)]
include hl
theorem bound_i : (writtenL (psL ps ++ [NL]) lt).length ≤ 1300 := by
  have := flat_len (f := fun c => subs (psL ps ++ [NL]) (ref1 c)) (n := 15) (x := lt) fun c h => by
    rw [pieceN hT (hc c h)]
    exact (fine2 _ (piece' hT (hc c h))).1
  rw [writtenL]
  omega
theorem esc_l : EscL 1200 lt (psL ps) (writtenL (psL ps) lt) (quotedL (psL ps) lt) := by
  have hE1 : (E1 lt).length ≤ 5 * lt.length := by
    unfold E1
    rw [rep_one]
    exact flat_len fun c _ => by by_cases h : [c] = [38] <;> simp [h, AM]
  have hE2 : (E2 lt).length ≤ 5 * (E1 lt).length := by
    unfold E2
    rw [rep_one]
    exact flat_len fun c _ => by by_cases h : [c] = [62] <;> simp [h, GT]
  have hi := inside_eq hT hc
  have hq6 : ∀ z : List Nat, (z.flatMap quot1).length ≤ 6 * z.length := fun z => flat_len fun c _ => by unfold quot1; split <;> simp
  refine ⟨fun q hq => by obtain ⟨c, h⟩ := single hT q hq; rw [h]; simp, by omega, by omega, by omega, fun i => ?_, fun i => ?_, ?_, ?_, ?_⟩
  · rw [repP_flat fun q hq => single hT q (List.mem_of_mem_take hq)]
    have := flat_len (f := fun c => subs ((psL ps).take i) (ref1 c)) (n := 15) (x := lt) fun c h => (fine1 _ (piece hT (hc c h) i)).1
    omega
  · rw [repP_flat fun q hq => singleN hT q (List.mem_of_mem_take hq)]
    have := flat_len (f := fun c => subs ((psL ps ++ NRT).take i) (ref1 c)) (n := 15) (x := lt) fun c h => bound_n hT hc c h i
    omega
  · rw [hi, quot1_flat]
    have h1 := hq6 (writtenL (psL ps ++ [NL]) lt)
    have h2 := flat_len (f := fun c => subs (psL ps ++ [NL]) (ref1 c)) (n := 15) (x := lt) fun c h => by
      rw [pieceN hT (hc c h)]
      exact (fine2 _ (piece' hT (hc c h))).1
    have h3 : (writtenL (psL ps ++ [NL]) lt).length ≤ 15 * lt.length := h2
    omega
  · rw [repP_flat (single hT)]; rfl
  · rw [hi]
    unfold qfL quotedL
    rw [quot1_flat]
    show _ = if 34 ∉ writtenL (psL ps ++ [NL]) lt then 34 :: writtenL (psL ps ++ [NL]) lt ++ [34] else if 39 ∉ writtenL (psL ps ++ [NL]) lt then 39 :: writtenL (psL ps ++ [NL]) lt ++ [39] else 34 :: (writtenL (psL ps ++ [NL]) lt).flatMap quot1 ++ [34]
    generalize writtenL (psL ps ++ [NL]) lt = i
    by_cases c1 : 34 ∈ i
    · by_cases c2 : 39 ∈ i <;> simp [c1, c2]
    · simp [c1]
theorem plain_esc : EscOk (tx lt) ps (writtenL (psL ps) lt) (quotedL (psL ps) lt) := (esc_l hT hl hc).ok (by decide)
theorem plain_oct : EscOk (tx (octN lt)) (oct8 ps) (octN (writtenL (psL ps) lt)) (octN (quotedL (psL ps) lt)) := by
  have := (esc_l hT hl hc).oct
  rw [← psL_oct8] at this
  exact this.ok (by decide)
theorem text_ok : TextOk lt ∧ TextOk (writtenL (psL ps) lt) ∧ TextOk (quotedL (psL ps) lt) ∧ TextOk (fromL (writtenL (psL ps) lt)) := by
  have mk : ∀ {y : List Nat}, (octN y).length ≤ 255 → (∀ c ∈ y, c < 65536) → TextOk y := fun {y} h k => by
    have := octN_len_le y
    exact ⟨by rw [octN_len8]; omega, by omega, k⟩
  have w1 : (octN (writtenL (psL ps) lt)).length ≤ 15 * lt.length := by
    rw [writtenL, octN_flatMap]
    exact flat_len fun c h => by rw [octN_flat]; exact (fine1 _ (piece' hT (hc c h))).2.1
  have w2 : ∀ c ∈ writtenL (psL ps) lt, c < 65536 := by
    intro c h
    obtain ⟨d, hd, h⟩ := List.mem_flatMap.mp h
    exact (fine1 _ (piece' hT (hc d hd))).2.2 c h
  have q1 : (octN (writtenL (psL ps ++ [NL]) lt)).length ≤ 15 * lt.length := by
    rw [writtenL, octN_flatMap]
    exact flat_len fun c h => by rw [octN_flat, pieceN hT (hc c h)]; exact (fine2 _ (piece' hT (hc c h))).2.1
  have q2 : ∀ c ∈ writtenL (psL ps ++ [NL]) lt, c < 65536 := by
    intro c h
    obtain ⟨d, hd, h⟩ := List.mem_flatMap.mp h
    rw [pieceN hT (hc d hd)] at h
    exact ((fine2 _ (piece' hT (hc d hd))).2.2 c h).1
  have eq3 : (writtenL (psL ps ++ [NL]) lt).flatMap quot1 = lt.flatMap fun c => subL [34] QU (subL [10] NL.2 (subs (psL ps) (ref1 c))) := by
    rw [← quot1_flat, rep_one, writtenL, subL_flat, List.flatMap_def, List.flatMap_def]
    congr 1
    refine List.map_congr_left fun c h => ?_
    rw [pieceN hT (hc c h)]
  have q3 : (octN ((writtenL (psL ps ++ [NL]) lt).flatMap quot1)).length ≤ 15 * lt.length := by
    rw [eq3, octN_flatMap]
    exact flat_len fun c h => by rw [octN_flat]; exact (fine3 _ (piece' hT (hc c h))).2.1
  have q4 : ∀ c ∈ (writtenL (psL ps ++ [NL]) lt).flatMap quot1, c < 65536 := by
    intro c h
    rw [eq3] at h
    obtain ⟨d, hd, h⟩ := List.mem_flatMap.mp h
    exact (fine3 _ (piece' hT (hc d hd))).2.2 c h
  have ends : ∀ (a : Nat) (y : List Nat), a < 128 → (octN y).length ≤ 15 * lt.length → (∀ c ∈ y, c < 65536) → TextOk (a :: y ++ [a]) := fun a y ha h1 h2 => by
    refine mk ?_ ?_
    · rw [List.cons_append, octN_cons, octN_app, o1 ha, octB, if_pos ha, List.length_append, List.length_append, List.length_singleton]
      omega
    · intro c hcm
      rcases List.mem_append.mp hcm with h | h
      · rcases List.mem_cons.mp h with rfl | h
        · omega
        · exact h2 c h
      · rw [List.mem_singleton.mp h]; omega
  refine ⟨mk ?_ fun c h => (fineL c (hc c h)).2, mk (by omega) w2, ?_, mk ?_ ?_⟩
  · have := octN_len lt
    omega
  · unfold quotedL
    show TextOk (if 34 ∉ writtenL (psL ps ++ [NL]) lt then 34 :: writtenL (psL ps ++ [NL]) lt ++ [34] else if 39 ∉ writtenL (psL ps ++ [NL]) lt then 39 :: writtenL (psL ps ++ [NL]) lt ++ [39] else 34 :: (writtenL (psL ps ++ [NL]) lt).flatMap quot1 ++ [34])
    split
    · exact ends 34 _ (by decide) q1 q2
    · split
      · exact ends 39 _ (by decide) q1 q2
      · exact ends 34 _ (by decide) q3 q4
  · have : (octN (fromL (writtenL (psL ps) lt))).length ≤ (octN (writtenL (psL ps) lt)).length := (fromN_len _ (writtenL (psL ps) lt)).1
    omega
  · intro c h
    rcases (fromN_len _ (writtenL (psL ps) lt)).2.2 c h with h | h
    · exact w2 c h
    · omega
theorem un_l : (writtenL (psL ps) lt).length ≤ 195 := by
  have := flat_len (f := fun c => subs (psL ps) (ref1 c)) (n := 15) (x := lt) fun c h => (fine1 _ (piece' hT (hc c h))).1
  rw [writtenL]
  omega
end
theorem rep_shrink {k : List Nat} {x : Nat} (hk : k ≠ []) : ∀ (n : Nat) (l : List Nat), l.length ≤ n → (rep k [x] l).length ≤ l.length
  | _, [], _ => Nat.le_refl _
  | 0, c :: r, h => absurd h (by simp)
  | n + 1, c :: r, h => by
    by_cases hp : k <+: c :: r
    · obtain ⟨t, ht⟩ := hp
      have hk1 : 0 < k.length := List.length_pos_iff.mpr hk
      have hl := congrArg List.length ht
      rw [List.length_append] at hl
      rw [← ht, rep_hit hk, List.length_append, List.length_append, List.length_singleton]
      have := rep_shrink (x := x) hk n t (by omega)
      omega
    · rw [rep_miss hp, List.length_cons, List.length_cons]
      have := rep_shrink (x := x) hk n r (by rw [List.length_cons] at h; omega)
      omega
theorem un_ok {l : List Nat} (h : l.length ≤ 10000) : UnOk (tx l) (fromL l) := by
  have h1 : (U1 l).length ≤ l.length := rep_shrink (by decide) _ _ (Nat.le_refl _)
  have h2 : (U2 l).length ≤ (U1 l).length := rep_shrink (by decide) _ _ (Nat.le_refl _)
  exact ⟨by rw [tx_len]; exact h, by rw [u1_tx, tx_len]; omega, by rw [u2_tx, tx_len]; omega, by rw [u3_tx, fromL_U]⟩
section
variable {lt : List Nat} {ps : List (Str × Str)} (hT : Tab (psL ps)) (hl : lt.length ≤ 13) (hc : ∀ c ∈ lt, c ∈ LETS)
include hT hc hl
theorem plain_un : UnOk (tx (writtenL (psL ps) lt)) (fromL (writtenL (psL ps) lt)) := un_ok (by have := un_l hT hl hc; omega)
theorem plain_un8 : UnOk (tx (octN (writtenL (psL ps) lt))) (octN (fromL (writtenL (psL ps) lt))) := by
  have h := un_ok (l := octN (writtenL (psL ps) lt)) (by have := un_l hT hl hc; have := octN_len (writtenL (psL ps) lt); omega)
  rw [fromL_U, U3_oct, ← fromL_U] at h
  exact h
end
theorem pairs_ok {ps : List (Str × Str)} (hT : Tab (psL ps)) : ∀ p ∈ ps, TextOk (lst p.1) ∧ TextOk (lst p.2) ∧ p.1 ≠ Str.ofString "\n" ∧ p.1 ≠ Str.ofString "\r" ∧ p.1 ≠ Str.ofString "\t" ∧ (tx (octN (lst p.2))).length ≤ 10 ∧
    tx (octN (lst p.1)) ≠ Str.ofString "\n" ∧ tx (octN (lst p.1)) ≠ Str.ofString "\r" ∧ tx (octN (lst p.1)) ≠ Str.ofString "\t" := by
  intro p hp
  obtain ⟨h1, h2⟩ := hT.2.2 (lst p.1, lst p.2) (List.mem_map_of_mem (f := fun p : Str × Str => (lst p.1, lst p.2)) hp)
  have k1 : ∀ k ∈ KEYS, ((octN k).length ≤ 10 ∧ k.length ≤ 10 ∧ ∀ c ∈ k, c < 65536) ∧ k ≠ [10] ∧ k ≠ [13] ∧ k ≠ [9] ∧ octN k ≠ [10] ∧ octN k ≠ [13] ∧ octN k ≠ [9] := by decide
  have k2 : ∀ k ∈ VALS, (octN k).length ≤ 10 ∧ k.length ≤ 10 ∧ ∀ c ∈ k, c < 65536 := by decide
  have a := k1 _ h1
  have b := k2 _ h2
  have mk : ∀ {y : List Nat}, (octN y).length ≤ 10 ∧ y.length ≤ 10 ∧ (∀ c ∈ y, c < 65536) → TextOk y := fun {y} h => ⟨by rw [octN_len8]; omega, by omega, h.2.2⟩
  have ne : ∀ {x : Str} {l : List Nat}, lst x ≠ l → x ≠ tx l := fun {x l} h q => h (by rw [q, lst_tx])
  refine ⟨mk a.1, mk b, ne a.2.1, ne a.2.2.1, ne a.2.2.2.1, by rw [tx_len]; exact b.1, fun q => a.2.2.2.2.1 (tx_inj q), fun q => a.2.2.2.2.2.1 (tx_inj q), fun q => a.2.2.2.2.2.2 (tx_inj q)⟩
set_option maxHeartbeats 4000000 in
theorem law_tail {w : World} {mg mb} {A : Around} {s : Shared} {B : Heap} {L fa : Addr} {cd : Value} {m : Str → Option Value} {Q : Flow → Shared → Prop}
    {oc : Value} {od : Option Addr} {osl : Array (Option Value)} {name qual : Str} {params : Arguments} {body : List Stmt} {scope : Scope} {dV kV doc pm cdv ct : Value} {an : Option Addr}
    {Dt Do : Addr} {yt : List Value} {nt : Nat} {es : List DictEntry} {ep : Nat} {x0 x1 x2 x3 : List Nat} {t0 t1 t2 t3 : Tok} {ps : List (Str × Str)}
    (hbody : (hd.heap_39 w.params).lookup 131 = some ⟨oc, od, .func (fnOf name qual params body scope dV kV doc pm an cdv ct), osl⟩)
    (hh : A.handled = none) (hroom : A.depth + 6 < recursionLimit) (F : Fm B L s.heap m) (G : Gd w mg mb B)
    (mt : m (Str.ofString "told") = some (.ref Dt)) (mo : m (Str.ofString "octet_table") = some (.ref Do))
    (hDt : B.get? Dt = some (listOf yt.toArray nt)) (hDo : B.get? Do = some (dictOf es ep)) (hDS : (Do == sysModules) = false)
    (hW : WD w es) (hEnt : ∀ e ∈ es, Ent e) (hne : es.isEmpty = false) (hes : es.length ≤ 3) (hps : prs es = ps)
    (hkk : ∀ e ∈ es, keyTx e ≠ Str.ofString "\n" ∧ keyTx e ≠ Str.ofString "\r" ∧ keyTx e ≠ Str.ofString "\t")
    (y0 : yt[0]? = some (.str (tx x0) t0)) (y1 : yt[1]? = some (.str (tx x1) t1)) (y2 : yt[2]? = some (.str (tx x2) t2)) (y3 : yt[3]? = some (.str (tx x3) t3))
    (hesc : EscOk (tx x0) ps x1 x2) (hun : UnOk (tx x1) x3)
    (h : ∀ h' tk, Ext B h' → Q (.ret (.bool true)) { s with heap := h', toks := tk }) :
    wpAny (model PG w) A (execs (body.drop 11) (envOf name scope L fa cd)) Q (fun _ _ => False) s := by
  have e : (hd.heap_39 w.params).lookup 131 = some _ := rfl
  rw [e] at hbody
  injection hbody with hbody
  injection hbody with _ _ hbody _
  injection hbody with hbody
  injection hbody with h1 h2 h3 h4 h5
  subst h1 h5
  injection h4 with h4
  subst h4
  clear e
  have N : News B L s.heap [] := .nil
  simp only [List.drop_succ_cons, List.drop_zero]
  walk_at "SS"
  refine PySem.Subscript_Constant ?_
  walk_at "SS"
  refine item_list_n (F.keep _ _ hDt) (k := 0) rfl y0 (by decide) ?_
  walk_at "SS"
  refine c_escape (F.gd G) (by exact hh) (by omega) hDS (F.keep _ _ hDo) hW hEnt hne (by omega) hesc.l0 hesc.l1 hesc.l2 (by intro i; rw [repl_prs, prs_take, hps]; exact hesc.lr i) ?_
  intro t4 h10 k10 hk10 e10
  rw [repl_prs, hps, hesc.esc]
  have F1 := F.ext e10
  clear F N
  have N : News B L h10 [] := .nil
  walk_at "SS"
  refine PySem.Subscript_Constant ?_
  walk_at "SS"
  refine item_list_n (F1.keep _ _ hDt) (k := 1) rfl y1 (by decide) ?_
  walk_at "SS"
  rw [if_neg (by simp)]
  walk_at "SS"
  refine PySem.Subscript_Constant ?_
  walk_at "SS"
  refine item_list_n (F1.keep _ _ hDt) (k := 0) rfl y0 (by decide) ?_
  walk_at "SS"
  refine c_quoteattr (F1.gd G) (by exact hh) (by omega) hDS (F1.keep _ _ hDo) hW hEnt (by omega) hkk hesc.l0 hesc.l1 hesc.l2 (by rw [hps]; exact hesc.lq) (by rw [hps]; exact hesc.lqq) ?_
  intro t5 h11 k11 hk11 e11
  rw [hps, hesc.quo]
  have F2 := F1.ext e11
  clear F1 N
  have N : News B L h11 [] := .nil
  walk_at "SS"
  refine PySem.Subscript_Constant ?_
  walk_at "SS"
  refine item_list_n (F2.keep _ _ hDt) (k := 2) rfl y2 (by decide) ?_
  walk_at "SS"
  rw [if_neg (by simp)]
  walk_at "SS"
  rw [if_neg Bool.false_ne_true]
  walk_at "SS"
  refine PySem.Subscript_Constant ?_
  walk_at "SS"
  refine item_list_n (F2.keep _ _ hDt) (k := 1) rfl y1 (by decide) ?_
  walk_at "SS"
  refine c_unescape (F2.gd G) (by exact hh) (by omega) hun.l0 hun.l1 hun.l2 ?_
  intro t6 h12 k12 hk12 e12
  rw [hun.un]
  have F3 := F2.ext e12
  clear F2 N
  have N : News B L h12 [] := .nil
  walk_at "SS"
  refine PySem.Subscript_Constant ?_
  walk_at "SS"
  refine item_list_n (F3.keep _ _ hDt) (k := 3) rfl y3 (by decide) ?_
  walk_at "SS"
  rw [show (tx x3 == tx x3) = true from beq_self_eq_true _]
  exact h _ _ F3.keep
theorem zip_fst {α β γ : Type} (f : α → γ) : ∀ (a : List α) (b : List β), a.length ≤ b.length → (a.zip b).map (fun p => f p.1) = a.map f
  | [], _, _ => rfl
  | x :: a, [], h => absurd h (by simp)
  | x :: a, y :: b, h => by
    rw [List.zip_cons_cons, List.map_cons, List.map_cons, zip_fst f a b (by simpa using h)]
theorem zip_snd {α β γ : Type} (f : β → γ) : ∀ (a : List α) (b : List β), b.length ≤ a.length → (a.zip b).map (fun p => f p.2) = b.map f
  | _, [], _ => by simp
  | [], y :: b, h => absurd h (by simp)
  | x :: a, y :: b, h => by
    rw [List.zip_cons_cons, List.map_cons, List.map_cons, zip_snd f a b (by simpa using h)]
theorem map_two {α β γ δ : Type} {a : α → γ} {b : α → δ} {c : β → γ} {d : β → δ} : ∀ {l : List α} {m : List β}, l.map a = m.map c → l.map b = m.map d → l.map (fun x => (a x, b x)) = m.map fun y => (c y, d y)
  | [], [], _, _ => rfl
  | [], _ :: _, h, _ => nomatch h
  | _ :: _, [], h, _ => nomatch h
  | x :: l, y :: m, h, k => by
    simp only [List.map_cons, List.cons.injEq] at h k ⊢
    exact ⟨by rw [h.1, k.1], map_two h.2 k.2⟩
theorem tx_octN_inj {a b : Str} (h : tx (octN (lst a)) = tx (octN (lst b))) : a = b := by
  have := octN_inj (tx_inj h)
  rw [← tx_lst a, this, tx_lst]
theorem nodup_map_inj {α β : Type} {f : α → β} (hf : ∀ a b, f a = f b → a = b) : ∀ {l : List α}, l.Nodup → (l.map f).Nodup
  | [], _ => List.nodup_nil
  | x :: l, h => by
    rw [List.nodup_cons] at h
    rw [List.map_cons, List.nodup_cons]
    refine ⟨fun hm => ?_, nodup_map_inj hf h.2⟩
    obtain ⟨y, hy, e⟩ := List.mem_map.mp hm
    exact h.1 (hf _ _ e ▸ hy)
structure Ents (w : World) (E : List DictEntry) (qs : List (Str × Str)) : Prop where
  W : WD w E
  ent : ∀ e ∈ E, Ent e
  ne : E.isEmpty = false
  len : E.length ≤ 3
  prs : prs E = oct8 qs
  key : ∀ e ∈ E, keyTx e ≠ Str.ofString "\n" ∧ keyTx e ≠ Str.ofString "\r" ∧ keyTx e ≠ Str.ofString "\t"
theorem ents_ok {w : World} {qs : List (Str × Str)} {ps : List ((Str × Tok) × (Str × Tok))} {ts : List (Str × Tok)} {yt : List Value} {xs : List Str} {k : Tok} {a b c d : Str}
    (hT : Tab (psL qs)) (hn : (qs.map (·.1)).Nodup) (hps : ps = ((ts.drop 4).take qs.length).zip (ts.drop (4 + qs.length))) (hyt : yt = ts.map fun p => Value.str p.1 p.2)
    (hts : ts.map (·.1) = xs.map fun x => tx (octN (lst x))) (hxs : xs = [a, b, c, d] ++ qs.map (·.1) ++ qs.map (·.2)) (htt : Toks k yt) :
    Ents w (putAll [] (ps.map fun p => entE w p.1.1 p.1.2 (.str p.2.1 p.2.2))) qs := by
  have hxl : xs.length = 4 + 2 * qs.length := by rw [hxs]; simp; omega
  have htl : ts.length = 4 + 2 * qs.length := by have := congrArg List.length hts; rw [List.length_map, List.length_map, hxl] at this; exact this
  have x1 : (xs.drop 4).take qs.length = qs.map (·.1) := by
    rw [hxs]
    show List.take qs.length (qs.map (·.1) ++ qs.map (·.2)) = _
    rw [List.take_append_of_le_length (by simp), List.take_of_length_le (by simp)]
  have x2 : xs.drop (4 + qs.length) = qs.map (·.2) := by
    rw [hxs, ← List.drop_drop]
    show List.drop qs.length (qs.map (·.1) ++ qs.map (·.2)) = _
    rw [List.drop_append_of_le_length (by simp), List.drop_of_length_le (by simp), List.nil_append]
  have m1 : ps.map (fun p => p.1.1) = qs.map fun p => tx (octN (lst p.1)) := by
    rw [hps, zip_fst (fun p : Str × Tok => p.1) _ _ (by rw [List.length_take, List.length_drop, List.length_drop]; omega), List.map_take, List.map_drop, hts, ← List.map_drop, ← List.map_take, x1, List.map_map]
    rfl
  have m2 : ps.map (fun p => p.2.1) = qs.map fun p => tx (octN (lst p.2)) := by
    rw [hps, zip_snd (fun p : Str × Tok => p.1) _ _ (by rw [List.length_take, List.length_drop, List.length_drop]; omega), List.map_drop, hts, ← List.map_drop, x2, List.map_map]
    rfl
  have hpl : ps.length = qs.length := by have := congrArg List.length m1; rw [List.length_map, List.length_map] at this; exact this
  have hq3 : qs.length ≤ 3 := by have := hT.2.1; rw [psL, List.length_map] at this; exact this
  have hK : (ps.map fun p => entE w p.1.1 p.1.2 (.str p.2.1 p.2.2)).map keyTx = qs.map fun p => tx (octN (lst p.1)) := by rw [List.map_map, ← m1]; rfl
  have hP : prs (ps.map fun p => entE w p.1.1 p.1.2 (.str p.2.1 p.2.2)) = oct8 qs := by
    have e : prs (ps.map fun p => entE w p.1.1 p.1.2 (.str p.2.1 p.2.2)) = ps.map fun p => (p.1.1, p.2.1) := by rw [prs, List.map_map]; rfl
    rw [e, oct8]
    exact map_two m1 m2
  have hN : ((ps.map fun p => entE w p.1.1 p.1.2 (.str p.2.1 p.2.2)).map keyTx).Nodup := by
    rw [hK]
    have := nodup_map_inj (f := fun x => tx (octN (lst x))) (fun _ _ => tx_octN_inj) hn
    rw [List.map_map] at this
    exact this
  have kw : KW w (ps.map fun p => entE w p.1.1 p.1.2 (.str p.2.1 p.2.2)) := KW.ent' ps
  rw [putAll_new _ [] KW.nil kw (by simpa using hN), List.nil_append]
  have hpok := pairs_ok hT
  refine ⟨⟨kw, hN⟩, ?_, ?_, by rw [List.length_map, hpl]; exact hq3, hP, ?_⟩
  · intro e he
    obtain ⟨p, hp, rfl⟩ := List.mem_map.mp he
    obtain ⟨i, hi⟩ := List.getElem?_of_mem hp
    have hi2 := hi
    rw [hps, List.getElem?_zip_eq_some, List.getElem?_take, List.getElem?_drop, List.getElem?_drop] at hi2
    obtain ⟨h1, h2⟩ := hi2
    have hin : i < qs.length := hpl ▸ (List.getElem?_eq_some_iff.mp hi).1
    rw [if_pos hin] at h1
    have v1 : yt[4 + i]? = some (.str p.1.1 p.1.2) := by rw [hyt, List.getElem?_map, h1]; rfl
    have v2 : yt[4 + qs.length + i]? = some (.str p.2.1 p.2.2) := by rw [hyt, List.getElem?_map, h2]; rfl
    obtain ⟨l1, g1⟩ := List.getElem?_eq_some_iff.mp v1
    obtain ⟨l2, g2⟩ := List.getElem?_eq_some_iff.mp v2
    obtain ⟨_, _, q1, q2, _⟩ := htt.1 _ (List.getElem_mem l1)
    obtain ⟨_, _, q3, q4, _⟩ := htt.1 _ (List.getElem_mem l2)
    rw [g1] at q1
    rw [g2] at q3
    injection q1 with _ q1
    injection q3 with _ q3
    have q5 := List.pairwise_iff_getElem.mp htt.2 (4 + i) (4 + qs.length + i) l1 l2 (by omega) _ _ _ _ g1 g2
    have hv : p.2.1 ∈ qs.map fun p => tx (octN (lst p.2)) := m2 ▸ List.mem_map_of_mem hp
    obtain ⟨q, hq, e2⟩ := List.mem_map.mp hv
    refine ⟨_, _, _, _, rfl, rfl, ?_, ?_, q5, ?_⟩
    · rw [q1]; exact Nat.ne_of_gt q2
    · rw [q3]; exact Nat.ne_of_gt q4
    · rw [← e2]; exact (hpok q hq).2.2.2.2.2.1
  · obtain ⟨⟨v, r, hv⟩, _⟩ := hT
    cases ps with
    | nil =>
      rw [psL] at hv
      have := congrArg List.length hv
      rw [List.length_map, ← hpl] at this
      simp at this
    | cons _ _ => rfl
  · intro e he
    have hk : keyTx e ∈ qs.map fun p => tx (octN (lst p.1)) := hK ▸ List.mem_map_of_mem he
    obtain ⟨q, hq, e2⟩ := List.mem_map.mp hk
    rw [← e2]
    exact (hpok q hq).2.2.2.2.2.2
theorem ts_at {ts : List (Str × Tok)} {yt : List Value} {xs : List Str} (hyt : yt = ts.map fun p => Value.str p.1 p.2) (hts : ts.map (·.1) = xs.map fun x => tx (octN (lst x))) {i : Nat} {x : Str} (hx : xs[i]? = some x) : ∃ t, yt[i]? = some (.str (tx (octN (lst x))) t) := by
  have h := congrArg (fun l => l[i]?) hts
  simp only [List.getElem?_map, hx, Option.map_some] at h
  obtain ⟨p, hp, e⟩ := Option.map_eq_some_iff.mp h
  exact ⟨p.2, by rw [hyt, List.getElem?_map, hp, ← e]; rfl⟩
theorem asg1 {w : World} {A : Around} {E : Value → Shared → Prop} {s : Shared} {env : Env} {t value : Expr} {pos : Pos} {Q : Flow → Shared → Prop}
    (h : wpAny (model PG w) A (eval value env) (fun v s₁ => wpAny (model PG w) A (assign t env v) (fun _ => Q .next) E s₁) E s)
    (hs : swapsWithSole [t] value pos.line env = pure false := by rfl)
    (he : (assignEach [t] env).map (·.2) = [assign t env] := by rfl) (hw : swappedStores [t] value env = pure none := by rfl) :
    wpAny (model PG w) A (exec (.Assign [t] value pos) env) Q E s := by
  refine wpAny_Assign_stores (wpAny_mono h (fun v s₁ h₁ => ?_) fun _ _ x => x) hs hw
  rw [he]
  exact h₁
section
variable {w : World} {A : Around} {s : Shared} {E : Value → Shared → Prop} {B : Heap} {m : Str → Option Value} {l : List (Addr × Obj)} {env : Env}
/-- [elt for target in a list of the ground] -/
theorem comp_after {elt iter target : Expr} {scope : Scope} (cl : List (Str × Addr)) {pos : Pos} {D : Addr} {vs : List Value} {nD : Nat} {Q : Value → Shared → Prop} (J : Nat → List Value → List (Addr × Obj) → Prop)
    (hcell : ∀ y ∈ scope.names, y.2 ≠ .cell) (hkind : scope.kind = .function)
    (hh : A.handled = none) (hz : vs.length ≤ 100000) (hD : B.get? D = some (listOf vs.toArray nD)) (F : Fm B env.locals s.heap m) (N : News B env.locals s.heap l) (h0 : J 0 [] l)
    (hgo : ∀ i v (s₁ : Shared) (q : Unit → Shared → Prop) (E' : Value → Shared → Prop), vs[i]? = some v → s₁.heap.IsListIter s.heap.objs.size D (i + 1) → q () s₁ → wpAny (model PG w) A (letOwnedTupleGo target (.ref s.heap.objs.size) v) q E' s₁)
    (step : ∀ i v ys l₁ B' C mC h tk, vs[i]? = some v → s.toks ≤ tk → Ext B B' → Ext B' h → B'.Ns env.locals m → Fm B' C h mC → News B' C h l₁ → l₁.map (·.1) = l.map (·.1) → J i ys l₁ →
      wpAny (model PG w) A (assign target (compEnvC scope cl C env) v) (fun _ s₂ => wpAny (model PG w) A (eval elt (compEnvC scope cl C env)) (fun y s₃ =>
        Turned B' C l (fun _ l' => J (i + 1) (ys ++ [y]) l') { s with heap := h, toks := tk } s₃) (fun _ _ => False) s₂) (fun _ _ => False) { s with heap := h, toks := tk })
    (done : ∀ ys l₁ D' nD' h tk, s.toks ≤ tk → ys.length = vs.length → Fm B env.locals h m → News B env.locals h ((D', listOf (List.toArray ys) nD') :: l₁) → (∀ p ∈ l₁, p.1 ≠ D') → l₁.map (·.1) = l.map (·.1) → J vs.length ys l₁ →
      Q (.ref D') { s with heap := h, toks := tk }) :
    wpAny (model PG w) A (pyIter (.ref D)) (fun it s₂ => wpAny (model PG w) A (newList []) (fun acc s₃ => wpAny (model PG w) A (newFunctionEnv scope env.globals cl [] env.qual none .none (some env)) (fun cenv s₄ =>
      codeAny (model PG w) A (.compStart (.ListComp elt [⟨target, iter, [], 0⟩] scope pos) 0 it acc { cenv with scope := relabel scope env }) (compPost (model PG w) A E none Q acc cenv.locals) s₄) E s₃) E s₂) E s := comp_afterT cl (fun i _ ys l => J i ys l) (fun _ _ _ _ _ _ x => x) hcell hkind hh hz hD F N h0 hgo step done
end
theorem strsAre_append {vs ws : List Value} {xs ys : List Str} (h : StrsAre vs xs) (k : StrsAre ws ys) : StrsAre (vs ++ ws) (xs ++ ys) := by
  induction h with
  | nil => exact k
  | cons y t _ ih => exact .cons _ _ ih
theorem readsAll_of_strs {h : Heap} : ∀ {vs : List Value} {xs : List Str}, StrsAre vs xs → ReadsAll h vs (xs.map PyData.str) []
  | _, _, .nil => .nil
  | _, _, .cons k t r => by
    have := ReadsAll.cons (Reads.str (h := h) k t) (readsAll_of_strs (h := h) r)
    simpa using this
theorem reads_of_strs {h : Heap} {a : Addr} {vs : List Value} {xs : List Str} (hl : h.IsList a vs.toArray) (hi : StrsAre vs xs) : Reads h (.ref a) (.list (xs.map PyData.str)) [a] := by
  obtain ⟨o, ho, hc, n, hd⟩ := hl
  exact Reads.list ho hc hd (by simpa using readsAll_of_strs hi)
theorem canLayAll0_strs : ∀ ns : List Str, (∀ x ∈ ns, PyData.strOk x = true) → PyData.canLayAll0 (ns.map PyData.str) = true
  | [], _ => by simp [PyData.canLayAll0]
  | n :: r, h => by simp [PyData.canLayAll0, PyData.canLay0, canLayAll0_strs r fun x hx => h x (.tail _ hx), h n (.head _)]
theorem depthAll_strs : ∀ ns : List Str, PyData.depthAll (ns.map PyData.str) ≤ 1
  | [] => by simp [PyData.depthAll]
  | n :: r => by
    have := depthAll_strs r
    simp only [List.map_cons, PyData.depthAll, PyData.depth]
    omega
theorem shaped_strs (ns : List Str) (hok : ∀ x ∈ ns, PyData.strOk x = true) : SeqAt.shaped (.list (ns.map PyData.str)) = true := by
  have h1 := depthAll_strs ns
  have h2 : PyData.depth (.list (ns.map PyData.str)) ≤ 64 := by simp only [PyData.depth]; omega
  show (PyData.canLay0 (.list (ns.map PyData.str)) && decide (PyData.depth (.list (ns.map PyData.str)) ≤ 64)) = true
  rw [Bool.and_eq_true]
  exact ⟨by simp only [PyData.canLay0]; exact canLayAll0_strs ns hok, decide_eq_true h2⟩
theorem noMix_strs : ∀ ns ms : List Str, SeqAt.noMixAll (ns.map PyData.str) (ms.map PyData.str) = true
  | [], [] => by simp [SeqAt.noMixAll]
  | [], _ :: _ => by simp [SeqAt.noMixAll]
  | _ :: _, [] => by simp [SeqAt.noMixAll]
  | _ :: r, _ :: q => by simp [SeqAt.noMixAll, SeqAt.noMix, noMix_strs r q]
theorem same_strs : ∀ ns : List Str, PySem.Spec.sameAll (ns.map PyData.str) (ns.map PyData.str) = true
  | [] => by simp [PySem.Spec.sameAll]
  | n :: r => by
    simp only [List.map_cons, PySem.Spec.sameAll, PySem.Spec.same, same_strs r]
    simp
theorem told_ok {l : List Nat} (h : TextOk l) : PyData.strOk (tx (octN l)) = true := by
  unfold PyData.strOk
  have hr := octs_rng l h.sg
  show ((octN l).toArray.all fun x => decide (x < 1114112)) = true
  rw [List.all_toArray, List.all_eq_true]
  intro x hx
  obtain ⟨n, hn, rfl⟩ := List.mem_map.mp hx
  have := hr n hn
  exact decide_eq_true (by omega)
theorem ne_strs {w : World} {A : Around} {s : Shared} {E : Value → Shared → Prop} {D D' : Addr} {vs ws : List Value} {xs : List Str} {n n' : Nat} {Q : Value → Shared → Prop} (hok : ∀ x ∈ xs, PyData.strOk x = true) (hu : A.units + 64 < cLine) (h1 : s.heap.get? D = some (listOf vs.toArray n)) (h2 : s.heap.get? D' = some (listOf ws.toArray n'))
    (hv : StrsAre vs xs) (hw : StrsAre ws xs) (h : Q (.bool false) s) : wpAny (model PG w) A (compareOp .NotEq (.ref D) (.ref D')) Q E s :=
  ne_dataH_same (reads_of_strs ⟨_, h1, rfl, n, rfl⟩ hv) (reads_of_strs ⟨_, h2, rfl, n', rfl⟩ hw) (shaped_strs xs hok) (shaped_strs xs hok) hu (by simp only [SeqAt.noMix]; exact noMix_strs xs xs) (by simp only [PySem.Spec.same]; rw [same_strs]; exact h)
theorem sub_slice_from {w : World} {A : Around} {E : Value → Shared → Prop} {s : Shared} {env : Env} {value lo : Expr} {p pos : Pos} {Q : Value → Shared → Prop}
    (h : wpAny (model PG w) A (eval value env) (fun o s₁ => wpAny (model PG w) A (eval lo env) (fun a s₃ =>
      ItemOn (model PG w) A E o (.ref s₃.heap.objs.size) Q { s₃ with heap := s₃.heap.push { cls := .type "slice", data := .fields #[a, .none, .none] } }) E s₁) E s)
    (ht : ∀ o r, letTemporaryGo value o r = pure () := by intro _ _; rfl) :
    wpAny (model PG w) A (eval (.Subscript value (.Slice (some lo) none none p) pos) env) Q E s :=
  PySem.Subscript_Slice (wpAny_mono h (fun o s₁ h₁ => wpAny_Slice (wpAny_mono h₁ (fun a s₂ h₂ => wpAny_pure (wpAny_pure h₂)) fun _ _ x => x)) fun _ _ x => x) ht
theorem strs_toks {vs : List Value} {xs : List Str} (h : StrsAre vs xs) : ∃ ts : List (Str × Tok), vs = ts.map (fun p => .str p.1 p.2) ∧ ts.map (·.1) = xs := by
  induction h with
  | nil => exact ⟨[], rfl, rfl⟩
  | cons y t _ ih => obtain ⟨ts, rfl, rfl⟩ := ih; exact ⟨(y, t) :: ts, rfl, rfl⟩
theorem zap {Z L1 L2 : Addr} (h1 : @LT.lt Nat _ L1 Z) (h2 : @LT.lt Nat _ L2 Z) : ZipApart (Z + 4) (Z + 2) (Z + 3) Z (Z + 1) L1 L2 := by
  have a : ∀ i j : Nat, i ≠ j → (Z + i : Addr) ≠ Z + j := fun i j h e => h (Nat.add_left_cancel e)
  have b : ∀ (c : Addr) (i : Nat), @LT.lt Nat _ c Z → c ≠ (Z + i : Addr) := fun c i h e => Nat.not_lt.mpr (Nat.le_add_right Z i) (e ▸ h)
  exact ⟨a 2 4 (by decide), a 3 4 (by decide), a 0 4 (by decide), a 1 4 (by decide), a 2 3 (by decide), a 2 0 (by decide), a 2 1 (by decide), a 3 0 (by decide), a 3 1 (by decide), a 0 1 (by decide), b L1 4 h1, b L1 3 h1, b L1 0 h1, b L1 1 h1, b L2 4 h2, b L2 3 h2, b L2 0 h2, b L2 1 h2⟩
theorem nez {Z c : Addr} (h : @LT.lt Nat _ c Z) (i : Nat) : c ≠ (Z + i : Addr) := fun e => Nat.not_lt.mpr (Nat.le_add_right Z i) (e ▸ h)
theorem ar1 {n t : Nat} (h : t = 4 + 2 * n) : min n (t - 4) ≤ t - (4 + n) := by omega
theorem ar2 {n t : Nat} (h : t = 4 + 2 * n) : t - (4 + n) ≤ min n (t - 4) := by omega
theorem ar3 {n t : Nat} (h : t = 4 + 2 * n) : min (min n (t - 4)) (t - (4 + n)) = n := by omega
set_option maxHeartbeats 4000000 in
theorem law_walk {w : World} {mg mb} {loose mean} {A : Around} {s : Shared} {B : Heap} {L a fa : Addr} {cd : Value} {m : Str → Option Value} {vs : List Value} {ns : List Int} {Q : Flow → Shared → Prop}
    {oc : Value} {od : Option Addr} {osl : Array (Option Value)} {name qual : Str} {params : Arguments} {body : List Stmt} {scope : Scope} {dV kV doc pm cdv ct : Value} {an : Option Addr}
    (hbody : (hd.heap_39 w.params).lookup 131 = some ⟨oc, od, .func (fnOf name qual params body scope dV kV doc pm an cdv ct), osl⟩)
    (hh : A.handled = none) (hu : A.units + 64 < cLine) (hroom : A.depth + 6 < recursionLimit) (F : Fm B L s.heap m) (hm : m (Str.ofString "script") = some (.ref a)) (h85 : B.get? 85 = none) (hs85 : s.heap.get? 85 = some (tabObj #[])) (hL85 : L ≠ 85)
    (G : Gd w mg mb B) (T : Top topProg loose mean mg mb B) (ha : B.IsList a vs.toArray) (hi : IntsAre vs ns) (hz : ns.length ≤ 63)
    (h : ∀ h' tk ps85, Ext B h' → h'.get? 85 = some (tabObj ps85) → Q (.ret (.bool true)) { s with heap := h', toks := tk }) :
    wpAny (model PG w) A (execs body (envOf name scope L fa cd)) Q (fun _ _ => False) s := by
  have hb0 := hbody
  have e : (hd.heap_39 w.params).lookup 131 = some _ := rfl
  rw [e] at hbody
  injection hbody with hbody
  injection hbody with _ _ hbody _
  injection hbody with hbody
  injection hbody with h1 h2 h3 h4 h5
  subst h1 h5
  injection h4 with h4
  subst h4
  clear e
  have N : News B L s.heap [(85, tabObj #[])] := fun p hp => by rcases List.mem_singleton.mp hp with rfl; exact ⟨hs85, hL85.symm, h85⟩
  refine wpAny_execs_cons ?_
  refine asg1 ?_
  walk_at "SS"
  refine c_drawn (F.gd G) (by exact hh) (by omega) (ha.at fun o e => F.keep _ _ e) hi (by omega) ?_
  intro T1 D lt tt es ep h1 k1 hk1 e1 hD0 hDS hT1 hD1 hW hEB hTab hll hlc
  have fresh1 : ∀ {x o}, s.heap.get? x = none → s.heap.get? L = some o → x ≠ L := fun hx ho q => by rw [q, ho] at hx; cases hx
  obtain ⟨oLL, _, _, hoLL, _⟩ := F.ns
  have hD85 : D ≠ 85 := fun q => by rw [q, hs85] at hD0; cases hD0
  have hDL : D ≠ L := fun q => by rw [show D = L from q] at hD0; exact absurd (hD0.symm.trans hoLL) (by intro x; cases x)
  obtain ⟨B1, eB1, eH1, F1, N1, ap1⟩ := ground (F.ext e1) (newsExt N e1)
  have hD1 : B1.get? D = some (dictOf es ep) := ap1 D hDL (fun p hp => by rcases List.mem_singleton.mp hp with rfl; exact hD85.symm) _ hD1
  have G1 := G.ext eB1
  have T1' := T.keeps eB1
  refine assign_pair (T := T1) (by exact hh) hT1 ?_
  intro h2 e2
  have F2 := F1.ext e2
  have N2 := newsExt N1 e2
  clear F N F1 N1
  refine stL F2 N2 ?_
  intro h3 F3 N3
  refine stL F3 N3 ?_
  intro h4 F4 N4
  clear F2 N2 F3 N3
  -- entries
  refine wpAny_execs_cons ?_
  refine wpAny_Assign_Name ?_
  refine Call_ ?_
  walk_at "S"
  refine PyProof.Rows.callWith_type1 ?_
  refine args_cons ?_
  refine wpAny_Call_items (knd := PySem.strKind PG w) hDS (dictAt_x (F4.keep _ _ hD1) hW).dictOf rfl rfl (fun Q' hq => ldL F4 rfl hq) ?_
  walk_at "SS"
  have hesl : es.length ≤ 3 := by
    have := hTab.2.1
    rw [psL, prs, List.length_map, List.length_map] at this
    exact this
  refine list_items (by exact hh) ⟨_, Heap.get?_push_size _ rfl, rfl, rfl⟩ (Heap.get?_push_of_some _ (F4.keep _ _ hD1)) hW (fun e he => by obtain ⟨_, _, vx, vt, _, hv, _⟩ := hEB e he; exact ⟨vx, vt, hv⟩) (by omega) ?_
  intro De h5 k5 e5 hDe0 hEL
  have e45 : Ext h4 h5 := (ext_push _ _).trans e5
  have F5 := F4.ext e45
  have N5 := newsExt N4 e45
  have hDe4 : h4.get? De = none := by
    cases q : h4.get? De with
    | none => rfl
    | some o => have := ext_push h4 { cls := .type "dict_items", data := .fields #[.ref D] } _ _ q; rw [hDe0] at this; cases this
  obtain ⟨oL4, _, _, hoL4, _⟩ := F4.ns
  have hDeL : De ≠ L := fun q => by rw [show De = L from q] at hDe4; exact absurd (hDe4.symm.trans hoL4) (by intro x; cases x)
  have hDe85 : De ≠ 85 := fun q => by have := (N4 (85, _) (.head _)).1; rw [q] at hDe4; rw [hDe4] at this; cases this
  clear F4 N4
  obtain ⟨B2, eB2, eH2, F6, N6, ap2⟩ := ground F5 N5
  have hEL2 : EntL B2 De (prs es) := by
    obtain ⟨Ts, n, q1, q2, q3⟩ := hEL
    refine ⟨Ts, n, ap2 De hDeL (fun p hp => by rcases List.mem_singleton.mp hp with rfl; exact hDe85.symm) _ q1, q2, fun i T p h1 h2 => ?_⟩
    obtain ⟨t, u, o, ho, hcl, hda⟩ := q3 i T p h1 h2
    refine ⟨t, u, o, ap2 T ?_ ?_ o ho, hcl, hda⟩
    · intro q
      obtain ⟨o', _, _, ho', hd', _⟩ := F5.ns
      have h9 : h5.get? T = some o' := by rw [show T = L from q]; exact ho'
      rw [ho] at h9
      cases h9
      obtain ⟨n', hn'⟩ := hda
      rw [hd'] at hn'; cases hn'
    · intro p hp q
      rcases List.mem_singleton.mp hp with rfl
      have h9 := (N5 (85, _) (.head _)).1
      rw [show T = 85 from q.symm, h9] at ho
      cases ho
      cases hcl
  clear F5 N5
  refine stL F6 N6 ?_
  intro h6 F7 N7
  clear F6 N6
  have G2 := G1.ext eB2
  have T2' := T1'.keeps eB2
  -- written
  refine wpAny_execs_cons ?_
  refine wpAny_Assign_Name ?_
  walk_at "SS"
  refine c_written (D := De) (ps := prs es) (F7.gd G2) (by exact hh) (by omega) (hEL2.ext F7.keep) (by rw [tx_len]; omega) (by rw [lst_tx]; exact fun c hc j => Nat.le_trans (bound_w hTab hlc c hc j) (by omega)) ?_
  intro tw h7 k7 hk7 e7
  rw [lst_tx]
  have F8 := F7.ext e7
  have N8 := newsExt N7 e7
  clear F7 N7
  walk_at "SS"
  rename Fm _ _ _ _ => F9
  rename News _ _ _ _ => N9
  clear F8 N8
  refine c_quoted (D := De) (ps := prs es) (F9.gd G2) (by exact hh) (by omega) (hEL2.ext F9.keep) (by rw [tx_len]; omega) (by rw [prs, List.length_map]; omega) (by rw [lst_tx]; exact Nat.le_trans (bound_i hTab hll hlc) (by omega)) (by rw [lst_tx]; exact bound_q hTab hlc) ?_
  intro tq h8 k8 hk8 e8
  rw [lst_tx]
  have F10 := F9.ext e8
  have N10 := newsExt N9 e8
  clear F9 N9
  have tok := text_ok hTab hll hlc
  have hesc := plain_esc hTab hll hlc
  have hoct := plain_oct hTab hll hlc
  have hun := plain_un hTab hll hlc
  have hun8 := plain_un8 hTab hll hlc
  walk_at "SS"
  rename Fm _ _ _ _ => F11
  rename News _ _ _ _ => N11
  clear F10 N10
  refine c_from (F11.gd G2) (by exact hh) (by omega) (by have := tok.2.1.ln; rw [tx_len]; omega) ?_
  intro to h9 k9 hk9 e9
  rw [lst_tx]
  have F12 := F11.ext e9
  have N12 := newsExt N11 e9
  clear F11 N11
  walk_at "SS"
  rename Fm _ _ _ _ => F13
  rename News _ _ _ _ => N13
  clear F12 N12
  have hEnt : ∀ e ∈ es, Ent e := fun e he => (hEB e he).ent
  have hne : es.isEmpty = false := by
    obtain ⟨⟨v, r, hv⟩, _⟩ := hTab
    cases es with
    | nil => cases hv
    | cons _ _ => rfl
  refine c_escape (F13.gd G2) (by exact hh) (by omega) hDS (F13.keep _ _ (eB2 _ _ hD1)) hW hEnt hne (by omega) hesc.l0 hesc.l1 hesc.l2 (by intro i; rw [repl_prs, prs_take]; exact hesc.lr i) ?_
  intro t1 h10 k10 hk10 e10
  rw [repl_prs, hesc.esc]
  have F14 := F13.ext e10
  have N14 := newsExt N13 e10
  clear F13 N13
  walk_at "SS"
  rw [if_neg (by simp)]
  walk_at "SS"
  have hpok := pairs_ok hTab
  have hmem : ∀ e ∈ es, (keyTx e, valTx e) ∈ prs es := fun e he => List.mem_map_of_mem he
  refine c_quoteattr (F14.gd G2) (by exact hh) (by omega) hDS (F14.keep _ _ (eB2 _ _ hD1)) hW hEnt (by omega) (fun e he => by have := hpok _ (hmem e he); exact ⟨this.2.2.1, this.2.2.2.1, this.2.2.2.2.1⟩) hesc.l0 hesc.l1 hesc.l2 hesc.lq hesc.lqq ?_
  intro t2 h11 k11 hk11 e11
  rw [hesc.quo]
  have F15 := F14.ext e11
  have N15 := newsExt N14 e11
  clear F14 N14
  walk_at "SS"
  rw [if_neg (by simp)]
  walk_at "SS"
  refine c_unescape (F15.gd G2) (by exact hh) (by omega) hun.l0 hun.l1 hun.l2 ?_
  intro t3 h12 k12 hk12 e12
  rw [hun.un]
  have F16 := F15.ext e12
  have N16 := newsExt N15 e12
  clear F15 N15
  walk_at "SS"
  rw [if_neg (by simp)]
  walk_at "SS"
  rw [if_neg Bool.false_ne_true]
  walk_at "SS"
  refine push_w F16 N16 rfl ?_
  intro h13 F17 N17 e13 _
  clear F16 N16
  obtain ⟨V4, hV4⟩ : ∃ V4 : List Value, V4 = [.str (tx lt) tt, .str (tx (writtenL (psL (prs es)) lt)) tw, .str (tx (quotedL (psL (prs es)) lt)) tq, .str (tx (fromL (writtenL (psL (prs es)) lt))) to] := ⟨_, rfl⟩
  change News B2 _ h13 ((h12.objs.size, listOf (List.toArray [.str (tx lt) tt, .str (tx (writtenL (psL (prs es)) lt)) tw, .str (tx (quotedL (psL (prs es)) lt)) tq, .str (tx (fromL (writtenL (psL (prs es)) lt))) to]) 0) :: _) at N17
  rw [← hV4] at N17
  have hV4s : StrsAre V4 [tx lt, tx (writtenL (psL (prs es)) lt), tx (quotedL (psL (prs es)) lt), tx (fromL (writtenL (psL (prs es)) lt))] := by rw [hV4]; exact .cons _ _ (.cons _ _ (.cons _ _ (.cons _ _ .nil)))
  have hV4l : V4.length = 4 := by rw [hV4]; rfl
  clear hV4
  generalize h12.objs.size = A1 at *
  obtain ⟨Ts, nE, hEg, hTl, hTs⟩ := hEL2
  have hcomp : ∀ (k : Nat) (v : Value), (Ts.map Value.ref)[k]? = some v → ∃ T p t u, v = .ref T ∧ (prs es)[k]? = some p ∧ B2.IsTuple T #[.str p.1 t, .str p.2 u] := by
    intro k v hv
    rw [List.getElem?_map] at hv
    obtain ⟨T, hT, rfl⟩ := Option.map_eq_some_iff.mp hv
    have hk : k < (prs es).length := hTl ▸ (List.getElem?_eq_some_iff.mp hT).1
    obtain ⟨t, u, r⟩ := hTs k T _ hT (List.getElem?_eq_getElem hk)
    exact ⟨T, _, t, u, rfl, List.getElem?_eq_getElem hk, r⟩
  have hprl : (prs es).length ≤ 3 := by rw [prs, List.length_map]; exact hesl
  refine comp_list [] (fun k ys l => l = _ ∧ StrsAre ys (((prs es).take k).map (·.1))) (by rfl) (by decide) (by rfl) (by decide) (by exact hh) (by rw [List.length_map, hTl]; omega) hEg F17 N17 ⟨rfl, .nil⟩ ?_ ?_ ?_ ?_
  · intro Q' hq
    exact ldL F17 rfl hq
  · intro k v s₁ q E' hv hi' hq
    obtain ⟨T, p, t, u, rfl, _, _⟩ := hcomp k v hv
    exact wpAny_letOwnedTupleGo_listiter hi' hq
  · rintro k v ys l₁ B' C mC h' tk' hv htk' e4 e5' eL F18 N18 hl18 ⟨rfl, hys⟩
    refine wpAny_post2 fun Qa hQa => ?_
    obtain ⟨T, p, t, u, rfl, hp, hTt⟩ := hcomp k v hv
    refine assign_pair (T := T) (by exact hh) (hTt.at fun o e => F18.keep _ _ (e4 _ _ e)) ?_
    intro h14 e14
    refine stL (F18.ext e14) (newsExt N18 e14) ?_
    intro h15 F19 N19
    refine stL F19 N19 ?_
    intro h16 F20 N20
    refine ldL F20 rfl ?_
    refine hQa _ _ ?_
    refine Turned.mk (by walk_at "T") F20 N20 rfl ⟨rfl, ?_⟩
    rw [List.take_add_one, hp, Option.toList_some, List.map_append]
    exact strsAre_snoc hys _ _
  · rintro ys1 l₁ K1 nK1 h14 k14 hk14 hy1 F18 N18 hK1 hl18 ⟨rfl, hys1⟩
    rw [List.length_map, hTl, List.take_of_length_le (Nat.le_refl _)] at hys1
    clear F17 N17
    walk_at "SS"
    refine P.add_list (l := A1) (b := K1) (items := V4.toArray) (n := 0) (items2 := ys1.toArray) (n2 := nK1) (N18 (A1, _) (.tail _ (.head _))).1 (N18 (K1, _) (.head _)).1 ?_ (by rw [sizeLine_eq, List.size_toArray, List.size_toArray, hys1.length, List.length_map, hV4l]; omega)
    refine push_w F18 N18 rfl ?_
    intro h15 F19 N19 e15 hA2
    clear F18 N18
    generalize h14.objs.size = A2 at *
    refine comp_list [] (fun k ys l => l = _ ∧ StrsAre ys (((prs es).take k).map (·.2))) (by rfl) (by decide) (by rfl) (by decide) (by exact hh) (by rw [List.length_map, hTl]; omega) hEg F19 N19 ⟨rfl, .nil⟩ ?_ ?_ ?_ ?_
    · intro Q' hq
      exact ldL F19 rfl hq
    · intro k v s₁ q E' hv hi' hq
      obtain ⟨T, p, t, u, rfl, _, _⟩ := hcomp k v hv
      exact wpAny_letOwnedTupleGo_listiter hi' hq
    · rintro k v ys l₁ B' C mC h' tk' hv htk' e4 e5' eL F18 N18 hl18 ⟨rfl, hys⟩
      refine wpAny_post2 fun Qb hQb => ?_
      obtain ⟨T, p, t, u, rfl, hp, hTt⟩ := hcomp k v hv
      refine assign_pair (T := T) (by exact hh) (hTt.at fun o e => F18.keep _ _ (e4 _ _ e)) ?_
      intro h14 e14
      refine stL (F18.ext e14) (newsExt N18 e14) ?_
      intro h15 F19 N19
      refine stL F19 N19 ?_
      intro h16 F20 N20
      refine ldL F20 rfl ?_
      refine hQb _ _ ?_
      refine Turned.mk (by walk_at "T") F20 N20 rfl ⟨rfl, ?_⟩
      rw [List.take_add_one, hp, Option.toList_some, List.map_append]
      exact strsAre_snoc hys _ _
    rintro ys2 l₂ K2 nK2 h16 k16 hk16 hy2 F20 N20 hK2 hl20 ⟨rfl, hys2⟩
    rw [List.length_map, hTl, List.take_of_length_le (Nat.le_refl _)] at hys2
    clear F19 N19
    walk_at "SS"
    have hzA : (V4.toArray ++ ys1.toArray : Array Value) = (V4 ++ ys1).toArray := by simp
    refine P.add_list (l := A2) (b := K2) (items := (V4 ++ ys1).toArray) (n := 0) (items2 := ys2.toArray) (n2 := nK2) (by rw [← hzA]; exact (N20 (A2, _) (.tail _ (.head _))).1) (N20 (K2, _) (.head _)).1 ?_ (by
      rw [sizeLine_eq, List.size_toArray, List.size_toArray, hys2.length, List.length_map, List.length_append, hys1.length, List.length_map, hV4l]; omega)
    refine push_w F20 N20 rfl ?_
    intro h17 F21 N21 e17 hA3
    clear F20 N20
    generalize h16.objs.size = A3 at *
    obtain ⟨xs, hxs⟩ : ∃ xs : List Str, xs = [tx lt, tx (writtenL (psL (prs es)) lt), tx (quotedL (psL (prs es)) lt), tx (fromL (writtenL (psL (prs es)) lt))] ++ (prs es).map (·.1) ++ (prs es).map (·.2) := ⟨_, rfl⟩
    have hVs : StrsAre ((V4 ++ ys1) ++ ys2) xs := by rw [hxs]; exact strsAre_append (strsAre_append hV4s hys1) hys2
    have hzB : ((V4 ++ ys1).toArray ++ ys2.toArray : Array Value) = ((V4 ++ ys1) ++ ys2).toArray := by simp
    have hA3g : News B2 _ h17 [(A3, listOf (List.toArray ((V4 ++ ys1) ++ ys2)) 0)] := fun p hp => by
      rcases List.mem_singleton.mp hp with rfl
      have := N21 (A3, _) (.head _)
      rw [hzB] at this
      exact this
    have hA385 : A3 ≠ 85 := (hA3 (85, tabObj #[]) (.tail _ (.tail _ (.tail _ (.tail _ (.head _)))))).symm
    have N22 : News B2 _ h17 [(85, tabObj #[])] := fun p hp => by
      rcases List.mem_singleton.mp hp with rfl
      exact N21 (85, tabObj #[]) (.tail _ (.tail _ (.tail _ (.tail _ (.tail _ (.head _))))))
    clear N21
    obtain ⟨B3, eB3, eH3, F22, N23, ap3⟩ := ground F21 N22
    have hA3B : B3.get? A3 = some (listOf (List.toArray ((V4 ++ ys1) ++ ys2)) 0) := ap3 A3 (hA3g (A3, _) (.head _)).2.1 (fun p hp => by rcases List.mem_singleton.mp hp with rfl; exact hA385.symm) _ (hA3g (A3, _) (.head _)).1
    have G3 := G2.ext eB3
    have T3' := T2'.keeps eB3
    have h853 : B3.get? 85 = none := (N23 (85, _) (.head _)).2.2
    have hxok : ∀ x ∈ xs, TextOk (lst x) := by
      intro x hx
      rw [hxs] at hx
      rcases List.mem_append.mp hx with hx | hx
      · rcases List.mem_append.mp hx with hx | hx
        · simp only [List.mem_cons, List.not_mem_nil, or_false] at hx
          rcases hx with rfl | rfl | rfl | rfl <;> rw [lst_tx]
          · exact tok.1
          · exact tok.2.1
          · exact tok.2.2.1
          · exact tok.2.2.2
        · obtain ⟨p, hp, rfl⟩ := List.mem_map.mp hx
          exact (hpok p hp).1
      · obtain ⟨p, hp, rfl⟩ := List.mem_map.mp hx
        exact (hpok p hp).2.1
    have hxl : xs.length = 4 + 2 * (prs es).length := by rw [hxs]; simp; omega
    clear F21 N22
    walk_at "SS"
    rename Fm _ _ _ _ => F23
    rename News _ _ _ _ => N24
    clear F22 N23
    refine c_read_all (B₀ := B3) (a := A3) (vs := (V4 ++ ys1) ++ ys2) (xs := xs) (nv := 0) F23.keep G3 T3' h853 (N24 (85, _) (.head _)).1 (by exact hh) (by omega) (F23.keep _ _ hA3B) hA385 hVs (by omega) (fun x hx => ⟨(hxok x hx).oc, by have := (hxok x hx).ln; rw [lst_len] at this; exact this, (hxok x hx).sg⟩) ?_
    intro Dt yt nt h18 k18 ps85 hk18 back18 h1885 hDt0 hDt hyt htt
    have F24 := F23.but back18 h853 hL85
    obtain ⟨oL23, _, _, hoL23, _⟩ := F23.ns
    have hDtL : Dt ≠ L := fun q => by rw [show Dt = L from q] at hDt0; exact absurd (hDt0.symm.trans hoL23) (by intro x; cases x)
    clear F23 N24
    obtain ⟨B4, eB4, eH4, F25, N25, ap4⟩ := ground F24 News.nil
    have hB485 : B4.get? 85 = some (tabObj ps85) := ap4 85 hL85.symm (fun p hp => nomatch hp) _ h1885
    have hDtB : B4.get? Dt = some (listOf (List.toArray yt) nt) := ap4 Dt hDtL (fun p hp => nomatch hp) _ hDt
    have G4 := G3.ext eB4
    clear F24
    refine stL F25 N25 ?_
    intro h19 F26 N26
    clear F25 N25
    refine wpAny_execs_cons ?_
    refine wpAny_If ?_
    refine wpAny_isTrue_Compare1 ?_
    refine ldL F26 rfl ?_
    have hA3B4 : B4.get? A3 = some (listOf (List.toArray ((V4 ++ ys1) ++ ys2)) 0) := eB4 _ _ hA3B
    refine comp_list [] (fun k ys l => l = _ ∧ StrsAre ys ((xs.take k).map fun x => tx (octN (lst x)))) (by rfl) (by decide) (by rfl) (by decide) (by exact hh) (by rw [hVs.length]; omega) hA3B4 F26 N26 ⟨rfl, .nil⟩ ?_ ?_ ?_ ?_
    · intro Q' hq
      exact ldL F26 rfl hq
    · intro k v s₁ q E' hv hi' hq
      exact wpAny_of_eq rfl hq
    · rintro k v ys l₁ B' C mC h' tk' hv htk' e4 e5' eL F27 N27 hl27 ⟨rfl, hys⟩
      refine wpAny_post2 fun Qc hQc => ?_
      obtain ⟨x, tx1, hxi, rfl⟩ := strsAre_get hVs hv
      have hxm : x ∈ xs := List.mem_of_getElem? hxi
      have G' : Gd w mg mb B' := G4.ext e4
      refine wpAny_assign_Name ?_
      walk_at "SS"
      rename Fm _ _ _ _ => F28
      rename News _ _ _ _ => N28
      clear F27 N27
      rw [eval_ListComp]
      refine wpAny_comprehension_free (use := none) rfl (by intro _; rfl) (cl := []) (by rfl) (by rfl) (by decide) ?_
      show wpAny _ _ (eval (Expr.Call (Expr.Name _ _) _ [] _) _) _ _ _
      walk_at "SS"
      refine c_octets (F28.gd G') (by exact hh) (by omega) (by have := (hxok x hxm).ln; rw [lst_len] at this; omega) ?_
      intro D6 vs6 n6 h20 k20 hk20 e20 hD60 hD6 hvs6
      have F29 := F28.ext e20
      have N29 := newsExt N28 e20
      obtain ⟨oC28, _, _, hoC28, _⟩ := F28.ns
      have hD6C : D6 ≠ C := fun q => by rw [show D6 = C from q] at hD60; exact absurd (hD60.symm.trans hoC28) (by intro x; cases x)
      clear F28 N28
      obtain ⟨B5, eB5, eH5, F30, N30, ap5⟩ := ground F29 N29
      have hD6B : B5.get? D6 = some (listOf (List.toArray vs6) n6) := ap5 D6 hD6C (fun p hp => nomatch hp) _ hD6
      have G5 := G'.ext eB5
      clear F29 N29
      have hol : (octs (lst x)).length < 256 := (hxok x hxm).oc
      have hrng := octs_rng _ (hxok x hxm).sg
      have hvs6' : IntsAre vs6 (octs (lst x)) := hvs6
      refine comp_after (vs := vs6) (nD := n6) [] (fun k ys l => l = [] ∧ StrsAre ys (((octs (lst x)).take k).map fun n => tx [n.toNat])) (by decide) (by rfl) (by exact hh) (by rw [hvs6'.length]; omega) hD6B F30 N30 ⟨rfl, .nil⟩ ?_ ?_ ?_
      · intro k v s₁ q E' hv hi' hq
        exact wpAny_of_eq rfl hq
      · rintro k v ys' l₁ B6 C6 mC6 h'' tk'' hv6 htk6 e6 e6' eL6 F31 N31 hl31 ⟨rfl, hys'⟩
        refine wpAny_post2 fun Qd hQd => ?_
        obtain ⟨n, u, rfl, hnk⟩ := hvs6'.at k v hv6
        have hnr := hrng n (List.mem_of_getElem? hnk)
        have G6 : Gd w mg mb B6 := G5.ext e6
        refine wpAny_assign_Name ?_
        walk_at "SS"
        rename Fm _ _ _ _ => F32
        rename News _ _ _ _ => N32
        refine PyProof.Rows.chr_of_range hnr.1 (by omega) ?_
        dsimp only
        refine hQd _ _ ?_
        refine Turned.mk (by walk_at "T") F32 N32 rfl ⟨rfl, ?_⟩
        rw [List.take_add_one, hnk, Option.toList_some, List.map_append]
        exact strsAre_snoc hys' _ _
      · rintro ys' l₁ D7 n7 h21 k21 hk21 hy7 F31 N31 hD7 hl31 ⟨rfl, hys'⟩
        rw [hvs6'.length, List.take_of_length_le (Nat.le_refl _)] at hys'
        have e9 : (octs (lst x)).map (fun n => tx [n.toNat]) = (octN (lst x)).map fun c => tx [c] := by
          rw [octN, List.map_map]; rfl
        rw [e9] at hys'
        have hfl : (octN (lst x)).flatMap (fun c => [c]) = octN (lst x) := by simp
        walk_at "SS"
        refine join_ (x := tx []) (N31 _ (.head _)).1 hys' (by rfl) (by rw [sums_tx fun c => [c], hfl, octN, List.length_map]; omega) ?_
        intro t' k' hk'
        rw [join_tx fun c => [c], hfl]
        have N33 : News B5 C h21 [] := .nil
        refine hQc _ _ ?_
        refine Turned.mk (by walk_at "T") (F31.down eB5) .nil rfl ⟨rfl, ?_⟩
        rw [List.take_add_one, hxi, Option.toList_some, List.map_append]
        exact strsAre_snoc hys _ _
    · rintro ycs l₁ Dc nc h20 k20 hk20 hyc F27 N27 hDc hl27 ⟨rfl, hyc2⟩
      rw [hVs.length, List.take_of_length_le (Nat.le_refl _)] at hyc2
      clear F26 N26
      refine ne_strs (fun x hx => by
        obtain ⟨y, hy, rfl⟩ := List.mem_map.mp hx
        exact told_ok (hxok y hy)) hu (F27.keep _ _ hDtB) (N27 (Dc, _) (.head _)).1 hyt hyc2 ?_
      walk_at "SS"
      rw [if_neg Bool.false_ne_true]
      walk_at "SS"
      have hEg4 : B4.get? De = some (listOf (Ts.map Value.ref).toArray nE) := eB4 _ _ (eB3 _ _ hEg)
      refine len_list (items := (Ts.map Value.ref).toArray) ⟨_, F27.keep _ _ hEg4, rfl, nE, rfl⟩ (by rw [List.size_toArray, List.length_map, hTl]; omega) ?_
      rw [List.size_toArray, List.length_map, hTl]
      walk_at "SS"
      obtain ⟨ts, hts1, hts2⟩ := strs_toks hyt
      have hytl : yt.length = 4 + 2 * (prs es).length := by rw [hyt.length, List.length_map, hxl]
      rename Fm _ _ _ _ => F28
      clear N27
      refine item_list_slice (lo := some 4) (hi := some (4 + ((prs es).length : Int))) (F28.keep _ _ hDtB) (by omega) (.int _ _) (.int _ _) ?_
      intro h22 L1 e22 hL10 hL1
      have eL1 : slicePick yt.toArray (some 4) (some (4 + ((prs es).length : Int))) none = ((yt.drop 4).take (prs es).length).toArray := by
        have := slicePick_run yt.toArray 4 (4 + (prs es).length) (by rw [List.size_toArray]; omega) (by omega)
        rw [show ((4 + (prs es).length : Nat) : Int) = 4 + ((prs es).length : Int) from by omega] at this
        rw [show (4 : Int) = ((4 : Nat) : Int) from rfl]
        simpa using this
      rw [eL1] at hL1
      have F29 := F28.ext e22
      have N29 : News B4 L h22 [] := .nil
      clear F28
      walk_at "SS"
      refine sub_slice_from ?_
      walk_at "SS"
      refine item_list_slice (lo := some (4 + ((prs es).length : Int))) (hi := none) (F29.keep _ _ hDtB) (by omega) (.int _ _) .none ?_
      intro h23 L2 e23 hL20 hL2
      have eL2 : slicePick yt.toArray (some (4 + ((prs es).length : Int))) none none = (yt.drop (4 + (prs es).length)).toArray := by
        have := slicePick_from' yt.toArray (4 + (prs es).length)
        rw [show ((4 + (prs es).length : Nat) : Int) = 4 + ((prs es).length : Int) from by omega] at this
        simpa using this
      rw [eL2] at hL2
      have F30 := F29.ext e23
      have N30 : News B4 L h23 [] := .nil
      clear F29 N29
      walk_at "SS"
      have hlL1 : h23.IsList L1 ((yt.drop 4).take (prs es).length).toArray := ⟨_, e23 _ _ hL1, rfl, 0, rfl⟩
      have hlL2 : h23.IsList L2 (yt.drop (4 + (prs es).length)).toArray := ⟨_, hL2, rfl, 0, rfl⟩
      have s1 : @LT.lt Nat _ L1 h23.objs.size := Heap.lt_size (e23 _ _ hL1)
      have s2 : @LT.lt Nat _ L2 h23.objs.size := Heap.lt_size hL2
      refine call_zip_2 hlL1 hlL2 fun h24 z1 z2 z3 z4 z5 z6 z7 => ?_
      have eB23 : Ext B4 h23 := F30.keep
      have F31 := F30.ext z7
      have oLF := F30.ns
      clear F30
      generalize hsz : h23.objs.size = Z at *
      have D : ZipApart (Z + 4) (Z + 2) (Z + 3) Z (Z + 1) L1 L2 := zap s1 s2
      walk_at "SS"
      obtain ⟨ps, hps⟩ : ∃ ps, ps = ((ts.drop 4).take (prs es).length).zip (ts.drop (4 + (prs es).length)) := ⟨_, rfl⟩
      have htsl : ts.length = 4 + 2 * (prs es).length := by rw [← hytl, hts1, List.length_map]
      have hp1 : ps.map (fun p => Value.str p.1.1 p.1.2) = (yt.drop 4).take (prs es).length := by
        rw [hps, hts1, ← List.map_drop, ← List.map_take]
        refine zip_fst (fun p : Str × Tok => Value.str p.1 p.2) _ _ ?_
        rw [List.length_take, List.length_drop, List.length_drop]
        exact ar1 htsl
      have hp2 : ps.map (fun p => Value.str p.2.1 p.2.2) = yt.drop (4 + (prs es).length) := by
        rw [hps, hts1, ← List.map_drop]
        refine zip_snd (fun p : Str × Tok => Value.str p.1 p.2) _ _ ?_
        rw [List.length_take, List.length_drop, List.length_drop]
        exact ar2 htsl
      have hpl : ps.length = (prs es).length := by rw [hps, List.length_zip, List.length_take, List.length_drop, List.length_drop]; exact ar3 htsl
      refine dict_zip (w := w) ps (by exact hh) D (by omega) z1 ?_ ?_
      · rw [hp1, hp2]
        exact ⟨z2, z4, z5, listAt_ext hlL1 z7, listAt_ext hlL2 z7, .inl ⟨z1, _, _, z3⟩⟩
      intro Do h25 k25 ep25 hDo0 hDoe hDo hk25
      have k25B : Ext B4 h25 := fun c o e => by
        have lt : ∀ c o, B4.get? c = some o → @LT.lt Nat _ c Z := fun c o e => by rw [← hsz]; exact Heap.lt_size (eB23 _ _ e)
        have := lt c o e
        exact hk25 c o (nez this 4) (nez this 3) (nez this 0) (nez this 1) (z7 _ _ (eB23 _ _ e))
      have k25L : ∀ o, h23.get? L = some o → h25.get? L = some o := fun o e => by
        have : @LT.lt Nat _ L Z := by rw [← hsz]; exact Heap.lt_size e
        exact hk25 L o (nez this 4) (nez this 3) (nez this 0) (nez this 1) (z7 _ _ e)
      have F32 : Fm B4 L h25 _ := ⟨oLF.at' k25L, k25B, F31.off⟩
      have N32 : News B4 L h25 [] := .nil
      have hDoL : Do ≠ L := fun q => by
        obtain ⟨oo, _, _, ho, _⟩ := F31.ns
        have ho : h24.get? L = some oo := ho
        rw [q, ho] at hDo0; cases hDo0
      clear F31
      obtain ⟨B5, eB5, eH5, F33, N33, ap5⟩ := ground F32 N32
      have hDoB : B5.get? Do = some _ := ap5 Do hDoL (fun p hp => nomatch hp) _ hDo
      have G5 := G4.ext eB5
      have hDoS : (Do == sysModules) = false := by
        refine (G4.ext eB23).sys ?_
        rw [hDoe, hsz, z6]
        exact Nat.le_add_right _ _
      clear F32 N32
      refine stL F33 N33 ?_
      intro h26 F34 N34
      clear F33 N33
      have E1 := ents_ok (w := w) (qs := prs es) hTab (by rw [prs, List.map_map]; exact hW.nd) hps hts1 hts2 hxs htt
      obtain ⟨u0, y0⟩ := ts_at hts1 hts2 (i := 0) (x := tx lt) (by rw [hxs]; rfl)
      obtain ⟨u1, y1⟩ := ts_at hts1 hts2 (i := 1) (x := tx (writtenL (psL (prs es)) lt)) (by rw [hxs]; rfl)
      obtain ⟨u2, y2⟩ := ts_at hts1 hts2 (i := 2) (x := tx (quotedL (psL (prs es)) lt)) (by rw [hxs]; rfl)
      obtain ⟨u3, y3⟩ := ts_at hts1 hts2 (i := 3) (x := tx (fromL (writtenL (psL (prs es)) lt))) (by rw [hxs]; rfl)
      rw [lst_tx] at y0 y1 y2 y3
      exact law_tail hb0 (by exact hh) (by exact hroom) F34 G5 (by rfl) (by rfl) (eB5 _ _ hDtB) hDoB hDoS E1.W E1.ent E1.ne E1.len E1.prs E1.key y0 y1 y2 y3 hoct hun8 (fun h' tk e => h h' tk ps85 ((((eB1.trans eB2).trans eB3).trans eB4).trans (eB5.trans e)) (e _ _ (eB5 _ _ hB485)))
end Mine
set_option maxRecDepth 100000 in
set_option maxHeartbeats 8000000 in
theorem PySem.Challenge.cw_ij0016_01_holds : PySem.Challenge.rw_ij0016_01.Holds := by
  refine Mine.hd ?_
  k_go0
  rename Frag.In _ _ => X'
  rename Top topProg _ _ _ _ _ => T'
  rename Fr _ _ _ _ => F'
  rename News _ _ _ _ => N'
  rename IntsAre _ _ => hI
  rename ¬ (_ < _) => hlen
  have G' : Mine.Gd _ _ _ _ := ⟨X', T'.g, T'.b, T'.builtins⟩
  have n85 := N' (85, tabObj #[]) (.head _)
  refine wpAny_mono (Mine.law_walk (by rfl) (by rfl) (by show callerA.units + 3 + 64 < cLine; decide +kernel) (by show callerA.depth + 1 + 6 < recursionLimit; decide +kernel) (Mine.Fm.of F') (by rfl) n85.2.2 n85.1 n85.2.1.symm G' T' lifted hI (by omega) ?_) (fun _ _ x => x) (fun _ _ x => x.elim)
  intro h' tk ps85 e he
  refine ⟨⟨.inl ⟨.bool true, .bool true, [], rfl, fun _ => rfl, .bool _, ?_, fun _ => ⟨List.nodup_nil, fun _ hm => nomatch hm⟩⟩, e, rfl, ?_⟩, ⟨ps85, he⟩, True.intro⟩
  · wrow_post
  · assumption
