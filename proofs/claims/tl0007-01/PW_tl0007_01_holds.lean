import PyProof.Rows.All
import Wide.All
import OpenK.AllK
import Wide.FinOn
import PySem.Challenge.RW_tl0007_01
set_option Elab.async false
set_option compiler.extract_closed false
section
open PySem PySem.W PyProof.Rows
namespace Mine
set_option maxRecDepth 100000 in
set_option maxHeartbeats 8000000 in
open_top hd for PySem.Challenge.rw_tl0007_01
end Mine
end
section
open PySem PySem.W PyProof.Rows PySem.Calls PySem.Spec
namespace Mine
-- part A1
set_option maxRecDepth 100000
set_option linter.unusedVariables false
set_option maxHeartbeats 8000000

noncomputable abbrev KK (w : World) : Frag := hd.heap_39 w.params


section
variable {prog : Program} {w : World} {A : Around} {s : Shared} {mg mb : Str → Option Value} {mean : ExcName → Option Value} {p : Program} {loose : List Str}

theorem enter0 {R : Result → Shared → Prop} {name qual : Str} {params : Arguments} {body : List Stmt} {scope : Scope} {dV kV doc pm cdv ct oc : Value} {an od : Option Addr} {osl : Array (Option Value)} {f : Addr} {args : Args} {binds : List (Str × Value)} {news : List (Addr × Obj)} {K : Frag}
    (h₀ : Heap) (hst : h₀.StaysIn s.heap) (hsz : h₀.objs.size ≤ s.heap.objs.size) (X : K.In h₀) (T : Top p loose mean mg mb h₀)
    (N : ∀ q ∈ news, s.heap.get? q.1 = some q.2 ∧ h₀.get? q.1 = none)
    (ho : K.lookup f = some ⟨oc, od, .func (fnOf name qual params body scope dV kV doc pm an cdv ct), osl⟩) (hcd : codeIn K cdv qual = true) (hroom : A.depth < recursionLimit)
    (hbind : BindsTo s (fnOf name qual params body scope dV kV doc pm an cdv ct) args binds) (hloc : ∀ y ∈ binds, scope.names.lookup y.1 = some .local)
    (h : ∀ L' h₁, Fr h₀ L' h₁ (fun y => binds.reverse.lookup y) → News h₀ L' h₁ news → (∀ p ∈ news, p.1 < L') →
      wpAny (model prog w) (A.deeper (envOf qual scope L' f cdv)) (execs body (envOf qual scope L' f cdv))
        (fun fl s' => R (.ok (.ret (match fl with | .ret v => v | _ => .none))) s') (fun _ _ => False)
        { s with heap := h₁, toks := s.toks + binds.length })
    (hco : scope.isCoroutine = false) (hgen : scope.isGenerator = false) (hk : scope.kind = .function)
    (hcell : ∀ x ∈ scope.names, x.2 ≠ .cell) : codeAny (model prog w) A (.call (.ref f) args) R s := by
  refine codeAny_call_def (fd := fnOf name qual params body scope dV kV doc pm an cdv ct) (body := body) (binds := binds) hroom ((X.keeps hst) _ _ ho) rfl (T.nolimit.keeps hst) (codeRec_of (X.keeps hst) hcd) rfl hbind hcell hloc (fun h₁ hns hk₁ => ?_) hco hgen hk
  refine wpAny_mono (h s.heap.objs.size h₁ ⟨hns, fun b o e => hk₁ b o (hst b o e), hsz⟩ (fun q hq => ⟨hk₁ _ _ (N q hq).1, Nat.ne_of_lt (Heap.lt_size (N q hq).1), (N q hq).2⟩) (fun q hq => Heap.lt_size (N q hq).1)) (fun _ _ x => x) (fun _ _ x => x.elim)

theorem enterC {R : Result → Shared → Prop} {name qual : Str} {params : Arguments} {body : List Stmt} {scope : Scope} {dV kV doc pm cdv ct oc : Value} {an od : Option Addr} {osl : Array (Option Value)} {f : Addr} {args : Args} {binds : List (Str × Value)} {news : List (Addr × Obj)} {K : Frag}
    (h₀ : Heap) (hst : h₀.StaysIn s.heap) (hsz : h₀.objs.size ≤ s.heap.objs.size) (X : K.In h₀) (T : Top p loose mean mg mb h₀)
    (N : ∀ q ∈ news, s.heap.get? q.1 = some q.2 ∧ h₀.get? q.1 = none)
    (ho : K.lookup f = some ⟨oc, od, .func (fnOf name qual params body scope dV kV doc pm an cdv ct), osl⟩) (hcd : codeIn K cdv qual = true) (hroom : A.depth < recursionLimit)
    (hbind : BindsTo s (fnOf name qual params body scope dV kV doc pm an cdv ct) args binds) (hkind : (binds.all fun y => scope.names.lookup y.1 == some .local || scope.names.lookup y.1 == some .cell) = true)
    (hnd : ((cellsFrom 0 scope.names []).map (·.1)).Nodup)
    (h : ∀ L' h₁ tk cells, Fr h₀ L' h₁ (bindL (envOfC qual scope L' f cdv).kindOf binds fun _ => none) → News h₀ L' h₁ (cells ++ news) →
      CellsAre (bindC (envOfC qual scope L' f cdv).kindOf binds fun _ => none) (cellsFrom (L' + 1) scope.names []) cells → (∀ p ∈ news, p.1 < L') →
      wpAny (model prog w) (A.deeper (envOfC qual scope L' f cdv)) (execs body (envOfC qual scope L' f cdv))
        (fun fl s' => R (.ok (.ret (match fl with | .ret v => v | _ => .none))) s') (fun _ _ => False)
        { s with heap := h₁, toks := tk })
    (hco : scope.isCoroutine = false) (hgen : scope.isGenerator = false) (hk : scope.kind = .function) : codeAny (model prog w) A (.call (.ref f) args) R s := by
  refine codeAny_call_function hroom ((X.keeps hst) _ _ ho) rfl hco hgen rfl (codeRec_of (X.keeps hst) hcd) (hbind _ _ _ _ ?_)
  refine wpAny_newFunctionEnv_cells hk (kindsX hkind _) fun env' he s' x => ?_
  subst he
  refine ⟨(T.nolimit.keeps hst).keeps x.toInCall.keep, codeAny_func ?_⟩
  obtain ⟨h₁, tk, rfl, _⟩ := x.done
  have hk₁ := x.toInCall.keep
  obtain ⟨cells, NC, Y⟩ := Cl.news (h₀ := s.heap) (Nat.le_refl _) fun n c hm => ⟨x.cell n c (lookup_of_mem_nodup (cellsFrom_names scope.names 0 (s.heap.objs.size + 1) [] [] rfl ▸ hnd) hm), x.above n c hm⟩
  refine wpAny_mono (h s.heap.objs.size h₁ tk cells ⟨x.toInCall.ns, fun b o e => hk₁ b o (hst b o e), hsz⟩ (fun q hq => ?_) Y (fun q hq => Heap.lt_size (N q hq).1)) (fun _ _ x => x) (fun _ _ x => x.elim)
  rcases List.mem_append.mp hq with hq | hq
  · refine ⟨(NC q hq).1, (NC q hq).2.1, ?_⟩
    cases e : h₀.get? q.1 with
    | none => rfl
    | some o => have := hst _ _ e; rw [(NC q hq).2.2] at this; cases this
  · exact ⟨hk₁ _ _ (N q hq).1, Nat.ne_of_lt (Heap.lt_size (N q hq).1), (N q hq).2⟩

/-- a def made in the call -/
theorem enterN {R : Result → Shared → Prop} {name qual : Str} {params : Arguments} {body : List Stmt} {scope : Scope} {cl : List (Str × Addr)} {doc pm ctv : Value} {c' f : Addr} {args : Args} {binds : List (Str × Value)} {news : List (Addr × Obj)}
    (h₀ : Heap) (hst : h₀.StaysIn s.heap) (hsz : h₀.objs.size ≤ s.heap.objs.size) (T : Top p loose mean mg mb h₀)
    (N : ∀ q ∈ news, s.heap.get? q.1 = some q.2 ∧ h₀.get? q.1 = none)
    (ho : s.heap.get? f = some (fnMade name qual params body scope cl doc pm c' ctv)) (hcd : s.heap.CodeRec (.ref c') qual) (hroom : A.depth < recursionLimit)
    (hbind : BindsTo s (fnX name qual params body scope cl .none .none doc pm none (.ref c') ctv) args binds) (hloc : ∀ y ∈ binds, scope.names.lookup y.1 = some .local)
    (h : ∀ L' h₁, Fr h₀ L' h₁ (fun y => binds.reverse.lookup y) → News h₀ L' h₁ news → (∀ p ∈ news, p.1 < L') →
      wpAny (model prog w) (A.deeper (envX qual scope L' f (.ref c') cl)) (execs body (envX qual scope L' f (.ref c') cl))
        (fun fl s' => R (.ok (.ret (match fl with | .ret v => v | _ => .none))) s') (fun _ _ => False)
        { s with heap := h₁, toks := s.toks + binds.length })
    (hco : scope.isCoroutine = false) (hgen : scope.isGenerator = false) (hk : scope.kind = .function)
    (hcell : ∀ x ∈ scope.names, x.2 ≠ .cell) : codeAny (model prog w) A (.call (.ref f) args) R s := by
  refine codeAny_call_def (fd := fnX name qual params body scope cl .none .none doc pm none (.ref c') ctv) (body := body) (binds := binds) hroom ho rfl (T.nolimit.keeps hst) hcd rfl hbind hcell hloc (fun h₁ hns hk₁ => ?_) hco hgen hk
  refine wpAny_mono (h s.heap.objs.size h₁ ⟨hns, fun b o e => hk₁ b o (hst b o e), hsz⟩ (fun q hq => ⟨hk₁ _ _ (N q hq).1, Nat.ne_of_lt (Heap.lt_size (N q hq).1), (N q hq).2⟩) (fun q hq => Heap.lt_size (N q hq).1)) (fun _ _ x => x) (fun _ _ x => x.elim)

theorem allNil {α : Type} {P : α → Prop} : ∀ q ∈ ([] : List α), P q := fun _ h => nomatch h
theorem allCons {α : Type} {P : α → Prop} {a : α} {l : List α} (h : P a) (hl : ∀ q ∈ l, P q) : ∀ q ∈ a :: l, P q := List.forall_mem_cons.mpr ⟨h, hl⟩
abbrev Got (h : Heap) (q : Addr × Obj) : Prop := h.get? q.1 = some q.2
theorem got {h : Heap} {a : Addr} {o : Obj} (e : h.get? a = some o) : Got h (a, o) := e
abbrev NotIn (b : Heap) (q : Addr × Obj) : Prop := b.get? q.1 = none

/-- s.heap with the ledger's objects laid aside -/
theorem aside {b h : Heap} {K : Frag} {news : List (Addr × Obj)} (X : K.In b) (T : Top p loose mean mg mb b) (hst : b.StaysIn h) (N : ∀ q ∈ news, Got h q) (hbn : ∀ q ∈ news, NotIn b q) :
    ∃ g : Heap, g.StaysIn h ∧ g.objs.size = h.objs.size ∧ (∀ q ∈ news, h.get? q.1 = some q.2 ∧ g.get? q.1 = none) ∧ (∀ a o, (∀ q ∈ news, a ≠ q.1) → h.get? a = some o → g.get? a = some o) ∧ b.StaysIn g ∧ K.In g ∧ Top p loose mean mg mb g := by
  have e : ∀ a o, (∀ q ∈ news, a ≠ q.1) → h.get? a = some o → (hideAll h (news.map (·.1))).get? a = some o := fun a o hn e => hideAll_get _ e fun ha => by
    obtain ⟨q, hq, rfl⟩ := List.mem_map.mp ha
    exact hn q hq rfl
  have st : b.StaysIn (hideAll h (news.map (·.1))) := fun a o eb => e a o (fun q hq hh => by subst hh; have := hbn q hq; rw [NotIn, eb] at this; cases this) (hst a o eb)
  exact ⟨_, fun a o e => of_hideAll _ e, hideAll_size _ _, fun q hq => ⟨N q hq, hideAll_none _ (List.mem_map_of_mem hq)⟩, e, st, X.keeps st, T.keeps st⟩

/-- the i-th statement of the top's def f makes a def with these -/
def Nested (K : Frag) (f : Addr) (i : Nat) (params : Arguments) (body : List Stmt) (scope : Scope) : Prop :=
  ∃ oc od osl fd b nm ds ret tps tsc bnd pos, K.lookup f = some ⟨oc, od, .func fd, osl⟩ ∧ fd.body = .stmts b ∧ b[i]? = some (.FunctionDef nm params body ds ret tps scope tsc bnd pos)

theorem Fr.but {h₀ h h' : Heap} {L : Addr} {hid : List Addr} {m : Str → Option Value} (F : Fr h₀ L h m) (st : ∀ b o, b ∉ hid → h.get? b = some o → h'.get? b = some o) (hL : L ∉ hid) (hn : ∀ b ∈ hid, h₀.get? b = none) : Fr h₀ L h' m := by
  obtain ⟨⟨oL, es, ep, hg, r⟩, hk, ha⟩ := F
  exact ⟨⟨oL, es, ep, st _ _ hL hg, r⟩, fun b o e => st b o (fun hb => by rw [hn b hb] at e; cases e) (hk b o e), ha⟩

theorem News.upd1 {h₀ h h' : Heap} {L d : Addr} {o o' : Obj} {rest : List (Addr × Obj)} (N : News h₀ L h ((d, o) :: rest)) (hne : ∀ q ∈ rest, q.1 ≠ d) (kp : ∀ a x, a ≠ d → h.get? a = some x → h'.get? a = some x) (e : h'.get? d = some o') :
    News h₀ L h' ((d, o') :: rest) := by
  intro q hq
  rcases List.mem_cons.mp hq with rfl | hq
  · exact ⟨e, (N (d, o) (.head _)).2⟩
  · exact ⟨kp _ _ (hne q hq) (N q (.tail _ hq)).1, (N q (.tail _ hq)).2⟩
theorem Fr.but1 {h₀ h h' : Heap} {L d : Addr} {o : Obj} {rest : List (Addr × Obj)} {m : Str → Option Value} (F : Fr h₀ L h m) (N : News h₀ L h ((d, o) :: rest)) (kp : ∀ a x, a ≠ d → h.get? a = some x → h'.get? a = some x) : Fr h₀ L h' m :=
  Fr.but (hid := [d]) F (fun a x hn e => kp a x (fun q => hn (q ▸ .head _)) e) (fun q => (N (d, o) (.head _)).2.1 (List.mem_singleton.mp q).symm) (fun a ha => by cases List.mem_singleton.mp ha; exact (N (d, o) (.head _)).2.2)

/-- what the callee laid aside and did not turn stands as it stood -/
theorem keep_rest {g h h' : Heap} {L : Addr} {top top' rest : List (Addr × Obj)} (kp : ∀ a o, (∀ q ∈ top ++ rest, a ≠ q.1) → h.get? a = some o → g.get? a = some o) (k : ∀ b o, g.get? b = some o → h'.get? b = some o)
    (N : ∀ q ∈ top ++ rest, h.get? q.1 = some q.2 ∧ g.get? q.1 = none) (N' : News g L h' (top' ++ rest)) : ∀ a o, (∀ q ∈ top, a ≠ q.1) → h.get? a = some o → h'.get? a = some o := by
  intro a o hn e
  by_cases ha : ∃ q ∈ rest, a = q.1
  · obtain ⟨q, hq, rfl⟩ := ha
    have e2 := (N q (List.mem_append_right _ hq)).1
    rw [e] at e2
    cases e2
    exact (N' q (List.mem_append_right _ hq)).1
  · refine k _ _ (kp a o (fun q hq => ?_) e)
    rcases List.mem_append.mp hq with hq | hq
    · exact hn q hq
    · exact fun x => ha ⟨q, hq, x⟩

structure Hold (P : Prop) : Prop where
  out : P
theorem execs_cut {M : Model} {E : Value → Shared → Prop} {env : Env} {st : Stmt} {rest : List Stmt} {Q : Flow → Shared → Prop} (P : Shared → Prop)
    (h1 : wpAny M A (exec st env) (fun f s' => f = .next ∧ Hold (P s')) E s) (h2 : ∀ s', P s' → wpAny M A (execs rest env) Q E s') :
    wpAny M A (execs (st :: rest) env) Q E s := by
  show wpAny M A (do match ← exec st env with | .next => execs rest env | f => pure f) Q E s
  refine wpAny_bind (wpAny_mono h1 (fun f s' h => ?_) fun _ _ x => x)
  obtain ⟨rfl, hp⟩ := h
  exact h2 s' hp.out

theorem execs_via {M : Model} {E : Value → Shared → Prop} {env : Env} {st : Stmt} {rest : List Stmt} {Q : Flow → Shared → Prop} (P : (Shared → Prop) → Prop)
    (h1 : ∀ R : Shared → Prop, P R → wpAny M A (exec st env) (fun f s' => f = .next ∧ Hold (R s')) E s) (h2 : P (fun s' => wpAny M A (execs rest env) Q E s')) :
    wpAny M A (execs (st :: rest) env) Q E s :=
  execs_cut (fun s' => wpAny M A (execs rest env) Q E s') (h1 _ h2) fun _ x => x
section
variable {K : Frag} {f : Addr} {i : Nat} {oc : Value} {od : Option Addr} {osl : Array (Option Value)} {fd : FuncData} {bb : List Stmt} {nm bnd : Str} {params : Arguments} {body : List Stmt} {ds : List PySem.Expr} {ret : Option PySem.Expr} {tps : List TypeParam} {scope : Scope} {tsc : Option Scope} {pos : Pos}
def nestP (_ : K.lookup f = some ⟨oc, od, .func fd, osl⟩) (_ : fd.body = .stmts bb) (_ : bb[i]? = some (.FunctionDef nm params body ds ret tps scope tsc bnd pos)) : Arguments := params
def nestB (_ : K.lookup f = some ⟨oc, od, .func fd, osl⟩) (_ : fd.body = .stmts bb) (_ : bb[i]? = some (.FunctionDef nm params body ds ret tps scope tsc bnd pos)) : List Stmt := body
def nestS (_ : K.lookup f = some ⟨oc, od, .func fd, osl⟩) (_ : fd.body = .stmts bb) (_ : bb[i]? = some (.FunctionDef nm params body ds ret tps scope tsc bnd pos)) : Scope := scope
end
theorem len2 {α : Type} {l : List α} (h : l.length = 2) : ∃ x y, l = [x, y] := by
  cases l with
  | nil => cases h
  | cons x l =>
    cases l with
    | nil => cases h
    | cons y l =>
      cases l with
      | nil => exact ⟨x, y, rfl⟩
      | cons z l => cases h
theorem len3 {α : Type} {l : List α} (h : l.length = 3) : ∃ x y z, l = [x, y, z] := by
  cases l with
  | nil => cases h
  | cons x l =>
    obtain ⟨y, z, rfl⟩ := len2 (l := l) (Nat.succ.inj h)
    exact ⟨x, y, z, rfl⟩
theorem ints1 {vs : List Value} {x : Int} {ns : List Int} (h : IntsAre vs (x :: ns)) : ∃ t us, vs = .int x t :: us ∧ IntsAre us ns := by
  cases h with
  | cons _ t h => exact ⟨t, _, rfl, h⟩
theorem ints2 {vs : List Value} {x y : Int} (h : IntsAre vs [x, y]) : ∃ t1 t2, vs = [.int x t1, .int y t2] := by
  obtain ⟨t1, u, e1, h1⟩ := ints1 h
  obtain ⟨t2, u2, e2, h2⟩ := ints1 h1
  cases h2
  exact ⟨t1, t2, e1.trans (congrArg _ e2)⟩
theorem ints3 {vs : List Value} {x y z : Int} (h : IntsAre vs [x, y, z]) : ∃ t1 t2 t3, vs = [.int x t1, .int y t2, .int z t3] := by
  obtain ⟨t1, u, e1, h1⟩ := ints1 h
  obtain ⟨t2, t3, e2⟩ := ints2 h1
  exact ⟨t1, t2, t3, e1.trans (congrArg _ e2)⟩
theorem mid_cast {lo c hi : Nat} : max (lo : Int) (min (c : Int) (hi : Int)) = ((max lo (min c hi) : Nat) : Int) := by omega
theorem mid_lin {x y z lo c hi : Int} (h1 : x ≤ lo) (h2 : x ≤ c) (h3 : c ≤ z) (h4 : hi ≤ z) (hl : lo ≤ hi) (s : x + y + z = lo + c + hi) (hx : x = lo ∨ x = c) (hz : z = c ∨ z = hi) : y = max lo (min c hi) := by
  rcases Int.le_total c lo with g | g
  · rw [Int.max_eq_left (Int.le_trans (Int.min_le_left c hi) g)]
    have e1 : x = c := hx.elim (fun e => Int.le_antisymm h2 (e ▸ g)) id
    have e2 : z = hi := hz.elim (fun e => Int.le_antisymm (e ▸ Int.le_trans g hl) h4) id
    subst e1 e2
    omega
  · have e1 : x = lo := hx.elim id fun e => Int.le_antisymm h1 (e ▸ g)
    subst e1
    rcases Int.le_total c hi with g2 | g2
    · rw [Int.min_eq_left g2, Int.max_eq_right g]
      have e2 : z = hi := hz.elim (fun e => Int.le_antisymm (e ▸ g2) h4) id
      subst e2
      omega
    · rw [Int.min_eq_right g2, Int.max_eq_right hl]
      have e2 : z = c := hz.elim id fun e => Int.le_antisymm (e ▸ g2) h3
      subst e2
      omega
theorem Fr.stays {h₀ h h' : Heap} {L : Addr} {m : Str → Option Value} (F : Fr h₀ L h m) (st : h.StaysIn h') : Fr h₀ L h' m :=
  ⟨F.ns.keeps st, fun b o e => st b o (F.keep b o e), F.above⟩
theorem News.stays {h₀ h h' : Heap} {L : Addr} {news : List (Addr × Obj)} (N : News h₀ L h news) (st : h.StaysIn h') : News h₀ L h' news :=
  fun q hq => ⟨st _ _ (N q hq).1, (N q hq).2⟩

/-- the state s' is s with another heap, in which the frame's names are m and the ledger is news -/
def At (h₀ : Heap) (L : Addr) (s : Shared) (news : List (Addr × Obj)) (m : Str → Option Value) (s' : Shared) : Prop :=
  ∃ h' tk, s' = { s with heap := h', toks := tk } ∧ Fr h₀ L h' m ∧ News h₀ L h' news
theorem At.of {h₀ h' : Heap} {L : Addr} {s : Shared} {news : List (Addr × Obj)} {m m' : Str → Option Value} {tk : Nat} (F : Fr h₀ L h' m) (N : News h₀ L h' news) (e : ∀ y, m y = m' y) :
    At h₀ L s news m' { s with heap := h', toks := tk } := ⟨h', tk, rfl, funext e ▸ F, N⟩

def WTurn {σ : Type} (h₀ : Heap) (L : Addr) (s : Shared) (I : σ → List (Addr × Obj) → (Str → Option Value) → Prop) (μ : σ → Nat) (c : σ) (f : Flow) (s' : Shared) : Prop :=
  f = .next ∧ ∃ c' news m, At h₀ L s news m s' ∧ I c' news m ∧ μ c' < μ c
theorem WTurn.of {σ : Type} {h₀ h' : Heap} {L : Addr} {s : Shared} {I : σ → List (Addr × Obj) → (Str → Option Value) → Prop} {μ : σ → Nat} {c : σ} {news : List (Addr × Obj)} {m : Str → Option Value} {tk : Nat} (c' : σ)
    (F : Fr h₀ L h' m) (N : News h₀ L h' news) (i : I c' news m) (hm : μ c' < μ c) : WTurn h₀ L s I μ c .next { s with heap := h', toks := tk } := ⟨rfl, c', news, m, ⟨h', tk, rfl, F, N⟩, i, hm⟩

theorem while_at {prog : Program} {E : Value → Shared → Prop} {env : Env} {h₀ : Heap} {L : Addr} {test : Expr} {body : List Stmt} {pos : Pos} {Q : Flow → Shared → Prop} {σ : Type} {m₀ : Str → Option Value} {news₀ : List (Addr × Obj)} (I : σ → List (Addr × Obj) → (Str → Option Value) → Prop) (μ : σ → Nat) (c₀ : σ)
    (F : Fr h₀ L s.heap m₀) (N : News h₀ L s.heap news₀) (i0 : I c₀ news₀ m₀)
    (turn : ∀ c news m h₁ tk₁, Fr h₀ L h₁ m → News h₀ L h₁ news → I c news m →
      wpAny (model prog w) A (isTrue test env (eval test env)) (fun b s₂ =>
        if b = true then wpAny (model prog w) A (execs body env) (WTurn h₀ L s I μ c) E s₂ else Q .next s₂) E { s with heap := h₁, toks := tk₁ })
    (hE : PassesOwn (model prog w) A env E) :
    wpAny (model prog w) A (exec (.While test body [] pos) env) Q E s := by
  refine While_inv (fun n m' news' => ∃ c, I c news' m' ∧ μ c = n) F N ⟨c₀, i0, rfl⟩ ?_ hE
  rintro n m₁ news₁ h₁ tk₁ F₁ N₁ ⟨c, hi, rfl⟩
  refine wpAny_mono (turn c news₁ m₁ h₁ tk₁ F₁ N₁ hi) (fun b s₂ h₂ => ?_) fun _ _ x => x
  cases b with
  | false => exact h₂
  | true =>
    simp only [if_true] at h₂ ⊢
    refine wpAny_mono h₂ (fun f s₃ h₃ => ?_) fun _ _ x => x
    obtain ⟨rfl, c', news', m', ⟨h', tk, rfl, F', N'⟩, hi', hm⟩ := h₃
    exact ⟨rfl, h', tk, m', news', μ c', rfl, F', N', hm, c', hi', rfl⟩
end
end Mine
end
section
open PySem PySem.W PyProof.Rows PySem.Calls PySem.Spec
namespace Mine
-- part A2
theorem getD_of_lt {ns : List Int} (k : Nat) (h : k < ns.length) : ns[k]? = some (ns.getD k 0) := by
  rw [List.getD_eq_getElem?_getD, List.getElem?_eq_getElem h]; rfl
end Mine
end
section
open PySem
namespace Mine
-- part P1
set_option maxRecDepth 10000

theorem nat_xor_low (x k : Nat) : (x ||| (x / 2 ^ k * 2 ^ k)) - (x &&& (x / 2 ^ k * 2 ^ k)) = x % 2 ^ k := by
  have e : x / 2 ^ k * 2 ^ k = (x >>> k) <<< k := by rw [Nat.shiftRight_eq_div_pow, Nat.shiftLeft_eq]
  have h1 : x ||| ((x >>> k) <<< k) = x := by
    apply Nat.eq_of_testBit_eq
    intro i
    simp only [Nat.testBit_or, Nat.testBit_shiftLeft, Nat.testBit_shiftRight]
    by_cases hi : i ≥ k
    · simp [hi]
    · simp [hi]
  have h2 : x &&& ((x >>> k) <<< k) = (x >>> k) <<< k := by
    apply Nat.eq_of_testBit_eq
    intro i
    simp only [Nat.testBit_and, Nat.testBit_shiftLeft, Nat.testBit_shiftRight]
    by_cases hi : i ≥ k
    · simp [hi]
    · simp [hi]
  rw [e, h1, h2, ← e]
  have := Nat.div_add_mod x (2 ^ k)
  rw [Nat.mul_comm] at this
  omega

theorem xor_low {x : Int} (k : Nat) (h : 0 ≤ x) : Builtin.bitXor x (x.fdiv (2 ^ k) * 2 ^ k) = x % 2 ^ k := by
  obtain ⟨m, rfl⟩ := Int.eq_ofNat_of_zero_le h
  have hp : (0 : Int) ≤ 2 ^ k := Int.le_of_lt (Int.pow_pos (by decide))
  have e : (m : Int).fdiv (2 ^ k) * 2 ^ k = ((m / 2 ^ k * 2 ^ k : Nat) : Int) := by
    rw [Int.fdiv_eq_ediv_of_nonneg _ hp]
    push_cast
    rfl
  have em : (m : Int) % 2 ^ k = ((m % 2 ^ k : Nat) : Int) := by push_cast; rfl
  rw [e, em, ← nat_xor_low m k]
  generalize hy : m / 2 ^ k * 2 ^ k = y
  have hle : m &&& y ≤ m ||| y := Nat.le_trans Nat.and_le_left Nat.left_le_or
  have a1 : Builtin.bitAnd (m : Int) (y : Int) = ((m &&& y : Nat) : Int) := by
    unfold Builtin.bitAnd
    have d1 : decide (0 ≤ (m : Int)) = true := decide_eq_true (Int.natCast_nonneg _)
    have d2 : decide (0 ≤ (y : Int)) = true := decide_eq_true (Int.natCast_nonneg _)
    rw [d1, d2]
    rfl
  have a2 : Builtin.bitOr (m : Int) (y : Int) = ((m ||| y : Nat) : Int) := by
    unfold Builtin.bitOr Builtin.bitAnd
    have d1 : decide (0 ≤ Builtin.bitNot (m : Int)) = false := decide_eq_false (by unfold Builtin.bitNot; omega)
    have d2 : decide (0 ≤ Builtin.bitNot (y : Int)) = false := decide_eq_false (by unfold Builtin.bitNot; omega)
    rw [d1, d2]
    have n1 : (Builtin.bitNot (Builtin.bitNot (m : Int))).toNat = m := by unfold Builtin.bitNot; omega
    have n2 : (Builtin.bitNot (Builtin.bitNot (y : Int))).toNat = y := by unfold Builtin.bitNot; omega
    simp only [n1, n2]
    unfold Builtin.bitNot
    omega
  unfold Builtin.bitXor
  rw [a1, a2]
  omega

theorem intBits_le {x : Int} {e : Nat} (h0 : 0 ≤ x) (h : x < 2 ^ e) : Builtin.Int.intBits x ≤ e := by
  obtain ⟨m, rfl⟩ := Int.eq_ofNat_of_zero_le h0
  unfold Builtin.Int.intBits
  split
  · exact Nat.zero_le _
  · rename_i hz
    have hm : m ≠ 0 := fun q => by subst q; simp at hz
    show (m : Int).natAbs.log2 + 1 ≤ e
    rw [Int.natAbs_natCast]
    have h' : m < 2 ^ e := by exact_mod_cast h
    have := (Nat.log2_lt hm).mpr h'
    omega

def Small (x : Int) (e : Nat) : Prop := 0 ≤ x ∧ x < 2 ^ e
/-- ns' is ns with the digits of x to the base 2^w at L .. R - 1 -/
def Put (ns : List Int) (w : Nat) (x : Int) (L R : Nat) (ns' : List Int) : Prop :=
  ns'.length = ns.length ∧ ∀ i, ns'[i]? = if L ≤ i ∧ i < R then some (x / 2 ^ (w * (i - L)) % 2 ^ w) else ns[i]?

theorem put_one {ns : List Int} {w : Nat} {x : Int} {L : Nat} (hL : L < ns.length) (hx : Small x w) : Put ns w x L (L + 1) (ns.set L x) := by
  refine ⟨List.length_set .., fun i => ?_⟩
  rw [List.getElem?_set]
  by_cases hi : L = i
  · subst hi
    rw [if_pos rfl, if_pos hL, if_pos ⟨Nat.le_refl _, Nat.lt_succ_self _⟩]
    simp only [Nat.sub_self, Nat.mul_zero, Int.pow_zero, Int.ediv_one]
    rw [Int.emod_eq_of_lt hx.1 hx.2]
  · rw [if_neg hi, if_neg (by omega)]

theorem mod_div_mod {x : Int} {a b c : Nat} (h0 : 0 ≤ x) (h : b + c ≤ a) : (x % 2 ^ a) / 2 ^ b % 2 ^ c = x / 2 ^ b % 2 ^ c := by
  obtain ⟨m, rfl⟩ := Int.eq_ofNat_of_zero_le h0
  have : m % 2 ^ a / 2 ^ b % 2 ^ c = m / 2 ^ b % 2 ^ c := by
    obtain ⟨d, rfl⟩ := Nat.exists_eq_add_of_le h
    rw [show 2 ^ (b + c + d) = 2 ^ b * 2 ^ (c + d) by rw [Nat.add_assoc, Nat.pow_add], Nat.mod_mul_right_div_self]
    exact Nat.mod_mod_of_dvd _ (Nat.pow_dvd_pow 2 (Nat.le_add_right _ _))
  have e := congrArg (Nat.cast : Nat → Int) this
  push_cast at e
  exact e

theorem div_div {x : Int} {a b : Nat} : x / 2 ^ a / 2 ^ b = x / 2 ^ (a + b) := by
  rw [Int.pow_add]
  exact Int.ediv_ediv_of_nonneg (Int.le_of_lt (Int.pow_pos (by decide)))

theorem small_low {x : Int} (k : Nat) : Small (x % 2 ^ k) k :=
  have hp : (0 : Int) < 2 ^ k := Int.pow_pos (by decide)
  ⟨Int.emod_nonneg _ (Int.ne_of_gt hp), Int.emod_lt_of_pos _ hp⟩
theorem small_high {x : Int} {k e : Nat} (h : Small x (k + e)) : Small (x / 2 ^ k) e := by
  have hp : (0 : Int) < 2 ^ k := Int.pow_pos (by decide)
  refine ⟨Int.ediv_nonneg h.1 (Int.le_of_lt hp), ?_⟩
  rw [Int.ediv_lt_iff_lt_mul hp, ← Int.pow_add, Nat.add_comm]
  exact h.2

theorem put_join {ns ns1 ns2 : List Int} {w L M R : Nat} {x : Int} (h0 : 0 ≤ x) (hLM : L ≤ M) (hMR : M ≤ R) (h1 : Put ns w (x % 2 ^ (w * (M - L))) L M ns1) (h2 : Put ns1 w (x / 2 ^ (w * (M - L))) M R ns2) : Put ns w x L R ns2 := by
  refine ⟨h2.1.trans h1.1, fun i => ?_⟩
  rw [h2.2 i]
  by_cases hM : M ≤ i ∧ i < R
  · rw [if_pos hM, if_pos ⟨by omega, hM.2⟩, div_div, ← Nat.mul_add, show M - L + (i - M) = i - L by omega]
  · rw [if_neg hM, h1.2 i]
    by_cases hL : L ≤ i ∧ i < M
    · rw [if_pos hL, if_pos ⟨hL.1, by omega⟩]
      rw [mod_div_mod h0]
      rw [show w * (i - L) + w = w * (i - L + 1) from rfl]
      exact Nat.mul_le_mul_left _ (by omega)
    · rw [if_neg hL, if_neg (by omega)]

/-- how many digits to the base 2^w -/
def ndig (x : Int) (w : Nat) : Nat := (Builtin.Int.intBits x + w - 1) / w
def digitsOf (x : Int) (w : Nat) : List Int := (List.range (ndig x w)).map fun i => x / 2 ^ (w * i) % 2 ^ w

theorem lt_intBits {x : Int} (h0 : 0 ≤ x) : x < 2 ^ Builtin.Int.intBits x := by
  obtain ⟨m, rfl⟩ := Int.eq_ofNat_of_zero_le h0
  unfold Builtin.Int.intBits
  split
  · rename_i hz
    have : (m : Int) = 0 := eq_of_beq hz
    omega
  · show (m : Int) < 2 ^ ((m : Int).natAbs.log2 + 1)
    rw [Int.natAbs_natCast]
    have := @Nat.lt_log2_self m
    exact_mod_cast this

theorem ndig_ge {x : Int} {w : Nat} (hw : 1 ≤ w) : Builtin.Int.intBits x ≤ w * ndig x w := by
  unfold ndig
  have h := Nat.div_add_mod (Builtin.Int.intBits x + w - 1) w
  have h2 := Nat.mod_lt (Builtin.Int.intBits x + w - 1) (show w > 0 by omega)
  omega

theorem small_ndig {x : Int} {w : Nat} (h0 : 0 ≤ x) (hw : 1 ≤ w) : Small x (w * ndig x w) :=
  ⟨h0, Int.lt_of_lt_of_le (lt_intBits h0) (by
    have := Nat.pow_le_pow_right (show 2 > 0 by decide) (ndig_ge (x := x) hw)
    exact_mod_cast this)⟩

theorem ndig_zero {w : Nat} (hw : 1 ≤ w) : ndig 0 w = 0 := by
  unfold ndig
  show (0 + w - 1) / w = 0
  exact Nat.div_eq_of_lt (by omega)
theorem ndig_pos {x : Int} {w : Nat} (h0 : 0 ≤ x) (hx : x ≠ 0) (hw : 1 ≤ w) : 0 < ndig x w := by
  refine Nat.pos_of_ne_zero fun q => ?_
  have := small_ndig h0 hw
  rw [q, Nat.mul_zero] at this
  have h1 : x < 1 := this.2
  omega

theorem put_all {ns ns' : List Int} {w : Nat} {x : Int} (hl : ns.length = ndig x w) (h : Put ns w x 0 (ndig x w) ns') : ns' = digitsOf x w := by
  apply List.ext_getElem?
  intro i
  rw [h.2 i]
  unfold digitsOf
  rw [List.getElem?_map]
  by_cases hi : i < ndig x w
  · rw [if_pos ⟨Nat.zero_le _, hi⟩, List.getElem?_range hi, Nat.sub_zero]
    rfl
  · rw [if_neg (by omega), List.getElem?_eq_none (by omega), List.getElem?_eq_none (by rw [List.length_range]; omega)]
    rfl

def evalDig (w : Nat) : List Int → Int
  | [] => 0
  | d :: r => d + 2 ^ w * evalDig w r
theorem evalDig_append (w : Nat) : ∀ (a b : List Int), evalDig w (a ++ b) = evalDig w a + 2 ^ (w * a.length) * evalDig w b
  | [], b => by simp [evalDig]
  | d :: a, b => by
    have e : w * (a.length + 1) = w + w * a.length := by rw [Nat.mul_add, Nat.mul_one, Nat.add_comm]
    rw [List.cons_append, evalDig, evalDig, evalDig_append w a b, List.length_cons, e, Int.pow_add, Int.mul_add, Int.mul_assoc, Int.add_assoc]
theorem evalDig_small (w : Nat) : ∀ (a : List Int), (∀ d ∈ a, Small d w) → Small (evalDig w a) (w * a.length)
  | [], _ => ⟨Int.le_refl _, by simp [evalDig]⟩
  | d :: a, h => by
    have ih := evalDig_small w a fun x hx => h x (.tail _ hx)
    have hd := h d (.head _)
    have hp : (0 : Int) < 2 ^ w := Int.pow_pos (by decide)
    have e : w * (a.length + 1) = w + w * a.length := by rw [Nat.mul_add, Nat.mul_one, Nat.add_comm]
    refine ⟨Int.add_nonneg hd.1 (Int.mul_nonneg (Int.le_of_lt hp) ih.1), ?_⟩
    rw [evalDig, List.length_cons, e, Int.pow_add]
    have h1 : 2 ^ w * (evalDig w a + 1) ≤ 2 ^ w * (2 : Int) ^ (w * a.length) := Int.mul_le_mul_of_nonneg_left ih.2 (Int.le_of_lt hp)
    have h2 := hd.2
    rw [Int.mul_add, Int.mul_one] at h1
    omega
/-- the digits from L to R - 1 -/
def part (ns : List Int) (L R : Nat) : List Int := (ns.drop L).take (R - L)
theorem part_one {ns : List Int} {L : Nat} (h : L < ns.length) : part ns L (L + 1) = [ns.getD L 0] := by
  unfold part
  rw [List.drop_eq_getElem_cons h, show L + 1 - L = 1 by omega, List.take_succ_cons, List.take_zero, List.getD_eq_getElem?_getD, List.getElem?_eq_getElem h]
  rfl
theorem part_join {ns : List Int} {L M R : Nat} (h1 : L ≤ M) (h2 : M ≤ R) : part ns L R = part ns L M ++ part ns M R := by
  unfold part
  rw [show R - L = (M - L) + (R - M) by omega, List.take_add, List.drop_drop, show L + (M - L) = M by omega]
theorem part_length {ns : List Int} {L R : Nat} (h2 : R ≤ ns.length) : (part ns L R).length = R - L := by
  unfold part
  rw [List.length_take, List.length_drop]
  omega
theorem part_mem {ns : List Int} {L R : Nat} {d : Int} (h : d ∈ part ns L R) : d ∈ ns := List.mem_of_mem_drop (List.mem_of_mem_take h)
theorem part_all {ns : List Int} : part ns 0 ns.length = ns := by simp [part]
theorem half_in {l r mid : Int} (hm : mid = (l + r) / 2) (h : l < r) (hne : ¬ l + 1 = r) : l < mid ∧ mid < r := by omega
theorem toNat_sub' {a c : Nat} : ((c : Int) - a).toNat = c - a := by omega
theorem half_k1 {a c d k : Nat} (h : c < d) (hk : d - a ≤ k + 1) : c - a ≤ k := by omega
theorem half_k2 {a c d k : Nat} (h : a < c) (hk : d - a ≤ k + 1) : d - c ≤ k := by omega
theorem half_add {a c d : Nat} (h1 : a < c) (h2 : c < d) : d - a = c - a + (d - c) := by
  rw [Nat.add_comm, Nat.sub_add_sub_cancel (Nat.le_of_lt h2) (Nat.le_of_lt h1)]
theorem shift_room {B a t : Nat} {sh : Int} (h0 : 0 ≤ sh) (hB : B ≤ a) (h : t = sh.toNat + a) (ht : t ≤ 2000 * 1000) : (B : Int) + sh ≤ 2 ^ 27 := by
  obtain ⟨n, rfl⟩ := Int.eq_ofNat_of_zero_le h0
  rw [Int.toNat_natCast] at h
  have h2 : B + n ≤ 2 ^ 27 := Nat.le_trans (by rw [Nat.add_comm]; exact Nat.add_le_add_left hB n) (h ▸ Nat.le_trans ht (by decide))
  exact Int.ofNat_le.mpr h2
/-- what the halves of a writing need -/
theorem inner_ints {l r nn mid sh : Int} {k n : Nat} (h0 : 0 ≤ l) (hlr : l < r) (hne : ¬ l + 1 = r) (hr : r ≤ n) (hk : (r - l).toNat ≤ k + 1) (hlen : n < 1000) (hn1 : 1 ≤ nn) (hn2 : nn < 2000) (hmid : (l + r).fdiv (2 ^ Int.toNat 1) = mid) (hsh : (mid - l) * nn = sh) :
    0 ≤ mid ∧ l < mid ∧ mid < r ∧ mid ≤ n ∧ (mid - l).toNat ≤ k ∧ (r - mid).toNat ≤ k ∧ 0 ≤ sh ∧ sh.toNat = nn.toNat * (mid - l).toNat ∧ nn.toNat * (r - l).toNat = sh.toNat + nn.toNat * (r - mid).toNat ∧ nn.toNat * (r - l).toNat ≤ 2000 * 1000 ∧ l.toNat ≤ mid.toNat ∧ mid.toNat ≤ r.toNat ∧ (mid - l).toNat = mid.toNat - l.toNat ∧ (r - mid).toNat = r.toNat - mid.toNat ∧ r.toNat ≤ n := by
  have hm2 : mid = (l + r) / 2 := by rw [← hmid]; exact Int.fdiv_eq_ediv_of_nonneg _ (by decide)
  obtain ⟨m1, m2⟩ := half_in hm2 hlr hne
  clear hm2 hmid hne hlr
  obtain ⟨a, rfl⟩ := Int.eq_ofNat_of_zero_le h0
  obtain ⟨c, rfl⟩ := Int.eq_ofNat_of_zero_le (Int.le_of_lt (Int.lt_of_le_of_lt h0 m1))
  obtain ⟨d, rfl⟩ := Int.eq_ofNat_of_zero_le (Int.le_of_lt (Int.lt_of_le_of_lt (Int.natCast_nonneg c) m2))
  obtain ⟨q, rfl⟩ := Int.eq_ofNat_of_zero_le (Int.le_trans (by decide) hn1)
  have a1 : a < c := Int.ofNat_lt.mp m1
  have a2 : c < d := Int.ofNat_lt.mp m2
  have a3 : d ≤ n := Int.ofNat_le.mp hr
  have a4 : q < 2000 := Int.ofNat_lt.mp hn2
  have hsh' : sh = ((q * (c - a) : Nat) : Int) := by
    rw [← hsh, Int.natCast_mul, Int.ofNat_sub (Nat.le_of_lt a1), Int.mul_comm]
  subst hsh'
  rw [toNat_sub'] at hk
  rw [toNat_sub', toNat_sub', toNat_sub', Int.toNat_natCast, Int.toNat_natCast, Int.toNat_natCast, Int.toNat_natCast, Int.toNat_natCast]
  exact ⟨Int.natCast_nonneg _, m1, m2, Int.le_trans (Int.le_of_lt m2) hr, half_k1 a2 hk, half_k2 a1 hk, Int.natCast_nonneg _, rfl, by rw [← Nat.mul_add, ← half_add a1 a2], Nat.mul_le_mul (Nat.le_of_lt a4) (Nat.le_trans (Nat.sub_le _ _) (Nat.le_trans a3 (Nat.le_of_lt hlen))), Nat.le_of_lt a1, Nat.le_of_lt a2, rfl, rfl, a3⟩
theorem inner_one {l r : Int} {n : Nat} (h0 : 0 ≤ l) (h : l + 1 = r) (hr : r ≤ n) : r.toNat = l.toNat + 1 ∧ (r - l).toNat = 1 ∧ l.toNat < n := by
  obtain ⟨a, rfl⟩ := Int.eq_ofNat_of_zero_le h0
  subst h
  refine ⟨rfl, ?_, Int.ofNat_lt.mp hr⟩
  rw [Int.add_comm, Int.add_sub_cancel]
  rfl
end Mine
end
section
namespace Mine
-- part P2
set_option maxRecDepth 10000
/-- the ladder's numbers, n of them -/
def fibs : Nat → Int → Int → List Int
  | 0, _, _ => []
  | n + 1, a, b => a :: fibs n b (a + b)
def FL : List Int := fibs 48 1 2
theorem FL_len : FL.length = 48 := by decide +kernel
theorem FL_sorted : FL.Pairwise (· < ·) := by decide +kernel
theorem FL_small : ∀ x ∈ FL, Small x 64 := by
  have h : FL.all (fun x => decide (0 ≤ x ∧ x < 2 ^ 64)) = true := by decide +kernel
  intro x hx
  have := of_decide_eq_true (List.all_eq_true.mp h x hx)
  exact this
theorem FL_pos : ∀ x ∈ FL, 1 ≤ x := by
  have h : FL.all (fun x => decide (1 ≤ x)) = true := by decide +kernel
  intro x hx
  exact of_decide_eq_true (List.all_eq_true.mp h x hx)

/-- how many of l lie at or below n, from the front -/
def cntOf (l : List Int) (n : Int) : Nat := (l.takeWhile (· ≤ n)).length
theorem cntOf_le (l : List Int) (n : Int) : cntOf l n ≤ l.length := (List.takeWhile_sublist _).length_le
theorem cntOf_low : ∀ (l : List Int) (n : Int) (i : Nat), i < cntOf l n → ∀ y, l[i]? = some y → y ≤ n
  | [], n, i, h, y, e => by simp at e
  | a :: l, n, i, h, y, e => by
    unfold cntOf at h
    rw [List.takeWhile_cons] at h
    by_cases ha : a ≤ n
    · simp only [decide_eq_true ha, if_true, List.length_cons] at h
      cases i with
      | zero => cases e; exact ha
      | succ i => exact cntOf_low l n i (by unfold cntOf; omega) y e
    · simp [ha] at h
theorem cntOf_high : ∀ (l : List Int) (n : Int), l.Pairwise (· < ·) → ∀ i : Nat, cntOf l n ≤ i → ∀ y, l[i]? = some y → n < y
  | [], n, _, i, h, y, e => by simp at e
  | a :: l, n, hs, i, h, y, e => by
    unfold cntOf at h
    rw [List.takeWhile_cons] at h
    have hs' := List.pairwise_cons.mp hs
    by_cases ha : a ≤ n
    · simp only [decide_eq_true ha, if_true, List.length_cons] at h
      cases i with
      | zero => omega
      | succ i => exact cntOf_high l n hs'.2 i (by unfold cntOf; omega) y e
    · cases i with
      | zero => cases e; omega
      | succ i =>
        have := hs'.1 y (List.mem_of_getElem? e)
        omega
theorem cntOf_mono (l : List Int) {m n : Int} (h : m ≤ n) : cntOf l m ≤ cntOf l n := by
  induction l with
  | nil => exact Nat.le_refl _
  | cons a l ih =>
    unfold cntOf at *
    rw [List.takeWhile_cons, List.takeWhile_cons]
    by_cases ha : a ≤ m
    · have hb : a ≤ n := Int.le_trans ha h
      simp only [decide_eq_true ha, decide_eq_true hb, if_true, List.length_cons]
      omega
    · simp [ha]
def cnt (n : Int) : Nat := cntOf FL n
theorem cnt_le (n : Int) : cnt n ≤ 48 := FL_len ▸ cntOf_le FL n
theorem cnt_low {n : Int} {i : Nat} (h : i < cnt n) {y : Int} (e : FL[i]? = some y) : y ≤ n := cntOf_low FL n i h y e
theorem cnt_high {n : Int} {i : Nat} (h : cnt n ≤ i) {y : Int} (e : FL[i]? = some y) : n < y := cntOf_high FL n FL_sorted i h y e
theorem cnt_pos {n : Int} (h : 1 ≤ n) : 0 < cnt n := by
  have : cnt 1 ≤ cnt n := cntOf_mono FL h
  have h1 : cnt 1 = 1 := by decide +kernel
  omega

/-- from the number c and the marks ms the greedy loop ends in r -/
inductive Grd : Int → List Int → List Int → Prop
  | done {ms : List Int} : Grd 0 ms ms
  | step {c : Int} {ms r : List Int} : 0 < c → Grd (c - FL.getD (cnt c - 1) 0) (ms.set (cnt c - 1) 1) r → Grd c ms r
end Mine
end
section
open PySem PySem.W PyProof.Rows PySem.Calls PySem.Spec
open AutoSeq1 (wpAny_loadPart')
namespace Mine
-- part R1
set_option maxRecDepth 100000
section
variable {prog : Program} {w : World} {A : Around} {E : Value → Shared → Prop} {s : Shared}
theorem getItem_range {r : Addr} {n : Nat} {k : Int} {a t u v : Tok} {Q : Value → Shared → Prop} (hr : IsRange s.heap r 0 n 1 t u v) (h0 : 0 ≤ k) (h1 : k < n)
    (h : ∀ tk, Q (.int k tk) { s with toks := tk + 1 }) : wpAny (model prog w) A (getItem (.ref r) (.int k a)) Q E s := by
  have hT : s.TypeIs (.ref r) "range" := ⟨_, hr, rfl⟩
  have hrs : Builtin.Range.rangeSize 0 (n : Int) 1 = n := by rw [rangeSize_one]; split <;> omega
  unfold getItem
  try with_reducible refine wpAny_holding ?_
  first | refine wpAny_bind (wpAny_pure ?_) | skip
  refine wpAny_bind (wpAny_sequenceKey hT (by decide) ?_)
  refine wpAny_bind (wpAny_callSpecial?_slot (name := Str.ofString "__getitem__") hT F.slot_range_getitem
    (wpAny_call_entry F.slot_range_getitem hT F.entry_range_getitem ?_ (F.args_range_getitem_2 _ _)))
  obtain ⟨hp, g, d, tk, os⟩ := s
  wp_walk using wpAny_loadPart' hr
  rw [F.slot_int_index.lookup]
  wp_walk
  rw [hrs]
  have hk : (if k < 0 then k + (n : Int) else k) = k := by rw [if_neg (by omega)]
  rw [hk]
  have hk2 : (0 + k * 1 : Int) = k := by omega
  rw [hk2]
  have hc : ¬ (decide (k < 0) || decide (k ≥ (n : Int))) = true := by
    simp only [Bool.or_eq_true, decide_eq_true_eq]
    omega
  rw [if_neg hc]
  wp_walk
  exact ⟨_, rfl, wpAny_pure (h tk)⟩
theorem item_range {value slice : PySem.Expr} {r : Addr} {n : Nat} {k : Int} {a t u v : Tok} {Q : Value → Shared → Prop} (hr : IsRange s.heap r 0 n 1 t u v) (h0 : 0 ≤ k) (h1 : k < n)
    (h : ∀ tk, Q (.int k tk) { s with toks := tk + 1 })
    (hs : subscripted slice false (.ref r) (.int k a) = operate [.ref r, .int k a] (getItem (.ref r) (.int k a)) := by with_unfolding_all rfl) :
    wpAny (model prog w) A (subscriptTail value slice (.ref r) (.int k a)) Q E s :=
  tail_any ⟨_, hr, rfl⟩ F.slot_range_getitem.lookup (getItem_range hr h0 h1 h) hs
end
end Mine
end
section
open PySem PySem.W PyProof.Rows PySem.Calls PySem.Spec PyProof.Rows.LCg
namespace Mine
-- part R2
set_option maxRecDepth 100000
set_option linter.unusedVariables false
section
variable {prog : Program} {w : World} {A : Around} {E : Value → Shared → Prop} {s : Shared} {h₀ : Heap} {L : Addr} {m : Str → Option Value} {env : Env}

/-- what stands at the places of a list -/
def standing (h : Heap) (fp : List Addr) : List (Addr × Obj) := fp.filterMap fun b => (h.get? b).map fun o => (b, o)
theorem standing_mem {h : Heap} {fp : List Addr} {q : Addr × Obj} : q ∈ standing h fp ↔ q.1 ∈ fp ∧ h.get? q.1 = some q.2 := by
  unfold standing
  rw [List.mem_filterMap]
  constructor
  · rintro ⟨b, hb, e⟩
    cases g : h.get? b with
    | none => rw [g] at e; cases e
    | some o => rw [g] at e; cases e; exact ⟨hb, g⟩
  · rintro ⟨hb, g⟩
    exact ⟨q.1, hb, by rw [g]; rfl⟩

/-- one turn of a list made over pairs, the element an int or any value of which G speaks -/
def PairTurn (prog : Program) (w : World) (A : Around) (h₀ : Heap) (L : Addr) (m : Str → Option Value) (env : Env) (elt : Expr) (a b : Str) (scope : Scope) (cl : List (Str × Addr)) (s : Shared) (news : List (Addr × Obj)) (n : Nat) (PP : Nat → Value → Value → Prop) (G : Nat → Value → Prop) : Prop :=
  ∀ i x y C oC m₂ own h tk (E' : Value → Shared → Prop), i < n → PP i x y → NsObj oC m₂ → m₂ a = some x → m₂ b = some y → Fr h₀ L h m → News h₀ L h ((C, oC) :: (news ++ own)) →
    wpAny (model prog w) A (eval elt (compEnvC scope cl C env)) (fun v s' => ∃ h' tk', s' = { s with heap := h', toks := tk' } ∧ Fr h₀ L h' m ∧ News h₀ L h' ((C, oC) :: (news ++ own)) ∧ G i v) E' { s with heap := h, toks := tk }

theorem block_T {elt iter : Expr} {a b : Str} {pa pb tp : Pos} {kk : Nat} {scope : Scope} {cl : List (Str × Addr)} {pos : Pos} {s₂ : Shared} {I : Addr} {fp wr : List Addr} {n : Nat} {P Md : Nat → Value → Heap → Prop} {St : Nat → Heap → Prop} {news : List (Addr × Obj)} {PP : Nat → Value → Value → Prop} {G : Nat → Value → Prop} {RR : Value → Addr → Result → Shared → Prop}
    (W : KTurns prog w A (.Tuple [.Name a pa, .Name b pb] kk tp) I fp wr n P Md St)
    (hP : ∀ i v h, P i v h → ∃ T x y, v = .ref T ∧ h.IsTuple T #[x, y] ∧ PP i x y)
    (hsz : n ≤ sizeLine) (self : ∀ (Q : Value → Shared → Prop) (s' : Shared), St 0 s'.heap → Q (.ref I) s' → wpAny (model prog w) A (pyIter (.ref I)) Q (fun _ _ => False) s')
    (hh : A.handled = none) (hcell : ∀ y ∈ scope.names, y.2 ≠ .cell) (hkind : scope.kind = .function) (hxa : scope.names.lookup a = some .local) (hxb : scope.names.lookup b = some .local) (hab : ¬ a = b)
    (hst : St 0 s₂.heap) (hfp : ∀ b ∈ fp, b < s₂.heap.objs.size) (hfn : ∀ b ∈ fp, b ≠ L ∧ h₀.get? b = none)
    (F : Fr h₀ L s₂.heap m) (N : News h₀ L s₂.heap news) (hnw : ∀ p ∈ news, p.1 ∉ wr)
    (turn : PairTurn prog w A h₀ L m env elt a b scope cl s₂ news n PP G)
    (hRR : ∀ D C h tk m' ys, Fr h₀ L h m → News h₀ L h ((D, lst ys) :: news) → h.Ns C m' → h₀.get? C = none → h₀.get? D = none → C ≠ L → D ≠ L → C ≠ D → (∀ p ∈ news, p.1 ≠ C) → (∀ p ∈ news, p.1 ≠ D) → ys.length = n → (∀ i v, ys[i]? = some v → G i v) → RR (.ref D) C (.ok .next) { s₂ with heap := h, toks := tk }) :
    wpAny (model prog w) A (newList []) (fun acc s₃ => wpAny (model prog w) A (newFunctionEnv scope env.globals cl [] env.qual none .none (some env)) (fun cenv s₄ =>
      codeAny (model prog w) A (.compStart (.ListComp elt [⟨.Tuple [.Name a pa, .Name b pb] kk tp, iter, [], 0⟩] scope pos) 0 (.ref I) acc { cenv with scope := relabel scope env }) (RR acc cenv.locals) s₄) E s₃) E s₂ := by
  refine wpAny_newObj_type (wpAny_newFunctionEnv hcell (by intro y hy; simp at hy) (fun h₁ hns₁ hsb₁ => ?_) hkind)
  dsimp only at hns₁ hsb₁ ⊢
  generalize hH2 : s₂.heap.push { cls := .type "list", dict := none, data := .seq ([] : List Value).toArray } = H2 at hns₁ hsb₁ ⊢
  have hC : H2.objs.size = s₂.heap.objs.size + 1 := by rw [← hH2, Heap.size_push]
  have hDC : s₂.heap.objs.size ≠ H2.objs.size := by rw [hC]; exact Nat.ne_of_lt (Nat.lt_succ_self _)
  have below : ∀ b, b < s₂.heap.objs.size → b ≠ H2.objs.size ∧ b ≠ s₂.heap.objs.size := fun b hb => ⟨by rw [hC]; exact Nat.ne_of_lt (Nat.lt_succ_of_lt hb), Nat.ne_of_lt hb⟩
  have old : ∀ b o, s₂.heap.get? b = some o → h₁.get? b = some o := fun b o e => hsb₁.extBut b o (below b (Heap.lt_size e)).1 (Heap.get?_push_of_some _ (hH2 ▸ Heap.get?_push_of_some _ e))
  have hacc : h₁.get? s₂.heap.objs.size = some (lst []) := hsb₁.extBut _ _ hDC (Heap.get?_push_of_some _ (hH2 ▸ Heap.get?_push_size _ rfl))
  have hst₁ : St 0 h₁ := W.frame _ _ _ hst fun b _ o e => old b o e
  have fresh : ∀ a, s₂.heap.objs.size ≤ a → s₂.heap.get? a = none := fun a ha => by
    cases e : s₂.heap.get? a with
    | none => rfl
    | some o' => exact absurd (Heap.lt_size e) (Nat.not_lt.mpr ha)
  have fresh₀ : ∀ a, s₂.heap.objs.size ≤ a → h₀.get? a = none := fun a ha => by
    cases e : h₀.get? a with
    | none => rfl
    | some o' => have := F.keep a o' e; rw [fresh a ha] at this; cases this
  have hD₀ : h₀.get? s₂.heap.objs.size = none := fresh₀ _ (Nat.le_refl _)
  have hC₀ : h₀.get? H2.objs.size = none := fresh₀ _ (by rw [hC]; exact Nat.le_succ _)
  have hLlt : L < s₂.heap.objs.size := F.ns.lt
  have hDL : s₂.heap.objs.size ≠ L := Ne.symm (below L hLlt).2
  have hCL : H2.objs.size ≠ L := Ne.symm (below L hLlt).1
  have hCf : H2.objs.size ∉ fp := fun hm => (below _ (hfp _ hm)).1 rfl
  have hDf : s₂.heap.objs.size ∉ fp := fun hm => (below _ (hfp _ hm)).2 rfl
  have hw0 : ∀ b o, h₀.get? b = some o → b ∉ wr := fun b o e hb => by rw [(hfn b (W.sub b hb)).2] at e; cases e
  have hLw : L ∉ wr := fun hb => (hfn L (W.sub L hb)).1 rfl
  have hCw : H2.objs.size ∉ wr := fun hb => hCf (W.sub _ hb)
  have hDw : s₂.heap.objs.size ∉ wr := fun hb => hDf (W.sub _ hb)
  have nC : ∀ p ∈ news, p.1 ≠ H2.objs.size := fun p hp => (below _ (Heap.lt_size (N p hp).1)).1
  have nD : ∀ p ∈ news, p.1 ≠ s₂.heap.objs.size := fun p hp => (below _ (Heap.lt_size (N p hp).1)).2
  have loop : ∀ s₃ : Shared, s₃ = { s₂ with heap := h₁, toks := s₂.toks + ([] : List (Str × Value)).length } →
      codeAny (model prog w) A (.compLoop (.ListComp elt [⟨.Tuple [.Name a pa, .Name b pb] kk tp, iter, [], 0⟩] scope pos) 0 (.ref I) (.ref s₂.heap.objs.size) (compEnvC scope cl H2.objs.size env))
        (RR (.ref s₂.heap.objs.size) H2.objs.size) s₃ := by
    rintro s₃ rfl
    refine kcp_loop
      (fun k s' => ∃ h' tk i ys m', s' = { s₂ with heap := h', toks := tk } ∧ i ≤ n ∧ k = n + 1 - i ∧ ys.length = i ∧ St i h' ∧ Fr h₀ L h' m ∧ h'.Ns H2.objs.size m' ∧
        News h₀ L h' ((s₂.heap.objs.size, lst ys) :: news) ∧ (∀ j v, ys[j]? = some v → G j v)) ?_ (n + 1)
      ⟨h₁, _, 0, [], _, rfl, Nat.zero_le _, rfl, rfl, hst₁, F.keeps old, hns₁, fun p hp => ?_, fun j v e => by simp at e⟩
    · rintro k s' ⟨h', tk, i, ys, m', rfl, hi, rfl, hyl, hst', F', hn', N', hG⟩
      by_cases hlt : i < n
      · refine W.item i _ _ _ hlt hst' fun v h₂ tk₂ hMd hk₂ => ?_
        refine W.go i v _ _ _ hMd fun h₃ hP' hst₃ hk₃ => ?_
        obtain ⟨T, x, y, rfl, hT, hPP⟩ := hP _ _ _ hP'
        have up₃ : ∀ c o, c ∉ wr → h'.get? c = some o → h₃.get? c = some o := fun c o hc e => hk₃ c o hc (hk₂ c o hc e)
        refine kcp_assign (env := compEnvC scope cl H2.objs.size env) hh hT (lookup_relabel_local hxa) (lookup_relabel_local hxb) (by simp [compEnvC, relabel, hkind]) (hn'.at' fun o e => up₃ _ o hCw e) fun h₄ tk₄ hn₄ hs₄ => ?_
        have up : ∀ c o, c ∉ wr → c ≠ H2.objs.size → h'.get? c = some o → h₄.get? c = some o := fun c o h1 h2 e => hs₄ c o h2 (up₃ c o h1 e)
        have hst₄ : St (i + 1) h₄ := W.frame _ _ _ hst₃ fun b hb o e => hs₄ b o (fun q => hCf (by have q' : b = H2.objs.size := q; rw [← q']; exact hb)) e
        obtain ⟨oC, heC, hoC⟩ := ns_obj hn₄
        have F₄ : Fr h₀ L h₄ m := ⟨F'.ns.at' fun o e => up _ o hLw (Ne.symm hCL) e, fun c o e => up c o (hw0 c o e) (fun q => by rw [q, hC₀] at e; cases e) (F'.keep c o e), F'.above⟩
        have N₄ : News h₀ L h₄ ((H2.objs.size, oC) :: (news ++ ((s₂.heap.objs.size, lst ys) :: standing h₄ fp))) := fun q hq => by
          rcases List.mem_cons.mp hq with rfl | hq
          · exact ⟨heC, hCL, hC₀⟩
          rcases List.mem_append.mp hq with hq | hq
          · have z := N' q (List.mem_cons_of_mem _ hq)
            exact ⟨up _ _ (hnw q hq) (nC q hq) z.1, z.2⟩
          rcases List.mem_cons.mp hq with rfl | hq
          · have z := N' _ List.mem_cons_self
            exact ⟨up _ _ hDw hDC z.1, z.2⟩
          · have z := standing_mem.mp hq
            exact ⟨z.2, hfn _ z.1⟩
        refine wpAny_mono (turn i x y _ oC _ _ h₄ _ _ hlt hPP hoC (by simp [hab]) (by simp) F₄ N₄) (fun y s₅ h₅ => ?_) fun _ _ e => e
        obtain ⟨h₅, tk₅, rfl, F₅, N₅, hGy⟩ := h₅
        have zC := (N₅ (H2.objs.size, oC) List.mem_cons_self).1
        have zD := (N₅ (s₂.heap.objs.size, lst ys) (List.mem_cons_of_mem _ (List.mem_append_right _ List.mem_cons_self))).1
        have hst₅ : St (i + 1) h₅ := W.frame _ _ _ hst₄ fun b hb o e => (N₅ (b, o) (List.mem_cons_of_mem _ (List.mem_append_right _ (List.mem_cons_of_mem _ (standing_mem.mpr ⟨hb, e⟩))))).1
        refine append_at (hsz := by show ys.toArray.size ≤ sizeLine; rw [List.size_toArray, hyl]; exact Nat.le_trans hi hsz) zD fun h₆ hs₆ hD₆ => ?_
        refine ⟨n + 1 - (i + 1), by omega, h₆, tk₅, i + 1, ys ++ [y], _, rfl, hlt, rfl, by rw [List.length_append, List.length_singleton, hyl], W.frame _ _ _ hst₅ fun b hb o e => hs₆.extBut b o (fun q => hDf (q ▸ hb)) e, F₅.change hs₆ hDL hD₀,
          (hoC.ns zC).sameBut hs₆ (Ne.symm hDC), fun q hq => ?_, fun j v e => ?_⟩
        · rcases List.mem_cons.mp hq with rfl | hq
          · exact ⟨hD₆.trans (congrArg some (lst_snoc ys y)), hDL, hD₀⟩
          · have z := N₅ q (List.mem_cons_of_mem _ (List.mem_append_left _ hq))
            exact ⟨hs₆.extBut _ _ (nD q hq) z.1, z.2⟩
        · by_cases hj : j < ys.length
          · rw [List.getElem?_append_left hj] at e
            exact hG j v e
          · rw [List.getElem?_append_right (Nat.not_lt.mp hj)] at e
            have hz : j - ys.length = 0 := by
              have hlt1 := (List.getElem?_eq_some_iff.mp e).1
              simp at hlt1
              omega
            rw [hz] at e
            simp at e
            subst e
            have : j = i := by omega
            subst this
            exact hGy
      · have hin : i = n := Nat.le_antisymm hi (Nat.not_lt.mp hlt)
        subst hin
        refine W.done _ _ _ hst' fun h₂ tk₂ hk₂ => ?_
        refine hRR _ _ h₂ tk₂ _ ys ⟨F'.ns.at' fun o e => hk₂ _ o hLw e, fun c o e => hk₂ c o (hw0 c o e) (F'.keep c o e), F'.above⟩ (fun p hp => ?_) (hn'.at' fun o e => hk₂ _ o hCw e) hC₀ hD₀ hCL hDL (Ne.symm hDC) nC nD hyl hG
        refine ⟨hk₂ _ _ ?_ (N' p hp).1, (N' p hp).2⟩
        rcases List.mem_cons.mp hp with rfl | hp
        · exact hDw
        · exact hnw p hp
    · rcases List.mem_cons.mp hp with rfl | hp
      · exact ⟨hacc, hDL, hD₀⟩
      · exact ⟨old _ _ (N p hp).1, (N p hp).2⟩
  exact codeAny_compStart_list (loop _ rfl) (wpAny_mono (self _ _ hst₁ (loop _ rfl)) (fun _ _ h => h) fun _ _ h => h.elim)

/-- the source of such a list: a heap of some objects of its own, walked by turns -/
def PairsAt (prog : Program) (w : World) (A : Around) (h₀ : Heap) (L : Addr) (m : Str → Option Value) (env : Env) (elt : Expr) (a b : Str) (pa pb tp : Pos) (kk : Nat) (scope : Scope) (cl : List (Str × Addr)) (Fin : Shared → Addr → List Value → List (Addr × Obj) → Prop) (it : Value) (s₂ : Shared) : Prop :=
  ∃ I fp wr n P Md St news PP G, it = .ref I ∧ KTurns prog w A (.Tuple [.Name a pa, .Name b pb] kk tp) I fp wr n P Md St ∧ (∀ i v h, P i v h → ∃ T x y, v = .ref T ∧ h.IsTuple T #[x, y] ∧ PP i x y) ∧ n ≤ sizeLine ∧
    (∀ (Q : Value → Shared → Prop) (s' : Shared), St 0 s'.heap → Q (.ref I) s' → wpAny (model prog w) A (pyIter (.ref I)) Q (fun _ _ => False) s') ∧ St 0 s₂.heap ∧ (∀ b ∈ fp, b < s₂.heap.objs.size) ∧ (∀ b ∈ fp, b ≠ L ∧ h₀.get? b = none) ∧
    Fr h₀ L s₂.heap m ∧ News h₀ L s₂.heap news ∧ (∀ p ∈ news, p.1 ∉ wr) ∧ PairTurn prog w A h₀ L m env elt a b scope cl s₂ news n PP G ∧
    ∀ D ys, (∀ p ∈ news, p.1 ≠ D) → ys.length = n → (∀ i v, ys[i]? = some v → G i v) → Fin s₂ D ys news

def FinPE (h₀ : Heap) (L : Addr) (m : Str → Option Value) (Q : Value → Shared → Prop) (s : Shared) (D : Addr) (ys : List Value) (news : List (Addr × Obj)) : Prop :=
  ∀ h tk, Fr h₀ L h m → News h₀ L h ((D, lst ys) :: news) → Q (.ref D) { s with heap := h, toks := tk }
def FinPA (h₀ : Heap) (L : Addr) (m : Str → Option Value) (y : Str) (Q : Flow → Shared → Prop) (s : Shared) (D : Addr) (ys : List Value) (news : List (Addr × Obj)) : Prop :=
  ∀ h tk, Fr h₀ L h (fun z => if z = y then some (.ref D) else m z) → News h₀ L h ((D, lst ys) :: news) → Q .next { s with heap := h, toks := tk }

theorem ListComp_T {elt iter : Expr} {a b : Str} {pa pb tp : Pos} {kk : Nat} {scope : Scope} {cl : List (Str × Addr)} {pos : Pos} {Q : Value → Shared → Prop} (hh : A.handled = none)
    (hclos : closureFor scope env = pure cl) (hcell : ∀ y ∈ scope.names, y.2 ≠ .cell) (hkind : scope.kind = .function)
    (hnames : ∀ y ∈ scope.names, y.2 = .local → scope.names.lookup y.1 = some .local) (hxa : scope.names.lookup a = some .local) (hxb : scope.names.lookup b = some .local) (hab : ¬ a = b)
    (h : wpAny (model prog w) A (eval iter env) (fun xv s₁ => wpAny (model prog w) A (pyIter xv) (PairsAt prog w A h₀ L m env elt a b pa pb tp kk scope cl (FinPE h₀ L m Q)) E s₁) E s)
    (hs : ∀ x, foldedSetIterable iter env x = pure x := by intro _; rfl) :
    wpAny (model prog w) A (eval (.ListComp elt [⟨.Tuple [.Name a pa, .Name b pb] kk tp, iter, [], 0⟩] scope pos) env) Q E s := by
  rw [eval_ListComp]
  refine wpAny_comprehension_free (use := none) rfl hs hclos hkind hnames (wpAny_mono h (fun xv s₁ h₁ => wpAny_mono h₁ (fun it s₂ h₂ => ?_) fun _ _ e => e) fun _ _ e => e)
  obtain ⟨I, fp, wr, n, P, Md, St, news, PP, G, rfl, W, hP, hsz, self, hst, hfp, hfn, F, N, hnw, turn, fin⟩ := h₂
  refine block_T W hP hsz self hh hcell hkind hxa hxb hab hst hfp hfn F N hnw turn ?_
  intro D C h tk m' ys F' N' hn hC₀ hD₀ hCL hDL hCD nC nD hl hG
  refine ⟨m', hn, fun h'' hs'' => fin D ys nD hl hG h'' tk (F'.change hs'' hCL hC₀) (fun p hp => ?_)⟩
  refine ⟨hs''.extBut _ _ ?_ (N' p hp).1, (N' p hp).2⟩
  rcases List.mem_cons.mp hp with rfl | hp
  · exact Ne.symm hCD
  · exact nC p hp

theorem Assign_ListComp_T {elt iter : Expr} {a b y : Str} {pa pb tp py : Pos} {kk : Nat} {scope : Scope} {cl : List (Str × Addr)} {pos spos : Pos} {Q : Flow → Shared → Prop} (hh : A.handled = none) (hLe : env.locals = L)
    (hsw : swapsWith (.ListComp elt [⟨.Tuple [.Name a pa, .Name b pb] kk tp, iter, [], 0⟩] scope pos) (some (.Name y py)) spos.line env = pure true)
    (hclos : closureFor scope env = pure cl) (hcell : ∀ z ∈ scope.names, z.2 ≠ .cell) (hkind : scope.kind = .function)
    (hnames : ∀ z ∈ scope.names, z.2 = .local → scope.names.lookup z.1 = some .local) (hxa : scope.names.lookup a = some .local) (hxb : scope.names.lookup b = some .local) (hab : ¬ a = b)
    (hy : env.kindOf y = some .local) (hp : (env.scope.kind == .class || (env.scope.kind == .module && env.locals != env.globals)) = false)
    (h : wpAny (model prog w) A (eval iter env) (fun xv s₁ => wpAny (model prog w) A (pyIter xv) (PairsAt prog w A h₀ L m env elt a b pa pb tp kk scope cl (FinPA h₀ L m y Q)) E s₁) E s)
    (hs : ∀ x, foldedSetIterable iter env x = pure x := by intro _; rfl) :
    wpAny (model prog w) A (exec (.Assign [.Name y py] (.ListComp elt [⟨.Tuple [.Name a pa, .Name b pb] kk tp, iter, [], 0⟩] scope pos) spos) env) Q E s := by
  subst hLe
  rw [exec_Assign_Name_used _ _ _ _ hsw]
  refine wpAny_bind (wpAny_standAt (wpAny_bind ?_))
  show wpAny _ A (do let _ ← comprehension (.ListComp elt [⟨.Tuple [.Name a pa, .Name b pb] kk tp, iter, [], 0⟩] scope pos) scope env _ (newList []) false (eval iter env) (some (assign (.Name y py) env))) _ _ s
  refine wpAny_bind (wpAny_mono (wpAny_comprehension_free (use := some (assign (.Name y py) env)) (Q := fun _ s' => Q .next s') rfl hs hclos hkind hnames
    (wpAny_mono h (fun xv s₁ h₁ => wpAny_mono h₁ (fun it s₂ h₂ => ?_) fun _ _ e => e) fun _ _ e => e)) (fun _ s' hq => wpAny_pure (wpAny_pure hq)) fun _ _ e => e)
  obtain ⟨I, fp, wr, n, P, Md, St, news, PP, G, rfl, W, hP, hsz, self, hst, hfp, hfn, F, N, hnw, turn, fin⟩ := h₂
  refine block_T W hP hsz self hh hcell hkind hxa hxb hab hst hfp hfn F N hnw turn ?_
  intro D C h' tk m' ys F' N' hn hC₀ hD₀ hCL hDL hCD nC nD hl hG
  show wpAny _ A (assign (.Name y py) env (.ref D)) _ _ _
  refine wpAny_assign_Name (wpAny_storeName_local hy F'.ns (fun h₂ hn₂ hs₂ => ?_) hp)
  have hL₀ : h₀.get? env.locals = none := Heap.get?_none_of_le F'.above
  have F₂ : Fr h₀ env.locals h₂ (fun z => if z = y then some (.ref D) else m z) := ⟨hn₂, fun b o e => hs₂.extBut b o (fun q => by rw [q, hL₀] at e; cases e) (F'.keep b o e), F'.above⟩
  refine ⟨m', hn.sameBut hs₂ hCL, fun h'' hs'' => fin D ys nD hl hG h'' _ (F₂.change hs'' hCL hC₀) (fun p hp => ?_)⟩
  have z : h₂.get? p.1 = some p.2 := hs₂.extBut _ _ (N' p hp).2.1 (N' p hp).1
  refine ⟨hs''.extBut _ _ ?_ z, (N' p hp).2⟩
  rcases List.mem_cons.mp hp with rfl | hp
  · exact Ne.symm hCD
  · exact nC p hp
end
end Mine
end
section
open PySem PySem.W PyProof.Rows PySem.Calls PySem.Spec PyProof.Rows.LCg
namespace Mine
-- part R3
set_option maxRecDepth 100000
set_option linter.unusedVariables false
section
variable {prog : Program} {w : World} {A : Around} {E : Value → Shared → Prop} {s : Shared} {h₀ : Heap} {L : Addr} {m : Str → Option Value} {env : Env}
variable {elt : Expr} {a b : Str} {pa pb tp : Pos} {kk : Nat} {scope : Scope} {cl : List (Str × Addr)} {Fin : Shared → Addr → List Value → List (Addr × Obj) → Prop}
theorem enum_pairs {l : Addr} {lo : Obj} {vs : List Value} {n : Nat} {news : List (Addr × Obj)} {G : Nat → Value → Prop} (hh : A.handled = none) (F : Fr h₀ L s.heap m) (N : News h₀ L s.heap news) (hm : (l, lo) ∈ news) (hc : lo.cls = .type "list") (hd : lo.data = .seq vs.toArray n) (hsz : vs.length ≤ sizeLine)
    (turn : ∀ g, PairTurn prog w A h₀ L m env elt a b scope cl { s with heap := g } news vs.length (fun i x y => (∃ t, x = .int (i : Nat) t) ∧ vs[i]? = some y) G)
    (fin : ∀ g D ys, (∀ p ∈ news, p.1 ≠ D) → ys.length = vs.length → (∀ i v, ys[i]? = some v → G i v) → Fin { s with heap := g } D ys news) :
    wpAny (model prog w) A (call (.type "enumerate") [.ref l]) (fun xv s₁ => wpAny (model prog w) A (pyIter xv) (PairsAt prog w A h₀ L m env elt a b pa pb tp kk scope cl Fin) E s₁) E s := by
  have hax := N _ hm
  have hl : s.heap.IsList l vs.toArray := ⟨lo, hax.1, hc, n, hd⟩
  have hlt : l < s.heap.objs.size := Heap.lt_size hax.1
  have hLs : L < s.heap.objs.size := F.ns.lt
  have nw : ∀ k, h₀.get? (s.heap.objs.size + k) = none := fun k => Heap.get?_none_of_le (Nat.le_trans F.above (Nat.le_trans (Nat.le_of_lt hLs) (Nat.le_add_right _ k)))
  refine call_enumerate_list hl fun h' hE hI hsz' hk => ?_
  refine wpAny_pyIter_enum hE ?_
  refine ⟨_, _, _, _, _, _, _, news, (fun i x y => (∃ t, x = .int (i : Nat) t) ∧ vs[i]? = some y), G, rfl, KTurns.ofWalksU (WalksT.enumerate hh (s.heap.objs.size + 1) s.heap.objs.size l (Nat.succ_ne_self _) (ktu_ne 1 hlt) (Nat.ne_of_lt hlt) vs.toArray).toU, ?_, by simpa using hsz, ?_, ⟨⟨_, hE⟩, hI, hl.at fun o e => hk l o e⟩, ?_, ?_, F.keeps hk, N.grown hk, ?_, ?_, ?_⟩
  · rintro i v h ⟨T, vals, rfl, ⟨t, x, hx, rfl⟩, hT⟩
    exact ⟨T, _, _, rfl, hT, ⟨t, rfl⟩, by simpa using hx⟩
  · rintro Q s' ⟨⟨old, he⟩, _⟩ hQ
    exact wpAny_pyIter_enum he hQ
  · intro c hb
    show c < h'.objs.size
    rw [hsz']
    simp only [List.mem_cons, List.not_mem_nil, or_false] at hb
    rcases hb with rfl | rfl | rfl
    · exact Nat.lt_succ_self _
    · exact Nat.lt_succ_of_lt (Nat.lt_succ_self _)
    · exact Nat.lt_succ_of_lt (Nat.lt_succ_of_lt hlt)
  · intro c hb
    simp only [List.mem_cons, List.not_mem_nil, or_false] at hb
    rcases hb with rfl | rfl | rfl
    · exact ⟨Nat.ne_of_gt (Nat.lt_succ_of_lt hLs), nw 1⟩
    · exact ⟨Nat.ne_of_gt hLs, nw 0⟩
    · exact hax.2
  · intro p hp hb
    have h1 := Heap.lt_size (N p hp).1
    simp only [List.mem_cons, List.not_mem_nil, or_false] at hb
    rcases hb with e | e
    · exact Nat.ne_of_lt (Nat.lt_succ_of_lt h1) e
    · exact Nat.ne_of_lt h1 e
  · have := turn h'
    simpa using this
  · intro D ys hD hl' hG
    exact fin h' D ys hD (by simpa using hl') hG
theorem zip_pairs {l1 l2 : Addr} {lo1 lo2 : Obj} {xs ys : List Value} {n1 n2 : Nat} {news : List (Addr × Obj)} {G : Nat → Value → Prop} (hh : A.handled = none) (F : Fr h₀ L s.heap m) (N : News h₀ L s.heap news) (hm1 : (l1, lo1) ∈ news) (hc1 : lo1.cls = .type "list") (hd1 : lo1.data = .seq xs.toArray n1) (hm2 : (l2, lo2) ∈ news) (hc2 : lo2.cls = .type "list") (hd2 : lo2.data = .seq ys.toArray n2) (hsz : min xs.length ys.length ≤ sizeLine)
    (turn : ∀ g, PairTurn prog w A h₀ L m env elt a b scope cl { s with heap := g } news (min xs.length ys.length) (fun i x y => xs[i]? = some x ∧ ys[i]? = some y) G)
    (fin : ∀ g D zs, (∀ p ∈ news, p.1 ≠ D) → zs.length = min xs.length ys.length → (∀ i v, zs[i]? = some v → G i v) → Fin { s with heap := g } D zs news) :
    wpAny (model prog w) A (call (.type "zip") [.ref l1, .ref l2]) (fun xv s₁ => wpAny (model prog w) A (pyIter xv) (PairsAt prog w A h₀ L m env elt a b pa pb tp kk scope cl Fin) E s₁) E s := by
  have hax1 := N _ hm1
  have hax2 := N _ hm2
  have hl1 : s.heap.IsList l1 xs.toArray := ⟨lo1, hax1.1, hc1, n1, hd1⟩
  have hl2 : s.heap.IsList l2 ys.toArray := ⟨lo2, hax2.1, hc2, n2, hd2⟩
  have hlt1 : l1 < s.heap.objs.size := Heap.lt_size hax1.1
  have hlt2 : l2 < s.heap.objs.size := Heap.lt_size hax2.1
  have hLs : L < s.heap.objs.size := F.ns.lt
  have D : ZipApart (s.heap.objs.size + 4) (s.heap.objs.size + 2) (s.heap.objs.size + 3) s.heap.objs.size (s.heap.objs.size + 1) l1 l2 := ktu_apart _ _ _ hlt1 hlt2
  have nw : ∀ k, h₀.get? (s.heap.objs.size + k) = none := fun k => Heap.get?_none_of_le (Nat.le_trans F.above (Nat.le_trans (Nat.le_of_lt hLs) (Nat.le_add_right _ k)))
  have ne : ∀ k, (s.heap.objs.size + k) ≠ L := fun k => Nat.ne_of_gt (Nat.lt_of_lt_of_le hLs (Nat.le_add_right _ k))
  refine call_zip_2 hl1 hl2 fun h' hz hTI hTO hi1 hi2 hsz' hk => ?_
  refine wpAny_pyIter_zip hz ?_
  refine ⟨_, _, _, _, _, _, _, news, (fun i x y => xs[i]? = some x ∧ ys[i]? = some y), G, rfl, KTurns.ofWalksU (WalksT.zip2 hh _ _ _ _ _ _ _ D xs.toArray ys.toArray).toU, ?_, by simpa using hsz, ?_, ⟨hz, hTI, ⟨_, _, hTO⟩, hi1, hi2, hl1.at fun o e => hk l1 o e, hl2.at fun o e => hk l2 o e⟩, ?_, ?_, F.keeps hk, N.grown hk, ?_, ?_, ?_⟩
  · rintro i v h ⟨T, vals, rfl, ⟨x, y, hx, hy, rfl⟩, hT⟩
    exact ⟨T, _, _, rfl, hT, by simpa using hx, by simpa using hy⟩
  · rintro Q s' ⟨he, _⟩ hQ
    exact wpAny_pyIter_zip he hQ
  · intro c hb
    show c < h'.objs.size
    rw [hsz']
    simp only [List.mem_cons, List.not_mem_nil, or_false] at hb
    have a1 : (l1 : Nat) < s.heap.objs.size := hlt1
    have a2 : (l2 : Nat) < s.heap.objs.size := hlt2
    rcases hb with rfl | rfl | rfl | rfl | rfl | rfl | rfl
    · exact Nat.lt_succ_self _
    · exact Nat.add_lt_add_left (by decide) _
    · exact Nat.add_lt_add_left (by decide) _
    · exact Nat.lt_add_of_pos_right (by decide)
    · exact Nat.add_lt_add_left (by decide) _
    · exact Nat.lt_of_lt_of_le a1 (Nat.le_add_right _ _)
    · exact Nat.lt_of_lt_of_le a2 (Nat.le_add_right _ _)
  · intro c hb
    simp only [List.mem_cons, List.not_mem_nil, or_false] at hb
    rcases hb with rfl | rfl | rfl | rfl | rfl | rfl | rfl
    · exact ⟨ne _, nw _⟩
    · exact ⟨ne _, nw _⟩
    · exact ⟨ne _, nw _⟩
    · exact ⟨ne 0, nw 0⟩
    · exact ⟨ne _, nw _⟩
    · exact hax1.2
    · exact hax2.2
  · intro p hp hb
    have h1 : (p.1 : Nat) < s.heap.objs.size := Heap.lt_size (N p hp).1
    have h2 : ∀ k, p.1 ≠ s.heap.objs.size + k := fun k => Nat.ne_of_lt (Nat.lt_of_lt_of_le h1 (Nat.le_add_right _ k))
    simp only [List.mem_cons, List.not_mem_nil, or_false] at hb
    rcases hb with e | e | e | e
    · exact h2 _ e
    · exact h2 _ e
    · exact h2 0 e
    · exact h2 _ e
  · have := turn h'
    simpa using this
  · intro D ys hD hl' hG
    exact fin h' D ys hD (by simpa using hl') hG
end
end Mine
end
section
open PySem PySem.W PyProof.Rows PySem.Calls PySem.Spec
namespace Mine
set_option maxRecDepth 100000
set_option linter.unusedVariables false
set_option maxHeartbeats 1000000
local macro_rules | `(tactic| walk_at "eval Name") => `(tactic| (k_here; k_dflt (refine' nameX_L ?F ?v ?_ ?a ?b; (case F => k_asm); (case a => rfl); (case b => rfl); (case v => assumption); k_whole)))
local macro_rules | `(tactic| walk_at "eval Name") => `(tactic| (k_here; k_dflt (refine' nameX_F ?N ?c ?m ?d ?_ ?a ?b; (case a => rfl); (case b => rfl); (case N => k_asm); (case c => rfl); (case m => k_mem); (case d => assumption); k_whole)))
local macro_rules | `(tactic| walk_at "eval Name") => `(tactic| (k_here; k_dflt (refine' nameX_C ?N ?c ?m ?d ?_ ?a ?b; (case a => rfl); (case b => rfl); (case N => k_asm); (case c => rfl); (case m => k_mem); (case d => assumption); k_whole)))
local macro_rules | `(tactic| walk_at "callWith ref") => `(tactic| (k_here; k_dflt (refine' callWith_F ?k1 ?_; (case k1 => exact FnAt.of (by k_asm) (by k_mem)); k_whole)))
-- part A3
set_option maxRecDepth 100000
set_option linter.unusedVariables false
set_option maxHeartbeats 1000000

noncomputable def i2dNP (w : World) : Arguments := by exact nestP (K := hd.heap_39 w.params) (f := 39) (i := 1) (by with_unfolding_all rfl) rfl rfl
noncomputable def i2dNB (w : World) : List Stmt := by exact nestB (K := hd.heap_39 w.params) (f := 39) (i := 1) (by with_unfolding_all rfl) rfl rfl
noncomputable def i2dNS (w : World) : Scope := by exact nestS (K := hd.heap_39 w.params) (f := 39) (i := 1) (by with_unfolding_all rfl) rfl rfl
theorem i2dN_eq {w : World} {params : Arguments} {body : List Stmt} {scope : Scope} (hN : Nested (hd.heap_39 w.params) 39 1 params body scope) : params = i2dNP w ∧ body = i2dNB w ∧ scope = i2dNS w := by
  obtain ⟨oc', od', osl', fd, bb, nm, ds, ret, tps, tsc, bnd, pos, g1, g2, g3⟩ := hN
  cases g1
  cases g2
  cases g3
  exact ⟨rfl, rfl, rfl⟩
section
variable {prog : Program} {w : World} {mg mb : Str → Option Value} {mean : ExcName → Option Value} {p : Program} {loose : List Str}

theorem i2d_inner {params : Arguments} {body : List Stmt} {scope : Scope} (hN : Nested (hd.heap_39 w.params) 39 1 params body scope) : ∀ (k : Nat)
   {A : Around} {s : Shared} {b : Heap} {d c1 c2 c3 f c' : Addr} {o1 o2 o3 oc : Obj} {vs : List Value} {ns : List Int} {n : Nat} {x l r nn : Int} {tx tl tr tn tq : Tok} {doc pm ctv : Value} {fvs : Array Value} {Q E : Value → Shared → Prop}
   (X : (hd.heap_39 w.params).In b) (T : Top p loose mean mg mb b) (hst : b.StaysIn s.heap) (hbn : ∀ a ∈ [d, c1, c2, c3, c', f], b.get? a = none)
   (hdp : A.depth + k < 900) (hun : A.units + 8 * k < 9000)
   (hd : s.heap.get? d = some (listOf vs.toArray n)) (hc1 : s.heap.get? c1 = some o1) (hc2 : s.heap.get? c2 = some o2) (hc3 : s.heap.get? c3 = some o3) (hc' : s.heap.get? c' = some oc)
   (hf : s.heap.get? f = some (fnMade "inner" "_int2digits.<locals>.inner" params body scope [("n", c1), ("inner", c3), ("a_digits", c2)] doc pm c' ctv))
   (e1 : o1.data = .cell (some (.int nn tn))) (e2 : o2.data = .cell (some (.ref d))) (e3 : o3.data = .cell (some (.ref f)))
   (ec : oc.data = .fields fvs) (ev : fvs[1]? = some (.str "_int2digits.<locals>.inner" tq))
   (hne : @Ne Nat d c1 ∧ @Ne Nat d c2 ∧ @Ne Nat d c3 ∧ @Ne Nat d f ∧ @Ne Nat d c') (hin : IntsAre vs ns)
   (h0 : 0 ≤ l) (hlr : l < r) (hr : r ≤ ns.length) (hk : (r - l).toNat ≤ k) (hlen : ns.length < 1000) (hn1 : 1 ≤ nn) (hn2 : nn < 2000) (hx : Small x (nn.toNat * (r - l).toNat))
   (h : ∀ h' vs' ns' n' tk', (∀ a o, a ≠ d → s.heap.get? a = some o → h'.get? a = some o) → h'.get? d = some (listOf vs'.toArray n') → IntsAre vs' ns' → Put ns nn.toNat x l.toNat r.toNat ns' → Q .none { s with heap := h', toks := tk' }),
   wpAny (model prog w) A (call (.ref f) [.int x tx, .int l tl, .int r tr]) Q E s := by
  obtain ⟨rfl, rfl, rfl⟩ := i2dN_eq hN
  dsimp only [i2dNP, i2dNB, i2dNS, nestP, nestB, nestS]
  refine Hold.out ?_
  refine Hold.mk ?_
  intro k
  induction k with
  | zero => intros; omega
  | succ k ih =>
    intro A s b d c1 c2 c3 f c' o1 o2 o3 oc vs ns n x l r nn tx tl tr tn tq doc pm ctv fvs Q E X T hst hbn hdp hun hd hc1 hc2 hc3 hc' hf e1 e2 e3 ec ev hne hin h0 hlr hr hk hlen hn1 hn2 hx h
    replace h := Hold.mk h
    replace ih := Hold.mk @ih
    refine wpAny_call ?_
    obtain ⟨g, st1, sz1, N1, kp, st2, X', T'⟩ := aside X T hst (allCons (got hd) (allCons (got hc1) (allCons (got hc2) (allCons (got hc3) (allCons (got hc') (allCons (got hf) allNil)))))) (by simpa [NotIn] using hbn)
    refine' enterN (binds := [("x", .int x tx), ("L", .int l tl), ("R", .int r tr)]) g st1 (Nat.le_of_eq sz1) T' N1 hf ⟨_, _, _, _, rfl, hc', ec, ev⟩ ?hroom (BindsTo.of_eq rfl) (locs rfl) ?_ rfl rfl rfl (by decide)
    case hroom => simp only [recursionLimit]; omega
    intro L' h₁ F N l1
    k_lt l1
    dsimp only
    k_steps
    · refine h.out _ _ _ _ _ (fun a o ha => keep_rest (top := [(d, _)]) (top' := [(d, _)]) kp (Fr.keep ‹Fr g L' _ _›) N1 ‹News g L' _ _› a o (by simpa using ha)) (News.get ‹News g L' _ _› (.head _)) ‹IntsAre (vs.set _ _) _› ?_
      obtain ⟨k1, k2, k3⟩ := inner_one h0 ‹l + 1 = r› hr
      rw [k1]
      exact put_one k3 (by rw [k2, Nat.mul_one] at hx; exact hx)
    generalize hmid : (l + r).fdiv (2 ^ Int.toNat 1) = mid at *
    generalize hsh : (mid - l) * nn = sh at *
    dsimp only
    obtain ⟨j1, j2, j3, j4, j5, j6, hsh0, hsn, hsplit, hbits, j7, j8, j9, j10, j11⟩ := inner_ints h0 hlr ‹¬ l + 1 = r› hr hk hlen hn1 hn2 hmid hsh
    clear j10 j11
    have hroom : ∀ B : Nat, B ≤ nn.toNat * (r - mid).toNat → (B : Int) + sh ≤ 2 ^ 27 := fun B h => shift_room hsh0 h hsplit hbits
    replace hroom := Hold.mk hroom
    replace j5 := Hold.mk j5
    replace j6 := Hold.mk j6
    replace j7 := Hold.mk j7
    replace j8 := Hold.mk j8
    replace j9 := Hold.mk j9
    replace hsn := Hold.mk hsn
    replace hsplit := Hold.mk hsplit
    clear hbits hk
    have hup : x.fdiv (2 ^ sh.toNat) = x / 2 ^ sh.toNat := Int.fdiv_eq_ediv_of_nonneg _ (Int.le_of_lt (Int.pow_pos (by decide)))
    have hsu : Small (x / 2 ^ sh.toNat) (nn.toNat * (r - mid).toNat) := small_high (hsplit.out ▸ hx)
    refine rshift_int hsh0 ?_
    k_steps
    refine lshift_int hsh0 (by rw [hup]; exact hroom.out _ (intBits_le hsu.1 hsu.2)) ?_
    k_steps
    rw [hup, ← hup, xor_low _ hx.1]
    rename Fr _ _ _ _ => F1
    rename News _ _ _ _ => N2
    have hsml : Small (x % 2 ^ sh.toNat) (nn.toNat * (mid - l).toNat) := hsn.out ▸ small_low sh.toNat
    refine ih.out X T (fun a o e => F1.keep _ _ (st2 a o e)) hbn ?_ ?_ (News.get N2 (.head _)) (News.get N2 (.tail _ (.head _))) (News.get N2 (.tail _ (.tail _ (.head _)))) (News.get N2 (.tail _ (.tail _ (.tail _ (.head _))))) (News.get N2 (.tail _ (.tail _ (.tail _ (.tail _ (.head _)))))) (News.get N2 (.tail _ (.tail _ (.tail _ (.tail _ (.tail _ (.head _))))))) e1 e2 e3 ec ev hne hin h0 j2 j4 j5.out hlen hn1 hn2 hsml ?_
    · simp only [Around.deeper]; omega
    · simp only [Around.deeper]; omega
    intro h5 vs5 ns5 n5 tk5 kp5 hd5 hi5 hp5
    have F5 := Fr.but1 F1 N2 kp5
    have N5 := News.upd1 N2 (by k_all) kp5 hd5
    clear F1 N2
    dsimp only
    k_steps
    rw [hup]
    have hl5 : ns5.length = ns.length := hp5.1
    refine ih.out X T (fun a o e => F5.keep _ _ (st2 a o e)) hbn ?_ ?_ (News.get N5 (.head _)) (News.get N5 (.tail _ (.head _))) (News.get N5 (.tail _ (.tail _ (.head _)))) (News.get N5 (.tail _ (.tail _ (.tail _ (.head _))))) (News.get N5 (.tail _ (.tail _ (.tail _ (.tail _ (.head _)))))) (News.get N5 (.tail _ (.tail _ (.tail _ (.tail _ (.tail _ (.head _))))))) e1 e2 e3 ec ev hne hi5 j1 j3 (by rw [hl5]; exact hr) j6.out (by rw [hl5]; exact hlen) hn1 hn2 hsu ?_
    · simp only [Around.deeper]; omega
    · simp only [Around.deeper]; omega
    intro h6 vs6 ns6 n6 tk6 kp6 hd6 hi6 hp6
    have F6 := Fr.but1 F5 N5 kp6
    have N6 := News.upd1 N5 (by k_all) kp6 hd6
    clear F5 N5
    dsimp only
    k_steps
    refine h.out _ _ _ _ _ (fun a o ha => keep_rest (top := [(d, _)]) (top' := [(d, _)]) kp F6.keep N1 N6 a o (by simpa using ha)) hd6 hi6 ?_
    have e9 : sh.toNat = nn.toNat * (mid.toNat - l.toNat) := by rw [hsn.out, j9.out]
    exact put_join hx.1 j7.out j8.out (e9 ▸ hp5) (e9 ▸ hp6)
end
-- part A4
set_option maxRecDepth 100000
set_option linter.unusedVariables false
set_option maxHeartbeats 1000000

structure Filled1 (b h : Heap) (P : Addr) (l c : Int) (qual : Str) (c' : Addr) : Prop where
  tab : h.get? P = some (tabObj #[rawInt l, rawInt c, .ref c'])
  code : ∃ oc fvs tq, h.get? c' = some oc ∧ oc.data = .fields fvs ∧ fvs[1]? = some (.str qual tq)
  fresh : b.get? c' = none

theorem qn_i2d {sc : Scope} {L a : Addr} {cd : Value} (h : ((envOfC "_int2digits" sc L a cd).kindOf "inner" == some .globalExplicit) = false) : qualnameIn (envOfC "_int2digits" sc L a cd) "inner" "inner" = "_int2digits.<locals>.inner" := by
  unfold qualnameIn
  rw [h]
  rfl
section
variable {prog : Program} {w : World} {mg mb : Str → Option Value} {mean : ExcName → Option Value} {p : Program} {loose : List Str}

theorem i2d_spec {A : Around} {s : Shared} {b : Heap} {x nn : Int} {tx tn : Tok} {Q E : Value → Shared → Prop}
   (X : (hd.heap_39 w.params).In b) (T : Top p loose mean mg mb b) (C1 : CodeHd b 38 34) (hst : b.StaysIn s.heap) (hb34 : b.get? 34 = none) (hsz : b.objs.size ≤ s.heap.objs.size)
   (hdp : A.depth < 400) (hun : A.units < 1000)
   (hT : s.heap.get? 34 = some (tabObj #[]) ∨ ∃ c0, Filled1 b s.heap 34 46 4 "_int2digits.<locals>.inner" c0)
   (hn1 : 1 ≤ nn) (hn2 : nn < 2000) (hx0 : 0 ≤ x) (hnd : ndig x nn.toNat < 100)
   (h : ∀ h' r vs n' c' tk', (∀ a o, a ≠ 34 → s.heap.get? a = some o → h'.get? a = some o) → s.heap.objs.size ≤ r → h'.get? r = some (listOf vs.toArray n') → IntsAre vs (digitsOf x nn.toNat) →
     Filled1 b h' 34 46 4 "_int2digits.<locals>.inner" c' → (Filled1 b s.heap 34 46 4 "_int2digits.<locals>.inner" c' ∨ s.heap.objs.size ≤ c') → Q (.ref r) { s with heap := h', toks := tk' }) :
   wpAny (model prog w) A (call (.ref 39) [.int x tx, .int nn tn]) Q E s := by
  refine wpAny_call ?_
  obtain ⟨to, hto, hT2⟩ : ∃ to, s.heap.get? 34 = some to ∧ (to = tabObj #[] ∨ ∃ c0, to = tabObj #[rawInt 46, rawInt 4, .ref c0] ∧ Filled1 b s.heap 34 46 4 "_int2digits.<locals>.inner" c0) := by
    rcases hT with e | ⟨c0, f⟩
    · exact ⟨_, e, .inl rfl⟩
    · exact ⟨_, f.tab, .inr ⟨c0, rfl, f⟩⟩
  obtain ⟨g, st1, sz1, N1, kp, st2, X', T'⟩ := aside X T hst (allCons (got hto) allNil) (by simpa [NotIn] using hb34)
  refine' enterC (binds := [("a", .int x tx), ("n", .int nn tn)]) g st1 (Nat.le_of_eq sz1) X' T' N1 ?ho ?hcd ?hroom ?hbd ?hkd ?hnd ?_ ?q1 ?q2 ?q3
  case ho => k_is
  case hbd => exact BindsTo.of_eq rfl
  case hkd => exact rfl
  case hnd => decide +kernel
  case q1 => exact rfl
  case q2 => exact rfl
  case q3 => exact rfl
  case hcd => k_is
  case hroom => simp only [recursionLimit]; omega
  intro L' h₁ tk cells F N Y l1
  obtain ⟨o1, o2, o3, rfl, d1, d2, d3⟩ := CellsAre.three Y
  clear Y
  simp only [List.cons_append, List.nil_append] at N
  k_lt l1
  have d1q := d1
  have C1' := C1.keeps st2
  have hnd' : (((Builtin.Int.intBits x : Nat) : Int) + nn - 1).fdiv nn = (ndig x nn.toNat : Nat) := by
    rw [Int.fdiv_eq_ediv_of_nonneg _ (by omega)]
    unfold ndig
    rw [Int.natCast_ediv]
    congr 1 <;> omega
  refine execs_via (fun R => ∀ (d : Nat) (t : Tok) (m : Str → Option Value) (p1 p2 p3 : Obj) h2 tk2, Fr g L' h2 m → News g L' h2 [(d, listOf (List.replicate (ndig x nn.toNat) (Value.int 0 t)).toArray 0), (L' + 1 + 1 + 1, p1), (L' + 1 + 1, p2), (L' + 1, p3), (34, to)] → @LT.lt Nat _ (L' + 1 + 1 + 1) d → m "a" = some (.int x tx) →
      p1.data = .cell none → p2.data = .cell (some (.ref d)) → p3.data = .cell (some (.int nn tn)) → R { s with heap := h2, toks := tk2 }) ?_ ?_
  · intro R hR
    replace hR := Hold.mk hR
    repeat ((fail_if_success (with_reducible show wpAny _ _ (binaryOp Operator.Mult (Value.ref _) _) _ _ _)); first | (k_unfold; (try dsimp only)) | walk1 | (dsimp only; walk1))
    rename Fr _ _ _ _ => F1
    rename News _ _ _ _ => N2
    rw [hnd']
    refine' KMa.mul F1 N2 (IsL.isList (n := 0) (N2 _ (.head _)).1) (by omega) (by omega) (by simp only [List.length_cons, List.length_nil]; omega) rfl ?_
    intro D' h' F' N' l1
    k_lt l1
    rw [show (List.replicate (Int.toNat ((ndig x nn.toNat : Nat) : Int)) [Value.int 0 tk]).flatten = List.replicate (ndig x nn.toNat) (Value.int 0 tk) by simp] at N'
    clear F1 N2
    k_steps
    all_goals first | exact trivial | skip
    rename News _ _ _ _ => N3
    rename Fr _ _ _ _ => F3
    exact ⟨hR.out _ _ _ _ _ _ _ _ F3 (allCons (N3 _ (by k_mem)) (allCons (N3 _ (by k_mem)) (allCons (N3 _ (by k_mem)) (allCons (N3 _ (by k_mem)) (allCons (N3 _ (by k_mem)) allNil))))) (by omega) rfl d1 ‹_› d3⟩
  intro d t m p1 p2 p3 h2 tk2 F2 N2 hdl hm q1 q2 q3
  clear F N d1 d2 d3 d1q
  refine execs_via (fun R => ∀ (m : Str → Option Value) (p1 : Obj) (c' : Nat) (oc : Obj) (fvs : Array Value) (tq : Tok) (f : Nat) (params : Arguments) (body : List Stmt) (scope : Scope) (doc pm ctv : Value) h3 tk3,
      Fr g L' h3 m → News g L' h3 [(d, listOf (List.replicate (ndig x nn.toNat) (Value.int 0 t)).toArray 0), (L' + 1 + 1 + 1, p1), (L' + 1 + 1, p2), (L' + 1, p3), (34, tabObj #[rawInt 46, rawInt 4, .ref c']),
        (f, fnMade "inner" "_int2digits.<locals>.inner" params body scope [("n", L' + 1), ("inner", L' + 1 + 1 + 1), ("a_digits", L' + 1 + 1)] doc pm c' ctv)] →
      m "a" = some (.int x tx) → p1.data = .cell (some (.ref f)) → h3.get? c' = some oc → oc.data = .fields fvs → fvs[1]? = some (.str "_int2digits.<locals>.inner" tq) →
      Nested (hd.heap_39 w.params) 39 1 params body scope → b.get? c' = none → (c' ≠ d ∧ c' ≠ L' + 1 ∧ c' ≠ L' + 2 ∧ c' ≠ L' + 3 ∧ c' ≠ f ∧ d < f) → (Filled1 b s.heap 34 46 4 "_int2digits.<locals>.inner" c' ∨ s.heap.objs.size ≤ c') → R { s with heap := h3, toks := tk3 }) ?_ ?_
  · intro R hR
    replace hR := Hold.mk hR
    rcases hT2 with rfl | ⟨c0, rfl, hfil⟩
    · k_steps
      rename News _ _ _ _ => N3
      rename Fr _ _ _ _ => F3
      rw [qn_i2d rfl] at *
      refine ⟨hR.out _ _ _ _ _ _ _ _ _ _ _ _ _ _ _ F3 (allCons (N3 _ (by k_mem)) (allCons (N3 _ (by k_mem)) (allCons (N3 _ (by k_mem)) (allCons (N3 _ (by k_mem)) (allCons (N3 _ (by k_mem)) (allCons (N3 _ (by k_mem)) allNil)))))) hm ‹_› (News.get N3 (.tail _ (.head _))) ‹_› ‹_› ?_ ?_ ?_ ?_⟩
      · exact ⟨_, _, _, _, _, _, _, _, _, _, _, _, by k_is, rfl, rfl⟩
      · exact Heap.get?_none_of_le (Nat.le_trans hsz (by have := F3.above; rw [sz1] at this; exact Nat.le_trans this (Nat.le_of_lt (by omega))))
      · rename _ < _ ∧ _ ∧ _ ∧ _ ∧ _ < _ => l8
        rename _ < _ => l7
        exact ⟨Nat.ne_of_gt l8.1, Nat.ne_of_gt l8.2.2.2.1, Nat.ne_of_gt l8.2.2.1, Nat.ne_of_gt l8.2.1, Nat.ne_of_lt l7, Nat.lt_trans l8.1 l7⟩
      · exact .inr (by have := F3.above; rw [sz1] at this; exact Nat.le_trans this (Nat.le_of_lt (by omega)))
    · k_steps
      rename News _ _ _ _ => N3
      rename Fr _ _ _ _ => F3
      rw [qn_i2d rfl] at *
      obtain ⟨oc, fvs, tq, k1, k2, k3⟩ := hfil.code
      have hc34 : c0 ≠ 34 := fun q => by
        subst q
        rw [hto] at k1
        cases k1
        cases k2
        cases k3
      have kg := kp c0 oc (by simpa using hc34) k1
      have hcl : @LT.lt Nat _ c0 L' := Nat.lt_of_lt_of_le (Heap.lt_size kg) F3.above
      refine ⟨hR.out _ _ _ _ _ _ _ _ _ _ _ _ _ _ _ F3 (allCons (N3 _ (by k_mem)) (allCons (N3 _ (by k_mem)) (allCons (N3 _ (by k_mem)) (allCons (N3 _ (by k_mem)) (allCons (N3 _ (by k_mem)) (allCons (N3 _ (by k_mem)) allNil)))))) hm ‹_› (F3.keep _ _ kg) k2 k3 ?_ ?_ ?_ ?_⟩
      · exact ⟨_, _, _, _, _, _, _, _, _, _, _, _, by k_is, rfl, rfl⟩
      · exact hfil.fresh
      · rename _ < _ ∧ _ ∧ _ ∧ _ ∧ _ < _ => l8
        have a3 : c0 < L' + 1 + 1 + 1 := Nat.lt_trans hcl (Nat.lt_succ_of_lt (Nat.lt_succ_of_lt (Nat.lt_succ_self _)))
        exact ⟨Nat.ne_of_lt (Nat.lt_trans a3 hdl), Nat.ne_of_lt (Nat.lt_succ_of_lt hcl), Nat.ne_of_lt (Nat.lt_succ_of_lt (Nat.lt_succ_of_lt hcl)), Nat.ne_of_lt a3, Nat.ne_of_lt (Nat.lt_trans (Nat.lt_trans a3 hdl) l8.1), l8.1⟩
      · exact .inl hfil
  intro m p1 c' oc fvs tq f params body scope doc pm ctv h3 tk3 F3 N3 hm u1 u2 u3 u4 hN hcb hne hsame
  have hints : ∀ k : Nat, IntsAre (List.replicate k (Value.int 0 t)) (List.replicate k 0) := fun k => by
    induction k with
    | zero => exact .nil
    | succ k ih => exact .cons _ _ ih
  have hkeep : ∀ {h' : Heap}, (∀ a o, g.get? a = some o → h'.get? a = some o) → ∀ a o, a ≠ 34 → s.heap.get? a = some o → h'.get? a = some o :=
    fun hk a o ha e => hk _ _ (kp a o (by simpa using ha) e)
  have hg := F3.above
  rw [sz1] at hg
  k_steps
  · rename News _ _ _ _ => N4
    rename Fr _ _ _ _ => F4
    refine call_len_list (IsL.isList (n := 0) (N4 _ (.head _)).1) (by simp; omega) ?_
    simp only [List.size_toArray, List.length_replicate]
    k_steps
    refine i2d_inner hN (ndig x nn.toNat) X T (fun a o e => F4.keep _ _ (st2 a o e)) ?_ ?_ ?_ (News.get N4 (.head _)) (News.get N4 (by k_mem)) (News.get N4 (by k_mem)) (News.get N4 (by k_mem)) u2 (News.get N4 (by k_mem)) q3 q2 u1 u3 u4 ?_ (hints _) (Int.le_refl _) ?_ ?_ ?_ ?_ hn1 hn2 ?_ ?_
    · intro a ha
      simp only [List.mem_cons, List.not_mem_nil, or_false] at ha
      rcases ha with rfl | rfl | rfl | rfl | rfl | rfl
      all_goals first | exact hcb | exact Heap.get?_none_of_le (Nat.le_trans hsz (Nat.le_trans hg (Nat.le_of_lt (by omega))))
    · simp only [Around.deeper]; omega
    · simp only [Around.deeper]; omega
    · exact ⟨Nat.ne_of_gt (Nat.lt_trans (Nat.lt_succ_of_lt (Nat.lt_succ_self _)) hdl), Nat.ne_of_gt (Nat.lt_trans (Nat.lt_succ_self _) hdl), Nat.ne_of_gt hdl, Nat.ne_of_lt hne.2.2.2.2.2, Ne.symm hne.1⟩
    · have := ndig_pos (w := nn.toNat) hx0 ‹x ≠ 0› (by omega)
      omega
    · simp
    · omega
    · simp; omega
    · have := small_ndig (w := nn.toNat) hx0 (by omega)
      simpa using this
    intro h6 vs6 ns6 n6 tk6 kp6 hd6 hi6 hp6
    have F6 := Fr.but1 F4 N4 kp6
    have N6 := News.upd1 N4 (by k_all) kp6 hd6
    have hc6 := kp6 c' oc hne.1 u2
    clear F4 N4
    dsimp only
    k_steps
    have hp7 : ns6 = digitsOf x nn.toNat := put_all (ns := List.replicate (ndig x nn.toNat) 0) (by simp) hp6
    subst hp7
    exact h _ _ _ _ _ _ (hkeep F6.keep) (Nat.le_trans hg (Nat.le_of_lt (by omega))) hd6 hi6 ⟨News.get N6 (by k_mem), ⟨_, _, _, hc6, u3, u4⟩, hcb⟩ hsame
  · rename News _ _ _ _ => N4
    rename Fr _ _ _ _ => F4
    subst ‹x = 0›
    refine h _ _ _ _ _ _ (hkeep F4.keep) (Nat.le_trans hg (Nat.le_of_lt (by omega))) (News.get N4 (by k_mem)) ?_ ⟨News.get N4 (by k_mem), ⟨_, _, _, u2, u3, u4⟩, hcb⟩ hsame
    unfold digitsOf
    rw [ndig_zero (by omega)]
    exact .nil
end
-- part A5
set_option maxRecDepth 100000
set_option linter.unusedVariables false
set_option maxHeartbeats 1000000

noncomputable def d2iNP (w : World) : Arguments := by exact nestP (K := hd.heap_39 w.params) (f := 46) (i := 0) (by with_unfolding_all rfl) rfl rfl
noncomputable def d2iNB (w : World) : List Stmt := by exact nestB (K := hd.heap_39 w.params) (f := 46) (i := 0) (by with_unfolding_all rfl) rfl rfl
noncomputable def d2iNS (w : World) : Scope := by exact nestS (K := hd.heap_39 w.params) (f := 46) (i := 0) (by with_unfolding_all rfl) rfl rfl
theorem d2iN_eq {w : World} {params : Arguments} {body : List Stmt} {scope : Scope} (hN : Nested (hd.heap_39 w.params) 46 0 params body scope) : params = d2iNP w ∧ body = d2iNB w ∧ scope = d2iNS w := by
  obtain ⟨oc', od', osl', fd, bb, nm, ds, ret, tps, tsc, bnd, pos, g1, g2, g3⟩ := hN
  cases g1
  cases g2
  cases g3
  exact ⟨rfl, rfl, rfl⟩
section
variable {prog : Program} {w : World} {mg mb : Str → Option Value} {mean : ExcName → Option Value} {p : Program} {loose : List Str}

theorem d2i_inner {params : Arguments} {body : List Stmt} {scope : Scope} (hN : Nested (hd.heap_39 w.params) 46 0 params body scope) : ∀ (k : Nat)
   {A : Around} {s : Shared} {b : Heap} {d c1 c2 c3 f c' : Addr} {o1 o2 o3 oc : Obj} {vs : List Value} {ns : List Int} {l r nn : Int} {tl tr tn tq : Tok} {doc pm ctv : Value} {fvs : Array Value} {Q E : Value → Shared → Prop}
   (X : (hd.heap_39 w.params).In b) (T : Top p loose mean mg mb b) (hst : b.StaysIn s.heap) (hbn : ∀ a ∈ [c1, c2, c3, f], b.get? a = none)
   (hdp : A.depth + k < 900) (hun : A.units + 8 * k < 9000)
   (hd : s.heap.IsList d vs.toArray) (hc1 : s.heap.get? c1 = some o1) (hc2 : s.heap.get? c2 = some o2) (hc3 : s.heap.get? c3 = some o3) (hc' : s.heap.get? c' = some oc)
   (hf : s.heap.get? f = some (fnMade "inner" "_digits2int.<locals>.inner" params body scope [("n", c2), ("inner", c3), ("digits", c1)] doc pm c' ctv))
   (e1 : o1.data = .cell (some (.ref d))) (e2 : o2.data = .cell (some (.int nn tn))) (e3 : o3.data = .cell (some (.ref f)))
   (ec : oc.data = .fields fvs) (ev : fvs[1]? = some (.str "_digits2int.<locals>.inner" tq))
   (hne : d ≠ c1 ∧ d ≠ c2 ∧ d ≠ c3 ∧ d ≠ f) (hne' : c' ≠ c1 ∧ c' ≠ c2 ∧ c' ≠ c3 ∧ c' ≠ f) (hin : IntsAre vs ns)
   (h0 : 0 ≤ l) (hlr : l < r) (hr : r ≤ ns.length) (hk : (r - l).toNat ≤ k) (hlen : ns.length < 1000) (hn1 : 1 ≤ nn) (hn2 : nn < 2000) (hx : ∀ x ∈ ns, Small x nn.toNat)
   (h : ∀ h' t tk', s.heap.StaysIn h' → Q (.int (evalDig nn.toNat (part ns l.toNat r.toNat)) t) { s with heap := h', toks := tk' }),
   wpAny (model prog w) A (call (.ref f) [.int l tl, .int r tr]) Q E s := by
  obtain ⟨rfl, rfl, rfl⟩ := d2iN_eq hN
  dsimp only [d2iNP, d2iNB, d2iNS, nestP, nestB, nestS]
  intro k
  induction k with
  | zero => intros; omega
  | succ k ih =>
    intro A s b d c1 c2 c3 f c' o1 o2 o3 oc vs ns l r nn tl tr tn tq doc pm ctv fvs Q E X T hst hbn hdp hun hd hc1 hc2 hc3 hc' hf e1 e2 e3 ec ev hne hne' hin h0 hlr hr hk hlen hn1 hn2 hx h
    replace h := Hold.mk h
    replace ih := Hold.mk @ih
    refine wpAny_call ?_
    obtain ⟨g, st1, sz1, N1, kp, st2, X', T'⟩ := aside X T hst (allCons (got hc1) (allCons (got hc2) (allCons (got hc3) (allCons (got hf) allNil)))) (by simpa [NotIn] using hbn)
    refine' enterN (binds := [("L", .int l tl), ("R", .int r tr)]) g st1 (Nat.le_of_eq sz1) T' N1 hf ⟨_, _, _, _, rfl, hc', ec, ev⟩ ?hroom (BindsTo.of_eq rfl) (locs rfl) ?_ rfl rfl rfl (by decide)
    case hroom => simp only [recursionLimit]; omega
    have hdg : g.IsList d vs.toArray := by
      obtain ⟨o, ho, r⟩ := hd
      exact ⟨o, kp _ _ (by simpa using hne) ho, r⟩
    have hcg : g.get? c' = some oc := kp _ _ (by simpa using hne') hc'
    intro L' h₁ F N l1
    k_lt l1
    dsimp only
    k_steps
    · rename Fr _ _ _ _ => F1
      rename News _ _ _ _ => N2
      have e9 : evalDig nn.toNat (part ns l.toNat r.toNat) = ns.getD l.toNat 0 := by
        obtain ⟨k1, k2, k3⟩ := inner_one h0 ‹l + 1 = r› hr
        rw [k1, part_one k3]
        simp [evalDig]
      rw [← e9]
      exact h.out _ _ _ (fun a o e => keep_rest (top := []) (top' := []) kp F1.keep N1 N2 a o (fun _ x => nomatch x) e)
    generalize hmid : (l + r).fdiv (2 ^ Int.toNat 1) = mid at *
    generalize hsh : (mid - l) * nn = sh at *
    obtain ⟨j1, j2, j3, j4, j5, j6, hsh0, hsn, hsplit, hbits, j7, j8, j9, j10, j11⟩ := inner_ints h0 hlr ‹¬ l + 1 = r› hr hk hlen hn1 hn2 hmid hsh
    have hroom : ∀ B : Nat, B ≤ nn.toNat * (r - mid).toNat → (B : Int) + sh ≤ 2 ^ 27 := fun B h => shift_room hsh0 h hsplit hbits
    replace hroom := Hold.mk hroom
    clear hsplit hbits hk
    have hsm : Small (evalDig nn.toNat (part ns mid.toNat r.toNat)) (nn.toNat * (r.toNat - mid.toNat)) := by
      have := evalDig_small nn.toNat (part ns mid.toNat r.toNat) fun x hm => hx x (part_mem hm)
      rwa [part_length j11] at this
    have hb2 : nn.toNat * (r.toNat - mid.toNat) = nn.toNat * (r - mid).toNat := by rw [j10]
    replace j5 := Hold.mk j5
    replace j6 := Hold.mk j6
    replace j7 := Hold.mk j7
    replace j8 := Hold.mk j8
    replace j9 := Hold.mk j9
    replace j11 := Hold.mk j11
    replace hsn := Hold.mk hsn
    replace hb2 := Hold.mk hb2
    clear j10
    rename Fr _ _ _ _ => F1
    rename News _ _ _ _ => N2
    refine ih.out X T (fun a o e => F1.keep _ _ (st2 a o e)) hbn ?_ ?_ (stays_list F1.keep hdg) (News.get N2 (.head _)) (News.get N2 (by k_mem)) (News.get N2 (by k_mem)) (F1.keep _ _ hcg) (News.get N2 (by k_mem)) e1 e2 e3 ec ev hne hne' hin j1 j3 hr j6.out hlen hn1 hn2 hx ?_
    · simp only [Around.deeper]; omega
    · simp only [Around.deeper]; omega
    intro h5 t5 tk5 st5
    replace F1 := Fr.stays F1 st5
    replace N2 := News.stays N2 st5
    dsimp only
    k_steps
    refine lshift_int hsh0 (by have := intBits_le hsm.1 hsm.2; rw [hb2.out] at this; exact hroom.out _ this) ?_
    k_steps
    refine ih.out X T (fun a o e => F1.keep _ _ (st2 a o e)) hbn ?_ ?_ (stays_list F1.keep hdg) (News.get N2 (.head _)) (News.get N2 (by k_mem)) (News.get N2 (by k_mem)) (F1.keep _ _ hcg) (News.get N2 (by k_mem)) e1 e2 e3 ec ev hne hne' hin h0 j2 j4 j5.out hlen hn1 hn2 hx ?_
    · simp only [Around.deeper]; omega
    · simp only [Around.deeper]; omega
    intro h6 t6 tk6 st6
    replace F1 := Fr.stays F1 st6
    replace N2 := News.stays N2 st6
    dsimp only
    k_steps
    have e9 : evalDig nn.toNat (part ns l.toNat r.toNat) = evalDig nn.toNat (part ns mid.toNat r.toNat) * 2 ^ sh.toNat + evalDig nn.toNat (part ns l.toNat mid.toNat) := by
      rw [part_join (M := mid.toNat) j7.out j8.out, evalDig_append, part_length (Nat.le_trans j8.out j11.out), hsn.out, j9.out, Int.add_comm, Int.mul_comm]
    rw [← e9]
    exact h.out _ _ _ (fun a o e => keep_rest (top := []) (top' := []) kp F1.keep N1 N2 a o (fun _ x => nomatch x) e)

theorem qn_d2i {sc : Scope} {L a : Addr} {cd : Value} (h : ((envOfC "_digits2int" sc L a cd).kindOf "inner" == some .globalExplicit) = false) : qualnameIn (envOfC "_digits2int" sc L a cd) "inner" "inner" = "_digits2int.<locals>.inner" := by
  unfold qualnameIn
  rw [h]
  rfl

theorem d2i_spec {A : Around} {s : Shared} {b : Heap} {d : Addr} {vs : List Value} {ns : List Int} {nn : Int} {tn : Tok} {Q E : Value → Shared → Prop}
   (X : (hd.heap_39 w.params).In b) (T : Top p loose mean mg mb b) (C1 : CodeHd b 45 41) (hst : b.StaysIn s.heap) (hb41 : b.get? 41 = none) (hsz : b.objs.size ≤ s.heap.objs.size)
   (hdp : A.depth < 400) (hun : A.units < 1000)
   (hT : s.heap.get? 41 = some (tabObj #[]) ∨ ∃ c0, Filled1 b s.heap 41 61 4 "_digits2int.<locals>.inner" c0)
   (hl : s.heap.IsList d vs.toArray) (hin : IntsAre vs ns) (hn1 : 1 ≤ nn) (hn2 : nn < 2000) (hx : ∀ x ∈ ns, Small x nn.toNat) (hlen : ns.length < 100)
   (h : ∀ h' t c' tk', (∀ a o, a ≠ 41 → s.heap.get? a = some o → h'.get? a = some o) →
     Filled1 b h' 41 61 4 "_digits2int.<locals>.inner" c' → (Filled1 b s.heap 41 61 4 "_digits2int.<locals>.inner" c' ∨ s.heap.objs.size ≤ c') → Q (.int (evalDig nn.toNat ns) t) { s with heap := h', toks := tk' }) :
   wpAny (model prog w) A (call (.ref 46) [.ref d, .int nn tn]) Q E s := by
  refine wpAny_call ?_
  obtain ⟨to, hto, hT2⟩ : ∃ to, s.heap.get? 41 = some to ∧ (to = tabObj #[] ∨ ∃ c0, to = tabObj #[rawInt 61, rawInt 4, .ref c0] ∧ Filled1 b s.heap 41 61 4 "_digits2int.<locals>.inner" c0) := by
    rcases hT with e | ⟨c0, f⟩
    · exact ⟨_, e, .inl rfl⟩
    · exact ⟨_, f.tab, .inr ⟨c0, rfl, f⟩⟩
  obtain ⟨g, st1, sz1, N1, kp, st2, X', T'⟩ := aside X T hst (allCons (got hto) allNil) (by simpa [NotIn] using hb41)
  have hdg : g.IsList d vs.toArray := by
    obtain ⟨o, ho, hc, r⟩ := hl
    refine ⟨o, kp _ _ ?_ ho, hc, r⟩
    intro q hq
    cases List.mem_singleton.mp hq
    intro q
    dsimp only at q
    subst q
    rw [hto] at ho
    cases ho
    rcases hT2 with rfl | ⟨c0, rfl, _⟩ <;> cases hc
  refine' enterC (binds := [("digits", .ref d), ("n", .int nn tn)]) g st1 (Nat.le_of_eq sz1) X' T' N1 ?ho ?hcd ?hroom ?hbd ?hkd ?hnd ?_ ?q1 ?q2 ?q3
  case ho => k_is
  case hbd => exact BindsTo.of_eq rfl
  case hkd => exact rfl
  case hnd => decide +kernel
  case q1 => exact rfl
  case q2 => exact rfl
  case q3 => exact rfl
  case hcd => k_is
  case hroom => simp only [recursionLimit]; omega
  intro L' h₁ tk cells F N Y l1
  obtain ⟨p1, p2, p3, rfl, d1, d2, d3⟩ := CellsAre.three Y
  clear Y
  simp only [List.cons_append, List.nil_append] at N
  k_lt l1
  have C1' := C1.keeps st2
  refine execs_via (fun R => ∀ (m : Str → Option Value) (p1 : Obj) (c' : Nat) (oc : Obj) (fvs : Array Value) (tq : Tok) (f : Nat) (params : Arguments) (body : List Stmt) (scope : Scope) (doc pm ctv : Value) h3 tk3,
      Fr g L' h3 m → News g L' h3 [(L' + 1 + 1 + 1, p1), (L' + 1 + 1, p2), (L' + 1, p3), (41, tabObj #[rawInt 61, rawInt 4, .ref c']),
        (f, fnMade "inner" "_digits2int.<locals>.inner" params body scope [("n", L' + 1 + 1), ("inner", L' + 1 + 1 + 1), ("digits", L' + 1)] doc pm c' ctv)] →
      p1.data = .cell (some (.ref f)) → h3.get? c' = some oc → oc.data = .fields fvs → fvs[1]? = some (.str "_digits2int.<locals>.inner" tq) →
      Nested (Mine.hd.heap_39 w.params) 46 0 params body scope → b.get? c' = none → (c' ≠ L' + 1 ∧ c' ≠ L' + 2 ∧ c' ≠ L' + 3 ∧ c' ≠ f ∧ @LT.lt Nat _ (L' + 1 + 1 + 1) f) → (Filled1 b s.heap 41 61 4 "_digits2int.<locals>.inner" c' ∨ s.heap.objs.size ≤ c') → R { s with heap := h3, toks := tk3 }) ?_ ?_
  · intro R hR
    replace hR := Hold.mk hR
    rcases hT2 with rfl | ⟨c0, rfl, hfil⟩
    · k_steps
      rename News _ _ _ _ => N3
      rename Fr _ _ _ _ => F3
      rw [qn_d2i rfl] at *
      refine ⟨hR.out _ _ _ _ _ _ _ _ _ _ _ _ _ _ _ F3 (allCons (N3 _ (by k_mem)) (allCons (N3 _ (by k_mem)) (allCons (N3 _ (by k_mem)) (allCons (N3 _ (by k_mem)) (allCons (N3 _ (by k_mem)) allNil))))) ‹_› (News.get N3 (.tail _ (.head _))) ‹_› ‹_› ?_ ?_ ?_ ?_⟩
      · exact ⟨_, _, _, _, _, _, _, _, _, _, _, _, by k_is, rfl, rfl⟩
      · exact Heap.get?_none_of_le (Nat.le_trans hsz (by have := F3.above; rw [sz1] at this; exact Nat.le_trans this (Nat.le_of_lt (by omega))))
      · rename _ < _ ∧ _ ∧ _ ∧ _ < _ => l8
        rename _ < _ => l7
        exact ⟨Nat.ne_of_gt l8.2.2.1, Nat.ne_of_gt l8.2.1, Nat.ne_of_gt l8.1, Nat.ne_of_lt l7, Nat.lt_trans l8.1 l7⟩
      · exact .inr (by have := F3.above; rw [sz1] at this; exact Nat.le_trans this (Nat.le_of_lt (by omega)))
    · k_steps
      rename News _ _ _ _ => N3
      rename Fr _ _ _ _ => F3
      rw [qn_d2i rfl] at *
      obtain ⟨oc, fvs, tq, k1, k2, k3⟩ := hfil.code
      have hc41 : c0 ≠ 41 := fun q => by
        subst q
        rw [hto] at k1
        cases k1
        cases k2
        cases k3
      have kg := kp c0 oc (by simpa using hc41) k1
      have hcl : @LT.lt Nat _ c0 L' := Nat.lt_of_lt_of_le (Heap.lt_size kg) F3.above
      refine ⟨hR.out _ _ _ _ _ _ _ _ _ _ _ _ _ _ _ F3 (allCons (N3 _ (by k_mem)) (allCons (N3 _ (by k_mem)) (allCons (N3 _ (by k_mem)) (allCons (N3 _ (by k_mem)) (allCons (N3 _ (by k_mem)) allNil))))) ‹_› (F3.keep _ _ kg) k2 k3 ?_ ?_ ?_ ?_⟩
      · exact ⟨_, _, _, _, _, _, _, _, _, _, _, _, by k_is, rfl, rfl⟩
      · exact hfil.fresh
      · rename _ < _ ∧ _ ∧ _ ∧ _ < _ => l8
        have a3 : c0 < L' + 1 + 1 + 1 := Nat.lt_trans hcl (Nat.lt_succ_of_lt (Nat.lt_succ_of_lt (Nat.lt_succ_self _)))
        exact ⟨Nat.ne_of_lt (Nat.lt_succ_of_lt hcl), Nat.ne_of_lt (Nat.lt_succ_of_lt (Nat.lt_succ_of_lt hcl)), Nat.ne_of_lt a3, Nat.ne_of_lt (Nat.lt_trans a3 l8.1), l8.1⟩
      · exact .inl hfil
  intro m p1 c' oc fvs tq f params body scope doc pm ctv h3 tk3 F3 N3 u1 u2 u3 u4 hN hcb hne hsame
  clear F N d1
  have hkeep : ∀ {h' : Heap}, (∀ a o, g.get? a = some o → h'.get? a = some o) → ∀ a o, a ≠ 41 → s.heap.get? a = some o → h'.get? a = some o :=
    fun hk a o ha e => hk _ _ (kp a o (by simpa using ha) e)
  have hg := F3.above
  rw [sz1] at hg
  have hdL : @LT.lt Nat _ d L' := by
    obtain ⟨o, ho, _⟩ := hdg
    exact Nat.lt_of_lt_of_le (Heap.lt_size ho) F3.above
  k_steps
  · rename News _ _ _ _ => N4
    rename Fr _ _ _ _ => F4
    refine d2i_inner hN ns.length X T (fun a o e => F4.keep _ _ (st2 a o e)) ?_ ?_ ?_ (stays_list F4.keep hdg) (News.get N4 (by k_mem)) (News.get N4 (by k_mem)) (News.get N4 (.head _)) u2 (News.get N4 (by k_mem)) d3 d2 u1 u3 u4 ?_ ?_ hin (Int.le_refl _) (by omega) (Int.le_refl _) (by omega) (by omega) hn1 hn2 hx ?_
    · intro a ha
      simp only [List.mem_cons, List.not_mem_nil, or_false] at ha
      rcases ha with rfl | rfl | rfl | rfl
      all_goals exact Heap.get?_none_of_le (Nat.le_trans hsz (Nat.le_trans hg (Nat.le_of_lt (by omega))))
    · simp only [Around.deeper]; omega
    · simp only [Around.deeper]; omega
    · refine ⟨?_, ?_, ?_, ?_⟩ <;> (refine neN ?_; omega)
    · exact ⟨hne.1, hne.2.1, hne.2.2.1, hne.2.2.2.1⟩
    intro h6 t6 tk6 st6
    replace F4 := Fr.stays F4 st6
    replace N4 := News.stays N4 st6
    dsimp only
    k_steps
    rw [show part ns (Int.toNat 0) (Int.toNat ns.length) = ns from part_all]
    exact h _ _ _ _ (hkeep F4.keep) ⟨News.get N4 (by k_mem), ⟨_, _, _, st6 _ _ u2, u3, u4⟩, hcb⟩ hsame
  · rename News _ _ _ _ => N4
    rename Fr _ _ _ _ => F4
    have e : ns = [] := List.eq_nil_of_length_eq_zero (by omega)
    subst e
    exact h _ _ _ _ (hkeep F4.keep) ⟨News.get N4 (by k_mem), ⟨_, _, _, u2, u3, u4⟩, hcb⟩ hsame
end
-- part A6
set_option maxRecDepth 100000
set_option linter.unusedVariables false
set_option maxHeartbeats 1000000

section
variable {prog : Program} {w : World} {A : Around} {s : Shared} {mg mb : Str → Option Value} {mean : ExcName → Option Value} {p : Program} {loose : List Str}
  {h₀ : Heap} {L : Addr} {m : Str → Option Value} {news : List (Addr × Obj)} {x y : Int} {tx ty : Tok} {Q E : Value → Shared → Prop}

theorem add_call (F : Fr h₀ L s.heap m) (N : News h₀ L s.heap news) (X : (hd.heap_39 w.params).In h₀) (T : Top p loose mean mg mb h₀) (hdp : A.depth < 900)
   (h : ∀ t h' tk', s.heap.StaysIn h' → Fr h₀ L h' m → News h₀ L h' news → Q (.int (x + y) t) { s with heap := h', toks := tk' }) :
   wpAny (model prog w) A (call (.ref 53) [.int x tx, .int y ty]) Q E s := by
  refine wpAny_call ?_
  refine' enter0 (news := []) (binds := [("a", .int x tx), ("b", .int y ty)]) s.heap (fun _ _ e => e) (Nat.le_refl _) (X.keeps F.keep) (T.keeps F.keep) (fun _ h => nomatch h) ?ho ?hcd ?hroom ?hb ?hl ?_ ?c1 ?c2 ?c3 ?c4
  case ho => k_is
  case hcd => k_is
  case hroom => simp only [recursionLimit]; omega
  case hb => exact BindsTo.of_eq rfl
  case hl => exact locs rfl
  case c1 => exact rfl
  case c2 => exact rfl
  case c3 => exact rfl
  case c4 => decide
  intro L' h₁ F1 N1 l1
  dsimp only
  have X1 := X.keeps F.keep
  have T1 := T.keeps F.keep
  k_steps
  exact h _ _ _ F1.keep (Fr.stays F F1.keep) (News.stays N F1.keep)

theorem sub_call (F : Fr h₀ L s.heap m) (N : News h₀ L s.heap news) (X : (hd.heap_39 w.params).In h₀) (T : Top p loose mean mg mb h₀) (hdp : A.depth < 900)
   (h : ∀ t h' tk', s.heap.StaysIn h' → Fr h₀ L h' m → News h₀ L h' news → Q (.int (x - y) t) { s with heap := h', toks := tk' }) :
   wpAny (model prog w) A (call (.ref 67) [.int x tx, .int y ty]) Q E s := by
  refine wpAny_call ?_
  refine' enter0 (news := []) (binds := [("a", .int x tx), ("b", .int y ty)]) s.heap (fun _ _ e => e) (Nat.le_refl _) (X.keeps F.keep) (T.keeps F.keep) (fun _ h => nomatch h) ?ho ?hcd ?hroom ?hb ?hl ?_ ?c1 ?c2 ?c3 ?c4
  case ho => k_is
  case hcd => k_is
  case hroom => simp only [recursionLimit]; omega
  case hb => exact BindsTo.of_eq rfl
  case hl => exact locs rfl
  case c1 => exact rfl
  case c2 => exact rfl
  case c3 => exact rfl
  case c4 => decide
  intro L' h₁ F1 N1 l1
  dsimp only
  have X1 := X.keeps F.keep
  have T1 := T.keeps F.keep
  k_steps
  exact h _ _ _ F1.keep (Fr.stays F F1.keep) (News.stays N F1.keep)

theorem mul_call (F : Fr h₀ L s.heap m) (N : News h₀ L s.heap news) (X : (hd.heap_39 w.params).In h₀) (T : Top p loose mean mg mb h₀) (hdp : A.depth < 900) (hm : IntMulOk x y)
   (h : ∀ t h' tk', s.heap.StaysIn h' → Fr h₀ L h' m → News h₀ L h' news → Q (.int (x * y) t) { s with heap := h', toks := tk' }) :
   wpAny (model prog w) A (call (.ref 60) [.int x tx, .int y ty]) Q E s := by
  refine wpAny_call ?_
  refine' enter0 (news := []) (binds := [("a", .int x tx), ("b", .int y ty)]) s.heap (fun _ _ e => e) (Nat.le_refl _) (X.keeps F.keep) (T.keeps F.keep) (fun _ h => nomatch h) ?ho ?hcd ?hroom ?hb ?hl ?_ ?c1 ?c2 ?c3 ?c4
  case ho => k_is
  case hcd => k_is
  case hroom => simp only [recursionLimit]; omega
  case hb => exact BindsTo.of_eq rfl
  case hl => exact locs rfl
  case c1 => exact rfl
  case c2 => exact rfl
  case c3 => exact rfl
  case c4 => decide
  intro L' h₁ F1 N1 l1
  dsimp only
  have X1 := X.keeps F.keep
  have T1 := T.keeps F.keep
  repeat ((fail_if_success (with_reducible show wpAny _ _ (binaryOp Operator.Mult _ _) _ _ _)); first | (k_unfold; (try dsimp only)) | walk1 | (dsimp only; walk1))
  refine mul_int ?_ hm
  k_steps
  exact h _ _ _ F1.keep (Fr.stays F F1.keep) (News.stays N F1.keep)

theorem setitem_call {d : Addr} {vs : List Value} {ns : List Int} {n : Nat} {i : Int} {ti : Tok} {news' : List (Addr × Obj)} (F : Fr h₀ L s.heap m) (N : News h₀ L s.heap news) (X : (hd.heap_39 w.params).In h₀) (T : Top p loose mean mg mb h₀) (hdp : A.depth < 900)
   (U : Upd d (listOf vs.toArray n) (listOf (vs.set i.toNat (.int x tx)).toArray n) news news') (hin : IntsAre vs ns) (hi0 : 0 ≤ i) (hi1 : i < ns.length) (hlen : ns.length < 100000)
   (h : ∀ h' tk', (∀ a o, a ≠ d → s.heap.get? a = some o → h'.get? a = some o) → Fr h₀ L h' m → News h₀ L h' news' → IntsAre (vs.set i.toNat (.int x tx)) (ns.set i.toNat x) → Q .none { s with heap := h', toks := tk' }) :
   wpAny (model prog w) A (call (.ref 74) [.ref d, .int i ti, .int x tx]) Q E s := by
  obtain ⟨pre, post, rfl, rfl, u1, u2⟩ := U.split
  have hd := N (d, listOf vs.toArray n) (List.mem_append_right _ (.head _))
  refine wpAny_call ?_
  obtain ⟨g, st1, sz1, N1, kp, st2, X', T'⟩ := aside X T F.keep (allCons (got hd.1) allNil) (allCons hd.2.2 allNil)
  refine' enter0 (news := [(d, listOf vs.toArray n)]) (binds := [("a", .ref d), ("b", .int i ti), ("c", .int x tx)]) g st1 (Nat.le_of_eq sz1) X' T' N1 ?ho ?hcd ?hroom ?hb ?hl ?_ ?c1 ?c2 ?c3 ?c4
  case ho => k_is
  case hcd => k_is
  case hroom => simp only [recursionLimit]; omega
  case hb => exact BindsTo.of_eq rfl
  case hl => exact locs rfl
  case c1 => exact rfl
  case c2 => exact rfl
  case c3 => exact rfl
  case c4 => decide
  intro L' h₁ F1 N1' l1
  dsimp only
  k_steps
  rename News g _ _ _ => N2
  rename Fr g _ _ _ => F2
  have kb : ∀ a o, a ≠ d → s.heap.get? a = some o → _ := fun a o ha e => F2.keep _ _ (kp a o (by simpa using ha) e)
  refine h _ _ kb (Fr.but (hid := [d]) F (fun a o ha e => kb a o (fun q => ha (q ▸ .head _)) e) (fun q => hd.2.1 (List.mem_singleton.mp q).symm) (fun a ha => by cases List.mem_singleton.mp ha; exact hd.2.2)) (fun q hq => ?_) ‹_›
  rcases List.mem_append.mp hq with hq | hq
  · have n := N q (List.mem_append_left _ hq)
    exact ⟨kb _ _ (u1 q hq) n.1, n.2⟩
  · rcases List.mem_cons.mp hq with rfl | hq
    · exact ⟨News.get N2 (.head _), hd.2⟩
    · have n := N q (List.mem_append_right _ (.tail _ hq))
      exact ⟨kb _ _ (u2 q hq) n.1, n.2⟩
end
local macro_rules | `(tactic| walk_at "call ref") => `(tactic| (k_here; (with_reducible show wpAny _ _ (call (Value.ref 53) [Value.int _ _, Value.int _ _]) _ _ _); k_dflt (refine add_call (by k_asm) (by k_asm) (by k_asm) (by k_asm) (by simp only [Around.deeper]; omega) ?_; k_whole); intros; (try k_sweep); (try dsimp only)))
local macro_rules | `(tactic| walk_at "call ref") => `(tactic| (k_here; (with_reducible show wpAny _ _ (call (Value.ref 67) [Value.int _ _, Value.int _ _]) _ _ _); k_dflt (refine sub_call (by k_asm) (by k_asm) (by k_asm) (by k_asm) (by simp only [Around.deeper]; omega) ?_; k_whole); intros; (try k_sweep); (try dsimp only)))
local macro_rules | `(tactic| walk_at "call ref") => `(tactic| (k_here; (with_reducible show wpAny _ _ (call (Value.ref 60) [Value.int _ _, Value.int _ _]) _ _ _); k_dflt (refine mul_call (by k_asm) (by k_asm) (by k_asm) (by k_asm) (by simp only [Around.deeper]; omega) (by assumption) ?_; k_whole); intros; (try k_sweep); (try dsimp only)))
-- part A7
set_option maxRecDepth 100000
set_option linter.unusedVariables false
set_option maxHeartbeats 1000000

section
variable {prog : Program} {w : World} {A : Around} {s : Shared} {mg mb : Str → Option Value} {mean : ExcName → Option Value} {p : Program} {loose : List Str}
  {h₀ : Heap} {L : Addr} {m : Str → Option Value} {news : List (Addr × Obj)} {x y : Int} {tx ty : Tok} {Q E : Value → Shared → Prop}

/-- the first i figures' worth -/
def wsum (FL fs : List Int) (a : Nat) : Nat → Int
  | 0 => 0
  | i + 1 => wsum FL fs a i + fs.getD i 0 * FL.getD (i + a) 0

theorem worth_call {lf ll : Addr} {vs us : List Value} {fs FL : List Int} {a : Nat} {ta : Tok} (X : (hd.heap_39 w.params).In s.heap) (T : Top p loose mean mg mb s.heap) (hdp : A.depth < 800) (hh : A.handled = none)
   (hlf : s.heap.IsList lf vs.toArray) (hif : IntsAre vs fs) (hll : s.heap.IsList ll us.toArray) (hil : IntsAre us FL) (hlen : fs.length + a ≤ FL.length) (hsz : FL.length < 100000) (hFL : ∀ x ∈ FL, Small x 64)
   (h : ∀ t h' tk', s.heap.StaysIn h' → Q (.int (wsum FL fs a fs.length) t) { s with heap := h', toks := tk' }) :
   wpAny (model prog w) A (call (.ref 95) [.ref lf, .int a ta, .ref ll]) Q E s := by
  refine wpAny_call ?_
  refine' enter0 (news := []) (binds := [("figures", .ref lf), ("above", .int a ta), ("ladder", .ref ll)]) s.heap (fun _ _ e => e) (Nat.le_refl _) X T (fun _ h => nomatch h) ?ho ?hcd ?hroom ?hb ?hl ?_ ?c1 ?c2 ?c3 ?c4
  case ho => k_is
  case hcd => k_is
  case hroom => simp only [recursionLimit]; omega
  case hb => exact BindsTo.of_eq rfl
  case hl => exact locs rfl
  case c1 => exact rfl
  case c2 => exact rfl
  case c3 => exact rfl
  case c4 => decide
  intro L' h₁ F1 N1 l1
  dsimp only
  replace h := Hold.mk h
  refine execs_cut (fun s' => ∃ m t, At s.heap L' s [] m s' ∧ m "worth" = some (.int 0 t) ∧ m "figures" = some (.ref lf) ∧ m "above" = some (.int a ta) ∧ m "ladder" = some (.ref ll)) ?_ ?_
  · k_steps
    exact ⟨_, _, ⟨_, _, rfl, ‹_›, ‹_›⟩, rfl, rfl, rfl, rfl⟩
  rintro s1 ⟨m, t, ⟨h2, tk2, rfl, F2, N2⟩, u1, u2, u3, u4⟩
  clear F1 N1
  refine execs_cut (fun s' => ∃ m t, At s.heap L' s [] m s' ∧ m "worth" = some (.int (wsum FL fs a fs.length) t)) ?_ ?_
  · refine For_pair3F F2 hh rfl rfl rfl ?_ ?hs PassesOwn.never
    case hs => exact fun _ => rfl
    repeat ((fail_if_success (with_reducible show wpAny _ _ (call (Value.type "enumerate") _) _ _ _)); first | (k_unfold; (try dsimp only)) | walk1 | (dsimp only; walk1))
    refine call_enum_list hh hlf (IntsAre.areOf hif) ‹Fr _ _ _ _› ‹News _ _ _ _› ?_
    intro h3 e F3 N3 S
    dsimp only
    refine PairSrcL.at S _ rfl _ _ _ _ (fun i m news => (∃ t, m "worth" = some (.int (wsum FL fs a i) t)) ∧ m "figures" = some (.ref lf) ∧ m "above" = some (.int a ta) ∧ m "ladder" = some (.ref ll)) ?_ ?_ ?_
    · exact ⟨⟨_, u1⟩, u2, u3, u4⟩
    · intro i f ti v m4 news4 s4 own ⟨h4, tk4, e4⟩ hget hv ⟨⟨t4, w1⟩, w2, w3, w4⟩ hmap hoff F4 N4
      subst e4
      obtain ⟨tf, rfl⟩ := hv
      clear F3 N3 S F2 N2
      dsimp only at *
      have hi : i < fs.length := (List.getElem?_eq_some_iff.mp hget).1
      have e9 : ((i : Int) + (a : Int)).toNat = i + a := by omega
      have hFi : FL.getD ((i : Int) + (a : Int)).toNat 0 ∈ FL := by
        rw [e9, List.getD_eq_getElem?_getD, List.getElem?_eq_getElem (by omega)]
        exact List.getElem_mem _
      have hm : IntMulOk f (FL.getD ((i : Int) + (a : Int)).toNat 0) := IntMulOk.of_right (intBits_le (hFL _ hFi).1 (hFL _ hFi).2)
      have e8 : wsum FL fs a i + f * FL.getD ((i : Int) + (a : Int)).toNat 0 = wsum FL fs a (i + 1) := by
        rw [e9, wsum, List.getD_eq_getElem?_getD (l := fs), hget]
        rfl
      k_steps
      rw [e8]
      rfl
    · intro h4 tk4 m4 news4 F4 N4 hmap ⟨⟨t4, w1⟩, w2⟩
      exact ⟨rfl, ⟨_, _, ⟨_, _, rfl, F4, allNil⟩, w1⟩⟩
  rintro s1 ⟨m, t, ⟨h2, tk2, rfl, F2, N2⟩, u1⟩
  k_steps
  exact h.out _ _ _ F2.keep
end
-- part A8
set_option maxRecDepth 100000
set_option linter.unusedVariables false
set_option maxHeartbeats 1000000

def RTurn (h₀ : Heap) (L : Addr) (s : Shared) (q : Addr × Obj) (Jn : (Str → Option Value) → List (Addr × Obj) → Prop) (f : Flow) (s' : Shared) : Prop :=
  f = .next ∧ ∃ h' tk m' news', s' = { s with heap := h', toks := tk } ∧ Fr h₀ L h' m' ∧ News h₀ L h' (q :: news') ∧ (∀ p ∈ news', @Ne Nat p.1 q.1) ∧ Jn m' news'
theorem RTurn.of {h₀ h' : Heap} {L : Addr} {s : Shared} {q : Addr × Obj} {Jn : (Str → Option Value) → List (Addr × Obj) → Prop} {tk : Nat} {m' : Str → Option Value} {news' : List (Addr × Obj)}
    (F : Fr h₀ L h' m') (N : News h₀ L h' (q :: news')) (hn : ∀ p ∈ news', @Ne Nat p.1 q.1) (j : Jn m' news') : RTurn h₀ L s q Jn .next { s with heap := h', toks := tk } := ⟨rfl, h', tk, m', news', rfl, F, N, hn, j⟩

section
variable {prog : Program} {w : World} {A : Around} {s : Shared} {mg mb : Str → Option Value} {mean : ExcName → Option Value} {p : Program} {loose : List Str}
  {h₀ : Heap} {L : Addr} {m : Str → Option Value} {news : List (Addr × Obj)} {x y : Int} {tx ty : Tok}

theorem range_turns {env : Env} {x : Str} {body : List Stmt} {Q : Flow → Shared → Prop} {E : Value → Shared → Prop} {R : Addr} {n : Nat} {t u v : Tok} (hh : A.handled = none) (hR : IsRange s.heap R 0 n 1 t u v) (hn : n < 2 ^ 62)
    (F : Fr h₀ env.locals s.heap m) (N : News h₀ env.locals s.heap news) (J : Nat → (Str → Option Value) → List (Addr × Obj) → Prop) (h0 : J 0 m news)
    (step : ∀ i ti m₁ news₁ s₁ I oI, i < n → J i m₁ news₁ → Fr h₀ env.locals s₁.heap (fun y => if y = x then some (.int (i : Nat) ti) else m₁ y) → News h₀ env.locals s₁.heap ((I, oI) :: news₁) → (∀ q ∈ news₁, @Ne Nat q.1 I) →
      wpAny (model prog w) A (execs body env) (RTurn h₀ env.locals s₁ (I, oI) (J (i + 1))) E s₁)
    (done : ∀ h' tk m' news', Fr h₀ env.locals h' m' → News h₀ env.locals h' news' → J n m' news' → Q .next { s with heap := h', toks := tk }) :
    wpAny (model prog w) A (pyIter (.ref R)) (fun it s₂ => LoopAtU prog w A h₀ env x body Q E it s₂) E s := by
  have hLs : env.locals < s.heap.objs.size := F.ns.lt
  have hnone : h₀.get? s.heap.objs.size = none := Heap.get?_none_of_le (Nat.le_trans F.above (Nat.le_of_lt hLs))
  refine wpAny_pyIter_range hR (small_one (a := 0) (b := (n : Int)) (by decide) (by decide) (by omega) (by omega)) ?_
  have hrs : Builtin.Range.rangeSize 0 (n : Int) 1 = n := by rw [rangeSize_one]; split <;> omega
  rw [hrs]
  refine ⟨s.heap.objs.size, [s.heap.objs.size], [s.heap.objs.size], n, _, _, m, news, J, rfl, Walks.range hh s.heap.objs.size 0 1 n, ?_, ?_, ?_, ?_, F.push _, fun q hq => ⟨Heap.get?_push_of_some _ (N q hq).1, (N q hq).2⟩, h0, ?_, ?_⟩
  · exact notIn_one (Nat.ne_of_lt hLs)
  · intro b hb
    cases List.mem_singleton.mp hb
    exact hnone
  · intro q hq
    exact notIn_one (Nat.ne_of_lt (Heap.lt_size (N q hq).1))
  · have e1 : (0 + ((0 : Nat) : Int) * 1) = 0 := by simp
    have e2 : ((n : Int) - ((0 : Nat) : Int)) = n := by simp
    show IsRangeIter _ _ _ _ _
    rw [e1, e2]
    exact Heap.get?_push_size _ rfl
  · intro i v m₁ news₁ s₁ own hi hP hJ hoff hsub hget hin hst F₁ N₁
    obtain ⟨ti, rfl⟩ := hP
    have e1 : (0 + (i : Int) * 1) = (i : Int) := by omega
    rw [e1] at F₁
    have hI : s₁.heap.get? s.heap.objs.size = some _ := hst
    have NI : News h₀ env.locals s₁.heap ((s.heap.objs.size, _) :: news₁) := allCons ⟨hI, fun e => (Nat.ne_of_lt hLs) e.symm, hnone⟩ (News.right N₁)
    refine wpAny_mono (step i ti m₁ news₁ s₁ _ _ hi hJ F₁ NI (fun q hq e => hoff q hq (e ▸ .head _))) (fun f s₂ h₂ => ?_) fun _ _ x => x
    obtain ⟨rfl, h', tk, m', news', rfl, F', N', hn', j⟩ := h₂
    refine ⟨rfl, h', tk, m', news', rfl, F', fun q hq => ?_, fun q hq => notIn_one (hn' q hq), j⟩
    rcases List.mem_append.mp hq with hq | hq
    · have hq1 : q.1 = s.heap.objs.size := List.mem_singleton.mp (hsub q hq)
      have hq2 := hget q hq
      rw [hq1, hI] at hq2
      have := N' _ (.head _)
      obtain ⟨q1, q2⟩ := q
      cases hq1
      cases hq2
      exact this
    · exact N' q (.tail _ hq)
  · intro h' tk m' news' F' N' _ j
    exact done h' tk m' news' F' N' j

theorem item_neg {Q E : Value → Shared → Prop} {value slice : PySem.Expr} {l : Addr} {vs : List Value} {ns : List Int} {k : Int} {u : Tok} (hl : s.heap.IsList l vs.toArray) (hi : IntsAre vs ns)
    (h0 : k < 0) (h1 : -(ns.length : Int) ≤ k) (hfit : -(2 ^ 63) ≤ k) (h : ∀ t, Q (.int (ns.getD (k + ns.length).toNat 0) t) s)
    (hs : subscripted slice false (.ref l) (.int k u) = operate [.ref l, .int k u] (getItem (.ref l) (.int k u)) := by with_unfolding_all rfl) :
    wpAny (model prog w) A (subscriptTail value slice (.ref l) (.int k u)) Q E s := by
  have hlen : vs.length = ns.length := hi.length
  have hj : (k + ns.length).toNat < ns.length := by omega
  obtain ⟨t, hx⟩ := hi.get (k + ns.length).toNat _ (getD_of_lt _ hj)
  refine tail_any hl.typeIs slot_list_getitem.lookup (wpAny_getItem_list_neg hl h0 (by rw [List.size_toArray, hlen]; exact h1) hfit (x := .int (ns.getD (k + ns.length).toNat 0) t) ?_ (h t)) hs
  rw [List.size_toArray, hlen]
  simpa using hx

theorem ints_snoc {x : Int} {t : Tok} : ∀ {vs : List Value} {ns : List Int}, IntsAre vs ns → IntsAre (vs ++ [.int x t]) (ns ++ [x])
  | _, _, .nil => .cons _ _ .nil
  | _, _, .cons _ _ h => .cons _ _ (ints_snoc h)

theorem ladder_call {Q E : Value → Shared → Prop} (X : (hd.heap_39 w.params).In s.heap) (T : Top p loose mean mg mb s.heap) (hdp : A.depth < 800) (hh : A.handled = none)
   (h : ∀ h' r vs n' tk', s.heap.StaysIn h' → s.heap.get? r = none → h'.get? r = some (listOf vs.toArray n') → IntsAre vs FL → Q (.ref r) { s with heap := h', toks := tk' }) :
   wpAny (model prog w) A (call (.ref 81) []) Q E s := by
  refine wpAny_call ?_
  refine' enter0 (news := []) (binds := []) s.heap (fun _ _ e => e) (Nat.le_refl _) X T (fun _ h => nomatch h) ?ho ?hcd ?hroom ?hb ?hl ?_ ?c1 ?c2 ?c3 ?c4
  case ho => k_is
  case hcd => k_is
  case hroom => simp only [recursionLimit]; omega
  case hb => exact BindsTo.of_eq rfl
  case hl => exact locs rfl
  case c1 => exact rfl
  case c2 => exact rfl
  case c3 => exact rfl
  case c4 => decide
  intro L' h₁ F1 N1 l1
  dsimp only
  replace h := Hold.mk h
  have hfl : (List.range 46).all (fun i => decide ((FL.take (i + 2)).length = i + 2 ∧ (FL.take (i + 2)).getD i 0 + (FL.take (i + 2)).getD (i + 1) 0 = FL.getD (i + 2) 0 ∧ FL.take (i + 1 + 2) = FL.take (i + 2) ++ [FL.getD (i + 2) 0])) = true := by decide +kernel
  repeat ((fail_if_success (with_reducible show wpAny _ _ (execs (Stmt.For _ _ _ _ _ :: _) _) _ _ _)); first | (k_unfold; (try dsimp only)) | walk1 | (dsimp only; walk1))
  refine execs_cut (fun s' => ∃ (d : Nat) (m : Str → Option Value) (vs : List Value) (n' : Nat), At s.heap L' s [(d, listOf vs.toArray n')] m s' ∧ m "ladder" = some (.ref d) ∧ IntsAre vs FL) ?_ ?_
  · rename News _ _ _ _ => N2
    rename Fr _ _ _ _ => F2
    refine For_invU s.heap rfl rfl ?_ (fun _ => rfl) PassesOwn.never
    k_steps
    rename News _ _ _ _ => N3
    rename Fr _ _ _ _ => F3
    rename IsRange _ _ _ _ _ _ _ _ => R3
    refine range_turns (n := 46) hh R3 (by decide) F3 N3 (fun i m news => ∃ (d : Nat) (vs : List Value) (n' : Nat), news = [(d, listOf vs.toArray n')] ∧ m "ladder" = some (.ref d) ∧ IntsAre vs (FL.take (i + 2))) ?_ ?_ ?_
    · exact ⟨_, [_, _], _, rfl, rfl, .cons _ _ (.cons _ _ .nil)⟩
    · rintro i ti m₁ news₁ s₁ I oI hi ⟨d, vs, n', rfl, u1, u2⟩ F4 N4 hoff
      have hoff' : @Ne Nat d I := hoff _ (.head _)
      (try clear F3); (try clear N3); (try clear R3); (try clear F2); (try clear N2)
      have hq := of_decide_eq_true (List.all_eq_true.mp hfl i (List.mem_range.mpr (by omega)))
      obtain ⟨hlen, hq1, hq2⟩ := hq
      rw [hq2]
      have hvl := u2.length
      generalize FL.take (i + 2) = ns at *
      clear hfl hq2
      repeat ((fail_if_success (with_reducible show wpAny _ _ (subscriptTail _ _ _ _) _ _ _)); first | (k_unfold; (try dsimp only)) | walk1 | (dsimp only; walk1))
      rename News _ _ _ _ => N5
      refine item_neg (IsL.isList (n := n') (N5 _ (.tail _ (.head _))).1) u2 (by decide) (by omega) (by decide) ?_
      intro t5
      repeat ((fail_if_success (with_reducible show wpAny _ _ (subscriptTail _ _ _ _) _ _ _)); first | (k_unfold; (try dsimp only)) | walk1 | (dsimp only; walk1))
      rename News _ _ _ _ => N6
      refine item_neg (IsL.isList (n := n') (N6 _ (.tail _ (.head _))).1) u2 (by decide) (by omega) (by decide) ?_
      intro t6
      rw [show (-2 + (ns.length : Int)).toNat = i by omega, show (-1 + (ns.length : Int)).toNat = i + 1 by omega]
      repeat ((fail_if_success (with_reducible show wpAny _ _ (call (Value.builtin _) _) _ _ _)); first | (k_unfold; (try dsimp only)) | walk1 | (dsimp only; walk1))
      rw [hq1]
      generalize FL.getD (i + 2) 0 = z at *
      k_steps
      rename News _ _ _ _ => N8
      rename Fr _ _ _ _ => F8
      simp only [List.push_toArray] at N8
      exact RTurn.of F8 N8 (allCons hoff' allNil) ⟨_, _, _, rfl, u1, ints_snoc u2⟩
    · rintro h7 tk7 m7 news7 F7 N7 ⟨d, vs, n', rfl, u1, u2⟩
      exact ⟨rfl, ⟨_, _, _, _, ⟨_, _, rfl, F7, N7⟩, u1, u2⟩⟩
  rintro s1 ⟨d, m, vs, n', ⟨h2, tk2, rfl, F2, N2⟩, u1, u2⟩
  k_steps
  exact h.out _ _ _ _ _ F2.keep (N2 _ (.head _)).2.2 (News.get N2 (.head _)) u2
end
-- part A9
set_option maxRecDepth 100000
set_option linter.unusedVariables false
set_option maxHeartbeats 1000000

section
variable {prog : Program} {w : World} {A : Around} {s : Shared} {mg mb : Str → Option Value} {mean : ExcName → Option Value} {p : Program} {loose : List Str}

theorem half_in2 {lo hi : Int} (h : lo < hi) : lo ≤ (lo + hi).fdiv 2 ∧ (lo + hi).fdiv 2 < hi ∧ ((lo + hi).fdiv 2 - lo).toNat < (hi - lo).toNat ∧ (hi - ((lo + hi).fdiv 2 + 1)).toNat < (hi - lo).toNat := by
  rw [Int.fdiv_eq_ediv_of_nonneg _ (by decide)]
  omega
theorem bisR_list2 {l : Addr} {vs : List Value} {ns : List Int} {args : List Value} {x lo hi q : Int} {tx tl : Tok} {hv : Value} {Q E : Value → Shared → Prop}
   (X : (hd.heap_39 w.params).In s.heap) (T : Top p loose mean mg mb s.heap) (hdp : A.depth < 900)
   (hb : ∀ oc od fd osl, (hd.heap_39 w.params).lookup 23 = some ⟨oc, od, .func fd, osl⟩ → BindsTo s fd ⟨args, []⟩ [("a", .ref l), ("x", .int x tx), ("lo", .int lo tl), ("hi", hv), ("key", .none)])
   (hl : s.heap.IsList l vs.toArray) (hin : IntsAre vs ns) (h0 : 0 ≤ lo) (hvh : (hv = .none ∧ hi = ns.length) ∨ ∃ t, hv = .int hi t) (hlen : hi ≤ ns.length) (hsz : ns.length < 1000000)
   (hq : lo ≤ q ∧ q ≤ hi) (hlow : ∀ i : Nat, lo ≤ i → (i : Int) < q → ∀ y, ns[i]? = some y → y ≤ x) (hhigh : ∀ i : Nat, q ≤ i → (i : Int) < hi → ∀ y, ns[i]? = some y → x < y)
   (h : ∀ t h' tk', s.heap.StaysIn h' → Q (.int q t) { s with heap := h', toks := tk' }) :
   wpAny (model prog w) A (call (.ref 23) args) Q E s := by
  refine wpAny_call ?_
  refine' enter0 (news := []) (binds := [("a", .ref l), ("x", .int x tx), ("lo", .int lo tl), ("hi", hv), ("key", .none)]) s.heap (fun _ _ e => e) (Nat.le_refl _) X T (fun _ h => nomatch h) ?ho ?hcd ?hroom ?hb ?hl ?_ ?c1 ?c2 ?c3 ?c4
  case ho => k_is
  case hb => exact hb _ _ _ _ (by k_is)
  case hcd => k_is
  case hroom => simp only [recursionLimit]; omega
  case hl => exact locs rfl
  case c1 => exact rfl
  case c2 => exact rfl
  case c3 => exact rfl
  case c4 => decide
  intro L' h₁ F N l1
  dsimp only

  refine execs_cut (fun s' => ∃ m, At s.heap L' s [] m s' ∧ (m "key" = some .none ∧ m "hi" = some hv ∧ m "lo" = some (.int lo tl) ∧ m "x" = some (.int x tx) ∧ m "a" = some (.ref l))) ?_ ?_
  · walk1
    k_steps
    exact ⟨_, ⟨_, _, rfl, F, N⟩, rfl, rfl, rfl, rfl, rfl⟩
  rintro s1 ⟨m2, ⟨h2, tk2, rfl, F2, N2⟩, u1, u2, u3, u4, u5⟩
  clear F N
  refine execs_cut (fun s' => ∃ m th, At s.heap L' s [] m s' ∧ (m "key" = some .none ∧ m "hi" = some (.int hi th) ∧ m "lo" = some (.int lo tl) ∧ m "x" = some (.int x tx) ∧ m "a" = some (.ref l))) ?_ ?_
  · rcases hvh with ⟨rfl, rfl⟩ | ⟨th, rfl⟩
    · walk1
      k_steps
      exact ⟨_, _, ⟨_, _, rfl, by assumption, by assumption⟩, by assumption, rfl, by assumption, by assumption, by assumption⟩
    · walk1
      k_steps
      exact ⟨_, _, ⟨_, _, rfl, by assumption, by assumption⟩, by assumption, by assumption, by assumption, by assumption, by assumption⟩
  rintro s1 ⟨m3, th, ⟨h3, tk3, rfl, F3, N3⟩, u1, u2, u3, u4, u5⟩
  clear F2 N2
  refine execs_cut (fun s' => ∃ m tq, At s.heap L' s [] m s' ∧ m "lo" = some (.int q tq)) ?_ ?_
  · walk1
    repeat ((fail_if_success (with_reducible show wpAny _ _ (exec (Stmt.While _ _ _ _) _) _ _ _)); first | (k_unfold; (try dsimp only)) | walk1 | (dsimp only; walk1))
    refine while_at (σ := Int × Int) (fun c news m => news = [] ∧ (lo ≤ c.1 ∧ c.1 ≤ q ∧ q ≤ c.2 ∧ c.2 ≤ hi) ∧ m "key" = some .none ∧ m "x" = some (.int x tx) ∧ m "a" = some (.ref l) ∧ (∃ t, m "hi" = some (.int c.2 t)) ∧ (∃ t, m "lo" = some (.int c.1 t))) (fun c => (c.2 - c.1).toNat) (lo, hi) F3 N3 ⟨rfl, ⟨Int.le_refl _, hq.1, hq.2, Int.le_refl _⟩, u1, u4, u5, ⟨_, u2⟩, ⟨_, u3⟩⟩ ?_ PassesOwn.never
    rintro ⟨lo', hi'⟩ news m h4 tk4 F4 N4 ⟨rfl, ⟨i1, i2, i3, i4⟩, w1, w2, w3, ⟨th', w4⟩, ⟨tl', w5⟩⟩
    dsimp only at *
    clear u1 u2 u3 u4 u5 F3 N3
    have hfd := Int.fdiv_eq_ediv_of_nonneg (lo' + hi') (show (0:Int) ≤ 2 by omega)
    k_steps
    · obtain ⟨k1, k2, k3, k4⟩ := half_in2 ‹lo' < hi'›
      clear hfd
      generalize (lo' + hi').fdiv 2 = md at *
      refine' WTurn.of (lo', md) ?F ?N ?_ k3
      case F => assumption
      case N => assumption
      clear k3 k4
      refine ⟨rfl, ⟨by omega, by omega, ?_, by omega⟩, w1, w2, w3, ⟨_, rfl⟩, ⟨_, w5⟩⟩
      refine Int.not_lt.mp fun hlt => ?_
      have := hlow md.toNat (by omega) (by omega) _ (getD_of_lt _ (by omega))
      omega
    · obtain ⟨k1, k2, k3, k4⟩ := half_in2 ‹lo' < hi'›
      clear hfd
      generalize (lo' + hi').fdiv 2 = md at *
      refine' WTurn.of (md + 1, hi') ?F ?N ?_ k4
      case F => assumption
      case N => assumption
      clear k3 k4
      refine ⟨rfl, ⟨by omega, ?_, by omega, by omega⟩, w1, w2, w3, ⟨_, w4⟩, ⟨_, rfl⟩⟩
      refine Int.not_lt.mp fun hlt => ?_
      have := hhigh md.toNat (by omega) (by omega) _ (getD_of_lt _ (by omega))
      omega
    · obtain rfl : lo' = q := by omega
      exact ⟨_, _, ⟨_, _, rfl, F4, N4⟩, w5⟩
  rintro s1 ⟨m, tq, ⟨h4, tk4, rfl, F4, N4⟩, hm⟩
  walk1
  k_steps
  exact h _ _ _ F4.keep

theorem bisL_list {l : Addr} {vs : List Value} {ns : List Int} {args : List Value} {x lo hi q : Int} {tx tl : Tok} {hv : Value} {Q E : Value → Shared → Prop}
   (X : (hd.heap_39 w.params).In s.heap) (T : Top p loose mean mg mb s.heap) (hdp : A.depth < 900)
   (hb : ∀ oc od fd osl, (hd.heap_39 w.params).lookup 32 = some ⟨oc, od, .func fd, osl⟩ → BindsTo s fd ⟨args, []⟩ [("a", .ref l), ("x", .int x tx), ("lo", .int lo tl), ("hi", hv), ("key", .none)])
   (hl : s.heap.IsList l vs.toArray) (hin : IntsAre vs ns) (h0 : 0 ≤ lo) (hvh : (hv = .none ∧ hi = ns.length) ∨ ∃ t, hv = .int hi t) (hlen : hi ≤ ns.length) (hsz : ns.length < 1000000)
   (hq : lo ≤ q ∧ q ≤ hi) (hlow : ∀ i : Nat, lo ≤ i → (i : Int) < q → ∀ y, ns[i]? = some y → y < x) (hhigh : ∀ i : Nat, q ≤ i → (i : Int) < hi → ∀ y, ns[i]? = some y → x ≤ y)
   (h : ∀ t h' tk', s.heap.StaysIn h' → Q (.int q t) { s with heap := h', toks := tk' }) :
   wpAny (model prog w) A (call (.ref 32) args) Q E s := by
  refine wpAny_call ?_
  refine' enter0 (news := []) (binds := [("a", .ref l), ("x", .int x tx), ("lo", .int lo tl), ("hi", hv), ("key", .none)]) s.heap (fun _ _ e => e) (Nat.le_refl _) X T (fun _ h => nomatch h) ?ho ?hcd ?hroom ?hb ?hl ?_ ?c1 ?c2 ?c3 ?c4
  case ho => k_is
  case hb => exact hb _ _ _ _ (by k_is)
  case hcd => k_is
  case hroom => simp only [recursionLimit]; omega
  case hl => exact locs rfl
  case c1 => exact rfl
  case c2 => exact rfl
  case c3 => exact rfl
  case c4 => decide
  intro L' h₁ F N l1
  dsimp only

  refine execs_cut (fun s' => ∃ m, At s.heap L' s [] m s' ∧ (m "key" = some .none ∧ m "hi" = some hv ∧ m "lo" = some (.int lo tl) ∧ m "x" = some (.int x tx) ∧ m "a" = some (.ref l))) ?_ ?_
  · walk1
    k_steps
    exact ⟨_, ⟨_, _, rfl, F, N⟩, rfl, rfl, rfl, rfl, rfl⟩
  rintro s1 ⟨m2, ⟨h2, tk2, rfl, F2, N2⟩, u1, u2, u3, u4, u5⟩
  clear F N
  refine execs_cut (fun s' => ∃ m th, At s.heap L' s [] m s' ∧ (m "key" = some .none ∧ m "hi" = some (.int hi th) ∧ m "lo" = some (.int lo tl) ∧ m "x" = some (.int x tx) ∧ m "a" = some (.ref l))) ?_ ?_
  · rcases hvh with ⟨rfl, rfl⟩ | ⟨th, rfl⟩
    · walk1
      k_steps
      exact ⟨_, _, ⟨_, _, rfl, by assumption, by assumption⟩, by assumption, rfl, by assumption, by assumption, by assumption⟩
    · walk1
      k_steps
      exact ⟨_, _, ⟨_, _, rfl, by assumption, by assumption⟩, by assumption, by assumption, by assumption, by assumption, by assumption⟩
  rintro s1 ⟨m3, th, ⟨h3, tk3, rfl, F3, N3⟩, u1, u2, u3, u4, u5⟩
  clear F2 N2
  refine execs_cut (fun s' => ∃ m tq, At s.heap L' s [] m s' ∧ m "lo" = some (.int q tq)) ?_ ?_
  · walk1
    repeat ((fail_if_success (with_reducible show wpAny _ _ (exec (Stmt.While _ _ _ _) _) _ _ _)); first | (k_unfold; (try dsimp only)) | walk1 | (dsimp only; walk1))
    refine while_at (σ := Int × Int) (fun c news m => news = [] ∧ (lo ≤ c.1 ∧ c.1 ≤ q ∧ q ≤ c.2 ∧ c.2 ≤ hi) ∧ m "key" = some .none ∧ m "x" = some (.int x tx) ∧ m "a" = some (.ref l) ∧ (∃ t, m "hi" = some (.int c.2 t)) ∧ (∃ t, m "lo" = some (.int c.1 t))) (fun c => (c.2 - c.1).toNat) (lo, hi) F3 N3 ⟨rfl, ⟨Int.le_refl _, hq.1, hq.2, Int.le_refl _⟩, u1, u4, u5, ⟨_, u2⟩, ⟨_, u3⟩⟩ ?_ PassesOwn.never
    rintro ⟨lo', hi'⟩ news m h4 tk4 F4 N4 ⟨rfl, ⟨i1, i2, i3, i4⟩, w1, w2, w3, ⟨th', w4⟩, ⟨tl', w5⟩⟩
    dsimp only at *
    clear u1 u2 u3 u4 u5 F3 N3
    have hfd := Int.fdiv_eq_ediv_of_nonneg (lo' + hi') (show (0:Int) ≤ 2 by omega)
    k_steps
    · obtain ⟨k1, k2, k3, k4⟩ := half_in2 ‹lo' < hi'›
      clear hfd
      generalize (lo' + hi').fdiv 2 = md at *
      refine' WTurn.of (md + 1, hi') ?F ?N ?_ k4
      case F => assumption
      case N => assumption
      clear k3 k4
      refine ⟨rfl, ⟨by omega, ?_, by omega, by omega⟩, w1, w2, w3, ⟨_, w4⟩, ⟨_, rfl⟩⟩
      refine Int.not_lt.mp fun hlt => ?_
      have := hhigh md.toNat (by omega) (by omega) _ (getD_of_lt _ (by omega))
      omega
    · obtain ⟨k1, k2, k3, k4⟩ := half_in2 ‹lo' < hi'›
      clear hfd
      generalize (lo' + hi').fdiv 2 = md at *
      refine' WTurn.of (lo', md) ?F ?N ?_ k3
      case F => assumption
      case N => assumption
      clear k3 k4
      refine ⟨rfl, ⟨by omega, by omega, ?_, by omega⟩, w1, w2, w3, ⟨_, rfl⟩, ⟨_, w5⟩⟩
      refine Int.not_lt.mp fun hlt => ?_
      have := hlow md.toNat (by omega) (by omega) _ (getD_of_lt _ (by omega))
      omega
    · obtain rfl : lo' = q := by omega
      exact ⟨_, _, ⟨_, _, rfl, F4, N4⟩, w5⟩
  rintro s1 ⟨m, tq, ⟨h4, tk4, rfl, F4, N4⟩, hm⟩
  walk1
  k_steps
  exact h _ _ _ F4.keep

theorem bisR_range {r kf : Addr} {n : Nat} {kv : Nat → Int} {x q : Int} {tx t1 t2 t3 : Tok} {Q E : Value → Shared → Prop}
   (X : (hd.heap_39 w.params).In s.heap) (T : Top p loose mean mg mb s.heap) (hdp : A.depth < 900)
   (hr : IsRange s.heap r 0 n 1 t1 t2 t3) (hk : FnAt kf s.heap) (hn : n < 2 ^ 60)
   (hkey : ∀ (A' : Around) (s' : Shared) (i : Nat) (ti : Tok) (Q' : Value → Shared → Prop) (E' : Value → Shared → Prop), A'.depth ≤ A.depth + 1 → s.heap.StaysIn s'.heap → i < n →
     (∀ t h' tk', s'.heap.StaysIn h' → Q' (.int (kv i) t) { s' with heap := h', toks := tk' }) → wpAny (model prog w) A' (call (.ref kf) [.int i ti]) Q' E' s')
   (hq : 0 ≤ q ∧ q ≤ n) (hlow : ∀ i : Nat, (i : Int) < q → kv i ≤ x) (hhigh : ∀ i : Nat, q ≤ i → i < n → x < kv i)
   (h : ∀ t h' tk', s.heap.StaysIn h' → Q (.int q t) { s with heap := h', toks := tk' }) :
   wpAny (model prog w) A (call (.ref 23) [.ref r, .int x tx] [("key", .ref kf)]) Q E s := by
  refine wpAny_call ?_
  refine' enter0 (news := []) (binds := [("a", .ref r), ("x", .int x tx), ("lo", .int 0 189), ("hi", .none), ("key", .ref kf)]) s.heap (fun _ _ e => e) (Nat.le_refl _) X T (fun _ h => nomatch h) ?ho ?hcd ?hroom ?hb ?hl ?_ ?c1 ?c2 ?c3 ?c4
  case ho => k_is
  case hb => exact kp_binds X (fun S => rfl)
  case hcd => k_is
  case hroom => simp only [recursionLimit]; omega
  case hl => exact locs rfl
  case c1 => exact rfl
  case c2 => exact rfl
  case c3 => exact rfl
  case c4 => decide
  intro L' h₁ F N l1
  dsimp only

  have hrs : Builtin.Range.rangeSize 0 (n : Int) 1 = n := by rw [rangeSize_one]; split <;> omega
  replace h := Hold.mk h
  replace hkey := Hold.mk hkey
  refine execs_cut (fun s' => ∃ m tl, At s.heap L' s [] m s' ∧ (m "key" = some (.ref kf) ∧ m "hi" = some .none ∧ m "lo" = some (.int 0 tl) ∧ m "x" = some (.int x tx) ∧ m "a" = some (.ref r))) ?_ ?_
  · walk1
    k_steps
    exact ⟨_, _, ⟨_, _, rfl, F, N⟩, rfl, rfl, rfl, rfl, rfl⟩
  rintro s1 ⟨m2, tl, ⟨h2, tk2, rfl, F2, N2⟩, u1, u2, u3, u4, u5⟩
  clear F N
  refine execs_cut (fun s' => ∃ m th, At s.heap L' s [] m s' ∧ (m "key" = some (.ref kf) ∧ m "hi" = some (.int n th) ∧ m "lo" = some (.int 0 tl) ∧ m "x" = some (.int x tx) ∧ m "a" = some (.ref r))) ?_ ?_
  · walk1
    repeat ((fail_if_success (with_reducible show wpAny _ _ (call (Value.builtin _) _) _ _ _)); first | (k_unfold; (try dsimp only)) | walk1 | (dsimp only; walk1))
    refine call_len_range (show IsRange _ _ _ _ _ _ _ _ from Fr.keep ‹Fr _ _ _ _› _ _ hr) hrs (by omega) ?_
    k_steps
    exact ⟨_, _, ⟨_, _, rfl, by assumption, by assumption⟩, by assumption, rfl, by assumption, by assumption, by assumption⟩
  rintro s1 ⟨m3, th, ⟨h3, tk3, rfl, F3, N3⟩, u1, u2, u3, u4, u5⟩
  clear F2 N2
  refine execs_cut (fun s' => ∃ m tq, At s.heap L' s [] m s' ∧ m "lo" = some (.int q tq)) ?_ ?_
  · walk1
    repeat ((fail_if_success (with_reducible show wpAny _ _ (exec (Stmt.While _ _ _ _) _) _ _ _)); first | (k_unfold; (try dsimp only)) | walk1 | (dsimp only; walk1))
    refine while_at (σ := Int × Int) (fun c news m => news = [] ∧ (0 ≤ c.1 ∧ c.1 ≤ q ∧ q ≤ c.2 ∧ c.2 ≤ n) ∧ m "key" = some (.ref kf) ∧ m "x" = some (.int x tx) ∧ m "a" = some (.ref r) ∧ (∃ t, m "hi" = some (.int c.2 t)) ∧ (∃ t, m "lo" = some (.int c.1 t))) (fun c => (c.2 - c.1).toNat) (0, n) F3 N3 ⟨rfl, ⟨Int.le_refl _, hq.1, hq.2, Int.le_refl _⟩, u1, u4, u5, ⟨_, u2⟩, ⟨_, u3⟩⟩ ?_ PassesOwn.never
    rintro ⟨lo', hi'⟩ news m h4 tk4 F4 N4 ⟨rfl, ⟨i1, i2, i3, i4⟩, w1, w2, w3, ⟨th', w4⟩, ⟨tl', w5⟩⟩
    dsimp only at *
    clear u1 u2 u3 u4 u5 F3 N3
    have hfd := Int.fdiv_eq_ediv_of_nonneg (lo' + hi') (show (0:Int) ≤ 2 by omega)
    repeat ((fail_if_success (with_reducible show wpAny _ _ (callWith _ (Value.ref _) _ _ _) _ _ _)); first | (k_unfold; (try dsimp only)) | walk1 | (dsimp only; walk1))
    rotate_left
    · k_steps
      obtain rfl : lo' = q := by omega
      exact ⟨_, _, ⟨_, _, rfl, F4, N4⟩, w5⟩
    obtain ⟨k1, k2, k3, k4⟩ := half_in2 ‹lo' < hi'›
    clear hfd
    generalize (lo' + hi').fdiv 2 = md at *
    replace k3 := Hold.mk k3
    replace k4 := Hold.mk k4
    have hkk : ∀ {h' : Heap}, s.heap.StaysIn h' → FnAt kf h' := fun st => by
      obtain ⟨oc, od, fd, sl, e⟩ := hk
      exact ⟨oc, od, fd, sl, st _ _ e⟩
    refine callWith_F (hkk (Fr.keep ‹Fr _ _ _ _›)) ?_
    repeat ((fail_if_success (with_reducible show wpAny _ _ (subscriptTail _ _ _ _) _ _ _)); first | (k_unfold; (try dsimp only)) | walk1 | (dsimp only; walk1))
    refine item_range (show IsRange _ _ _ _ _ _ _ _ from Fr.keep ‹Fr _ _ _ _› _ _ hr) (by omega) (by omega) ?_
    intro t7
    dsimp only
    k_steps
    · exact hkk (Fr.keep ‹Fr _ _ _ _›)
    rename Fr _ _ _ _ => F5
    rename News _ _ _ _ => N5
    have hmid : md = (md.toNat : Nat) := (Int.toNat_of_nonneg (Int.le_trans i1 k1)).symm

    rw [hmid]
    refine hkey.out _ _ _ _ _ _ (Nat.le_refl _) F5.keep (by omega) ?_
    intro t8 h8 tk8 st8
    replace F5 := Fr.stays F5 st8
    replace N5 := News.stays N5 st8
    dsimp only
    k_steps
    · refine' WTurn.of (lo', md) ?F ?N ?_ k3.out
      case F => assumption
      case N => assumption
      refine ⟨rfl, ⟨by omega, by omega, ?_, by omega⟩, w1, w2, w3, ⟨_, rfl⟩, ⟨_, w5⟩⟩
      refine Int.not_lt.mp fun hlt => ?_
      have := hlow md.toNat (by omega)
      omega
    · refine' WTurn.of (md + 1, hi') ?F ?N ?_ k4.out
      case F => assumption
      case N => assumption
      refine ⟨rfl, ⟨by omega, ?_, by omega, by omega⟩, w1, w2, w3, ⟨_, w4⟩, ⟨_, rfl⟩⟩
      refine Int.not_lt.mp fun hlt => ?_
      have := hhigh md.toNat (by omega) (by omega)
      omega

  rintro s1 ⟨m, tq, ⟨h4, tk4, rfl, F4, N4⟩, hm⟩
  walk1
  k_steps
  exact h.out _ _ _ F4.keep

theorem bisL_range {r kf : Addr} {n : Nat} {kv : Nat → Int} {x q : Int} {tx t1 t2 t3 : Tok} {Q E : Value → Shared → Prop}
   (X : (hd.heap_39 w.params).In s.heap) (T : Top p loose mean mg mb s.heap) (hdp : A.depth < 900)
   (hr : IsRange s.heap r 0 n 1 t1 t2 t3) (hk : FnAt kf s.heap) (hn : n < 2 ^ 60)
   (hkey : ∀ (A' : Around) (s' : Shared) (i : Nat) (ti : Tok) (Q' : Value → Shared → Prop) (E' : Value → Shared → Prop), A'.depth ≤ A.depth + 1 → s.heap.StaysIn s'.heap → i < n →
     (∀ t h' tk', s'.heap.StaysIn h' → Q' (.int (kv i) t) { s' with heap := h', toks := tk' }) → wpAny (model prog w) A' (call (.ref kf) [.int i ti]) Q' E' s')
   (hq : 0 ≤ q ∧ q ≤ n) (hlow : ∀ i : Nat, (i : Int) < q → kv i < x) (hhigh : ∀ i : Nat, q ≤ i → i < n → x ≤ kv i)
   (h : ∀ t h' tk', s.heap.StaysIn h' → Q (.int q t) { s with heap := h', toks := tk' }) :
   wpAny (model prog w) A (call (.ref 32) [.ref r, .int x tx] [("key", .ref kf)]) Q E s := by
  refine wpAny_call ?_
  refine' enter0 (news := []) (binds := [("a", .ref r), ("x", .int x tx), ("lo", .int 0 203), ("hi", .none), ("key", .ref kf)]) s.heap (fun _ _ e => e) (Nat.le_refl _) X T (fun _ h => nomatch h) ?ho ?hcd ?hroom ?hb ?hl ?_ ?c1 ?c2 ?c3 ?c4
  case ho => k_is
  case hb => exact kp_binds X (fun S => rfl)
  case hcd => k_is
  case hroom => simp only [recursionLimit]; omega
  case hl => exact locs rfl
  case c1 => exact rfl
  case c2 => exact rfl
  case c3 => exact rfl
  case c4 => decide
  intro L' h₁ F N l1
  dsimp only

  have hrs : Builtin.Range.rangeSize 0 (n : Int) 1 = n := by rw [rangeSize_one]; split <;> omega
  replace h := Hold.mk h
  replace hkey := Hold.mk hkey
  refine execs_cut (fun s' => ∃ m tl, At s.heap L' s [] m s' ∧ (m "key" = some (.ref kf) ∧ m "hi" = some .none ∧ m "lo" = some (.int 0 tl) ∧ m "x" = some (.int x tx) ∧ m "a" = some (.ref r))) ?_ ?_
  · walk1
    k_steps
    exact ⟨_, _, ⟨_, _, rfl, F, N⟩, rfl, rfl, rfl, rfl, rfl⟩
  rintro s1 ⟨m2, tl, ⟨h2, tk2, rfl, F2, N2⟩, u1, u2, u3, u4, u5⟩
  clear F N
  refine execs_cut (fun s' => ∃ m th, At s.heap L' s [] m s' ∧ (m "key" = some (.ref kf) ∧ m "hi" = some (.int n th) ∧ m "lo" = some (.int 0 tl) ∧ m "x" = some (.int x tx) ∧ m "a" = some (.ref r))) ?_ ?_
  · walk1
    repeat ((fail_if_success (with_reducible show wpAny _ _ (call (Value.builtin _) _) _ _ _)); first | (k_unfold; (try dsimp only)) | walk1 | (dsimp only; walk1))
    refine call_len_range (show IsRange _ _ _ _ _ _ _ _ from Fr.keep ‹Fr _ _ _ _› _ _ hr) hrs (by omega) ?_
    k_steps
    exact ⟨_, _, ⟨_, _, rfl, by assumption, by assumption⟩, by assumption, rfl, by assumption, by assumption, by assumption⟩
  rintro s1 ⟨m3, th, ⟨h3, tk3, rfl, F3, N3⟩, u1, u2, u3, u4, u5⟩
  clear F2 N2
  refine execs_cut (fun s' => ∃ m tq, At s.heap L' s [] m s' ∧ m "lo" = some (.int q tq)) ?_ ?_
  · walk1
    repeat ((fail_if_success (with_reducible show wpAny _ _ (exec (Stmt.While _ _ _ _) _) _ _ _)); first | (k_unfold; (try dsimp only)) | walk1 | (dsimp only; walk1))
    refine while_at (σ := Int × Int) (fun c news m => news = [] ∧ (0 ≤ c.1 ∧ c.1 ≤ q ∧ q ≤ c.2 ∧ c.2 ≤ n) ∧ m "key" = some (.ref kf) ∧ m "x" = some (.int x tx) ∧ m "a" = some (.ref r) ∧ (∃ t, m "hi" = some (.int c.2 t)) ∧ (∃ t, m "lo" = some (.int c.1 t))) (fun c => (c.2 - c.1).toNat) (0, n) F3 N3 ⟨rfl, ⟨Int.le_refl _, hq.1, hq.2, Int.le_refl _⟩, u1, u4, u5, ⟨_, u2⟩, ⟨_, u3⟩⟩ ?_ PassesOwn.never
    rintro ⟨lo', hi'⟩ news m h4 tk4 F4 N4 ⟨rfl, ⟨i1, i2, i3, i4⟩, w1, w2, w3, ⟨th', w4⟩, ⟨tl', w5⟩⟩
    dsimp only at *
    clear u1 u2 u3 u4 u5 F3 N3
    have hfd := Int.fdiv_eq_ediv_of_nonneg (lo' + hi') (show (0:Int) ≤ 2 by omega)
    repeat ((fail_if_success (with_reducible show wpAny _ _ (callWith _ (Value.ref _) _ _ _) _ _ _)); first | (k_unfold; (try dsimp only)) | walk1 | (dsimp only; walk1))
    rotate_left
    · k_steps
      obtain rfl : lo' = q := by omega
      exact ⟨_, _, ⟨_, _, rfl, F4, N4⟩, w5⟩
    obtain ⟨k1, k2, k3, k4⟩ := half_in2 ‹lo' < hi'›
    clear hfd
    generalize (lo' + hi').fdiv 2 = md at *
    replace k3 := Hold.mk k3
    replace k4 := Hold.mk k4
    have hkk : ∀ {h' : Heap}, s.heap.StaysIn h' → FnAt kf h' := fun st => by
      obtain ⟨oc, od, fd, sl, e⟩ := hk
      exact ⟨oc, od, fd, sl, st _ _ e⟩
    refine callWith_F (hkk (Fr.keep ‹Fr _ _ _ _›)) ?_
    repeat ((fail_if_success (with_reducible show wpAny _ _ (subscriptTail _ _ _ _) _ _ _)); first | (k_unfold; (try dsimp only)) | walk1 | (dsimp only; walk1))
    refine item_range (show IsRange _ _ _ _ _ _ _ _ from Fr.keep ‹Fr _ _ _ _› _ _ hr) (by omega) (by omega) ?_
    intro t7
    dsimp only
    k_steps
    · exact hkk (Fr.keep ‹Fr _ _ _ _›)
    rename Fr _ _ _ _ => F5
    rename News _ _ _ _ => N5
    have hmid : md = (md.toNat : Nat) := (Int.toNat_of_nonneg (Int.le_trans i1 k1)).symm

    rw [hmid]
    refine hkey.out _ _ _ _ _ _ (Nat.le_refl _) F5.keep (by omega) ?_
    intro t8 h8 tk8 st8
    replace F5 := Fr.stays F5 st8
    replace N5 := News.stays N5 st8
    dsimp only
    k_steps
    · refine' WTurn.of (md + 1, hi') ?F ?N ?_ k4.out
      case F => assumption
      case N => assumption
      refine ⟨rfl, ⟨by omega, ?_, by omega, by omega⟩, w1, w2, w3, ⟨_, w4⟩, ⟨_, rfl⟩⟩
      refine Int.not_lt.mp fun hlt => ?_
      have := hhigh md.toNat (by omega) (by omega)
      omega
    · refine' WTurn.of (lo', md) ?F ?N ?_ k3.out
      case F => assumption
      case N => assumption
      refine ⟨rfl, ⟨by omega, by omega, ?_, by omega⟩, w1, w2, w3, ⟨_, rfl⟩, ⟨_, w5⟩⟩
      refine Int.not_lt.mp fun hlt => ?_
      have := hlow md.toNat (by omega)
      omega

  rintro s1 ⟨m, tq, ⟨h4, tk4, rfl, F4, N4⟩, hm⟩
  walk1
  k_steps
  exact h.out _ _ _ F4.keep
end
-- part A10
set_option maxRecDepth 100000
set_option linter.unusedVariables false
set_option maxHeartbeats 1000000

section
variable {prog : Program} {w : World} {A : Around} {s : Shared} {mg mb : Str → Option Value} {mean : ExcName → Option Value} {p : Program} {loose : List Str}

theorem ints_rep {t : Tok} : ∀ k : Nat, IntsAre (List.replicate k (Value.int 0 t)) (List.replicate k 0)
  | 0 => .nil
  | k + 1 => .cons _ _ (ints_rep k)
/-- bisect_right(ladder, x) -/
theorem bisR_ladder {l : Addr} {vs : List Value} {x : Int} {tx : Tok} {Q E : Value → Shared → Prop}
   (X : (hd.heap_39 w.params).In s.heap) (T : Top p loose mean mg mb s.heap) (hdp : A.depth < 900) (hl : s.heap.IsList l vs.toArray) (hin : IntsAre vs FL)
   (h : ∀ t h' tk', s.heap.StaysIn h' → Q (.int (cnt x : Nat) t) { s with heap := h', toks := tk' }) :
   wpAny (model prog w) A (call (.ref 23) [.ref l, .int x tx]) Q E s := by
  refine bisR_list2 (x := x) (tx := tx) (tl := 189) (lo := 0) (hi := (FL.length : Nat)) (q := (cnt x : Nat)) X T hdp ?_ hl hin (Int.le_refl _) (.inl ⟨rfl, rfl⟩) (Int.le_refl _) (by rw [FL_len]; decide) ?_ ?_ ?_ h
  · intro oc od fd osl e
    cases e
    exact kp_binds X (fun S => rfl)
  · have := cnt_le x
    rw [FL_len]
    omega
  · intro i _ hi y e
    exact cnt_low (by omega) e
  · intro i hi _ y e
    exact cnt_high (by omega) e

theorem marks_call {ll : Addr} {us : List Value} {n : Int} {tn : Tok} {Q E : Value → Shared → Prop} (X : (hd.heap_39 w.params).In s.heap) (T : Top p loose mean mg mb s.heap) (hdp : A.depth < 800) (hh : A.handled = none)
   (hl : s.heap.IsList ll us.toArray) (hin : IntsAre us FL) (h0 : 0 ≤ n)
   (h : ∀ h' r vs n' ms tk', s.heap.StaysIn h' → s.heap.get? r = none → h'.get? r = some (listOf vs.toArray n') → IntsAre vs ms → Grd n (List.replicate (cnt n) 0) ms → ms.length = cnt n → Q (.ref r) { s with heap := h', toks := tk' }) :
   wpAny (model prog w) A (call (.ref 88) [.int n tn, .ref ll]) Q E s := by
  refine wpAny_call ?_
  refine' enter0 (news := []) (binds := [("number", .int n tn), ("ladder", .ref ll)]) s.heap (fun _ _ e => e) (Nat.le_refl _) X T (fun _ h => nomatch h) ?ho ?hcd ?hroom ?hb ?hl ?_ ?c1 ?c2 ?c3 ?c4
  case ho => k_is
  case hcd => k_is
  case hroom => simp only [recursionLimit]; omega
  case hb => exact BindsTo.of_eq rfl
  case hl => exact locs rfl
  case c1 => exact rfl
  case c2 => exact rfl
  case c3 => exact rfl
  case c4 => decide
  intro L' h₁ F1 N1 l1
  dsimp only
  replace h := Hold.mk h
  have hc := cnt_le n
  refine execs_cut (fun s' => ∃ (d : Nat) (m : Str → Option Value) (t : Tok), At s.heap L' s [(d, listOf (List.replicate (cnt n) (Value.int 0 t)).toArray 0)] m s' ∧ m "marks" = some (.ref d) ∧ m "number" = some (.int n tn) ∧ m "ladder" = some (.ref ll)) ?_ ?_
  · repeat ((fail_if_success (with_reducible show wpAny _ _ (call (Value.ref 23) _) _ _ _)); first | (k_unfold; (try dsimp only)) | walk1 | (dsimp only; walk1))
    rename Fr _ _ _ _ => F2
    rename News _ _ _ _ => N2
    refine bisR_ladder (X.keeps F2.keep) (T.keeps F2.keep) (by simp only [Around.deeper]; omega) (stays_list F2.keep hl) hin ?_
    intro t5 h5 tk5 st5
    replace F2 := Fr.stays F2 st5
    replace N2 := News.stays N2 st5
    dsimp only
    repeat ((fail_if_success (with_reducible show wpAny _ _ (binaryOp Operator.Mult (Value.ref _) _) _ _ _)); first | (k_unfold; (try dsimp only)) | walk1 | (dsimp only; walk1))
    rename Fr _ _ _ _ => F3
    rename News _ _ _ _ => N3
    refine' KMa.mul F3 N3 (IsL.isList (n := 0) (N3 _ (.head _)).1) (by omega) (by omega) (by simp only [List.length_cons, List.length_nil]; omega) rfl ?_
    intro D' h' F' N' l2
    k_lt l2
    have e9 : ∀ t : Tok, (List.replicate (Int.toNat ((cnt n : Nat) : Int)) [Value.int 0 t]).flatten = List.replicate (cnt n) (Value.int 0 t) := fun t => by simp
    rw [e9] at N'
    clear F3 N3
    k_steps
    all_goals first | exact trivial | skip
    rename News _ _ _ _ => N4
    rename Fr _ _ _ _ => F4
    exact ⟨_, _, _, ⟨_, _, rfl, F4, allCons (N4 _ (by k_mem)) allNil⟩, rfl, rfl, rfl⟩
  rintro s1 ⟨d, m, t, ⟨h2, tk2, rfl, F2, N2⟩, u1, u2, u3⟩
  clear F1 N1
  refine execs_cut (fun s' => ∃ (d : Nat) (m : Str → Option Value) (vs : List Value) (n' : Nat) (ms : List Int), At s.heap L' s [(d, listOf vs.toArray n')] m s' ∧ m "marks" = some (.ref d) ∧ IntsAre vs ms ∧ Grd n (List.replicate (cnt n) 0) ms ∧ ms.length = cnt n) ?_ ?_
  · refine while_at (σ := Int × List Int) (fun c news m => (∃ (d : Nat) (vs : List Value) (n' : Nat), news = [(d, listOf vs.toArray n')] ∧ m "marks" = some (.ref d) ∧ IntsAre vs c.2) ∧ (∃ t, m "number" = some (.int c.1 t)) ∧ m "ladder" = some (.ref ll) ∧ (0 ≤ c.1 ∧ c.1 ≤ n ∧ c.2.length = cnt n) ∧ (∀ r, Grd c.1 c.2 r → Grd n (List.replicate (cnt n) 0) r)) (fun c => c.1.toNat) (n, List.replicate (cnt n) 0) F2 N2 ?_ ?_ PassesOwn.never
    · refine ⟨⟨_, _, _, rfl, u1, ?_⟩, ⟨_, u2⟩, u3, ⟨h0, Int.le_refl _, List.length_replicate ..⟩, fun _ x => x⟩
      exact ints_rep _
    rintro ⟨c, ms⟩ news m₁ h3 tk3 F3 N3 ⟨⟨d₁, vs, n', rfl, v1, v2⟩, ⟨tc, v3⟩, v4, ⟨v5, v6, v7⟩, v8⟩
    dsimp only at *
    clear u1 u2 u3 F2 N2
    replace v8 := Hold.mk v8
    repeat ((fail_if_success (with_reducible show wpAny _ _ (call (Value.ref 23) _) _ _ _)); first | (k_unfold; (try dsimp only)) | walk1 | (dsimp only; walk1))
    rotate_left
    · k_steps
      obtain rfl : c = 0 := by omega
      exact ⟨_, _, _, _, _, ⟨_, _, rfl, F3, N3⟩, v1, v2, v8.out _ .done, v7⟩
    have hcp := cnt_pos (n := c) (by omega)
    have hcm : cnt c ≤ cnt n := cntOf_mono FL v6
    rename Fr _ _ _ _ => F4
    rename News _ _ _ _ => N4
    refine bisR_ladder (X.keeps F4.keep) (T.keeps F4.keep) (by simp only [Around.deeper]; omega) (stays_list F4.keep hl) hin ?_
    intro t5 h5 tk5 st5
    replace F4 := Fr.stays F4 st5
    replace N4 := News.stays N4 st5
    dsimp only
    k_steps
    rename Fr _ _ _ _ => F5
    rename News _ _ _ _ => N5
    have hFL := FL_len
    have hc48 := cnt_le c
    have hrn : ((cnt c : Int) - 1).toNat = cnt c - 1 := by omega
    refine' setitem_call F5 N5 X T (by simp only [Around.deeper]; omega) ?U v2 (by omega) (by omega) (by omega) ?_
    case U => k_upd
    intro h6 tk6 kb6 F6 N6 hi6
    have hl6 : (ms.set ((cnt c : Int) - 1).toNat c).length = cnt n := by rw [List.length_set]; exact v7
    clear F5 N5
    dsimp only
    k_steps
    rename Fr _ _ _ _ => F7
    rename News _ _ _ _ => N7
    have e7 : (ms.set ((cnt c : Int) - 1).toNat c).getD ((cnt c : Int) - 1).toNat 0 - FL.getD ((cnt c : Int) - 1).toNat 0 = c - FL.getD (cnt c - 1) 0 := by
      rw [hrn]
      congr 1
      rw [List.getD_eq_getElem?_getD, List.getElem?_set_self (by omega)]
      rfl
    rw [e7] at F7
    refine' setitem_call F7 N7 X T (by simp only [Around.deeper]; omega) ?U hi6 (by omega) (by omega) (by omega) ?_
    case U => k_upd
    intro h8 tk8 kb8 F8 N8 hi8
    clear F7 N7
    dsimp only
    k_steps
    have hget := getD_of_lt (ns := FL) (cnt c - 1) (by omega)
    have hle := cnt_low (n := c) (by omega) hget
    have hge := FL_pos _ (List.mem_of_getElem? hget)
    have hset : (ms.set ((cnt c : Int) - 1).toNat c).set ((cnt c : Int) - 1).toNat 1 = ms.set (cnt c - 1) 1 := by rw [List.set_set, hrn]
    rw [hset] at hi8
    refine WTurn.of (c - FL.getD (cnt c - 1) 0, ms.set (cnt c - 1) 1) F8 N8 ⟨⟨_, _, _, rfl, v1, hi8⟩, ⟨_, rfl⟩, v4, ⟨by dsimp only; omega, by dsimp only; omega, by simp only [List.length_set]; exact v7⟩, fun r hr => v8.out _ (.step (by assumption) hr)⟩ (by dsimp only; omega)
  rintro s1 ⟨d, m, vs, n', ms, ⟨h2, tk2, rfl, F2, N2⟩, u1, u2, u3, u4⟩
  k_steps
  exact h.out _ _ _ _ _ _ F2.keep (N2 _ (.head _)).2.2 (News.get N2 (.head _)) u2 u3 u4
end
-- part A11
set_option maxRecDepth 100000
set_option linter.unusedVariables false
set_option maxHeartbeats 1000000

section
variable {prog : Program} {w : World} {A : Around} {s : Shared} {mg mb : Str → Option Value} {mean : ExcName → Option Value} {p : Program} {loose : List Str}

/-- a lambda made in the call -/
theorem enterL {R : Result → Shared → Prop} {name qual : Str} {params : Arguments} {body : PySem.Expr} {scope : Scope} {cl : List (Str × Addr)} {pm ctv : Value} {c' f : Addr} {args : Args} {binds : List (Str × Value)} {news : List (Addr × Obj)}
    (h₀ : Heap) (hst : h₀.StaysIn s.heap) (hsz : h₀.objs.size ≤ s.heap.objs.size) (T : Top p loose mean mg mb h₀)
    (N : ∀ q ∈ news, s.heap.get? q.1 = some q.2 ∧ h₀.get? q.1 = none)
    (ho : s.heap.get? f = some (kla_obj name qual params body scope cl pm c' ctv)) (hcd : s.heap.CodeRec (.ref c') qual) (hroom : A.depth < recursionLimit)
    (hbind : bindArgs (kla_fn name qual params body scope cl pm (.ref c') ctv) args = pure binds) (hloc : ∀ y ∈ binds, scope.names.lookup y.1 = some .local)
    (h : ∀ L' h₁, Fr h₀ L' h₁ (fun y => binds.reverse.lookup y) → News h₀ L' h₁ news → (∀ p ∈ news, p.1 < L') →
      wpAny (model prog w) (A.deeper (envX qual scope L' f (.ref c') cl)) (eval body (envX qual scope L' f (.ref c') cl))
        (fun v s' => R (.ok (.ret v)) s') (fun _ _ => False)
        { s with heap := h₁, toks := s.toks + binds.length })
    (hco : scope.isCoroutine = false) (hgen : scope.isGenerator = false) (hk : scope.kind = .function)
    (hcell : ∀ x ∈ scope.names, x.2 ≠ .cell) : codeAny (model prog w) A (.call (.ref f) args) R s := by
  refine kla_callFunE hroom ho rfl hco hgen rfl hcd ?_
  rw [hbind]
  refine wpAny_pure (wpAny_newFunctionEnv hcell hloc (fun h₁ hns hsb => ⟨(T.nolimit.keeps hst).fresh _ hsb, ?_⟩) hk)
  show codeAny _ _ (.expr body (envX qual scope s.heap.objs.size f (.ref c') cl)) _ _
  have hk₁ : ∀ b o, s.heap.get? b = some o → h₁.get? b = some o := fun b o e => hsb.extBut b o (Nat.ne_of_lt (Heap.lt_size e)) (Heap.get?_push_of_some _ e)
  exact kla_codeExpr (wpAny_mono (h s.heap.objs.size h₁ ⟨hns, fun b o e => hk₁ b o (hst b o e), hsz⟩ (fun q hq => ⟨hk₁ _ _ (N q hq).1, Nat.ne_of_lt (Heap.lt_size (N q hq).1), (N q hq).2⟩) (fun q hq => Heap.lt_size (N q hq).1)) (fun _ _ x => x) (fun _ _ x => x.elim))

theorem nameX_FB {M : Model} {A : Around} {E : Value → Shared → Prop} {s : Shared} {h₀ : Heap} {L a c : Addr} {o : Obj} {m : Str → Option Value} {cn : Str} {cs : Scope} {ccd : Value} {cl : List (Str × Addr)} {x : Str} {pos : Pos} {v : Value} {Q : Value → Shared → Prop}
    (F : Fr h₀ L s.heap m) (hc : cl.lookup x = some c) (hv : h₀.get? c = some o) (hd : o.data = .cell (some v)) (h : Q v s)
    (hk : cs.kind = .function := by rfl) (hx : (envX cn cs L a ccd cl).kindOf x = some .free := by rfl) (hb : (x == ("__debug__" : Str)) = false := by decide) (hn : (x == ("__classdict__" : Str)) = false := by decide) :
    wpAny M A (eval (.Name x pos) (envX cn cs L a ccd cl)) Q E s := wpAny_Name (wpAny_loadName_free hk hx hc ⟨_, F.keep _ _ hv, hd⟩ h hn) hb
end
local macro_rules | `(tactic| walk_at "eval Name") => `(tactic| (k_here; k_dflt (refine' nameX_FB ?F ?c ?v ?d ?_ ?a ?b; (case a => rfl); (case b => rfl); (case F => k_asm); (case c => rfl); (case v => assumption); (case d => assumption); k_whole)))
section
variable {prog : Program} {w : World} {A : Around} {s : Shared} {mg mb : Str → Option Value} {mean : ExcName → Option Value} {p : Program} {loose : List Str}

theorem range_call {h₀ : Heap} {L : Addr} {m : Str → Option Value} {news : List (Addr × Obj)} {n : Int} {t : Tok} {Q E : Value → Shared → Prop} (F : Fr h₀ L s.heap m) (N : News h₀ L s.heap news)
    (h : ∀ (R : Addr) h' tk' t1 t2, Fr h₀ L h' m → News h₀ L h' ((R, ({ cls := .type "range", data := .fields #[.int 0 t1, .int n t, .int 1 t2] } : Obj)) :: news) → (∀ q ∈ news, q.1 < R) → L < R → Q (.ref R) { s with heap := h', toks := tk' }) :
    wpAny (model prog w) A (call (.type "range") [.int n t]) Q E s :=
  call_range_1 (h _ _ _ _ _ (F.push _) (News.push F N _) (fun q hq => Heap.lt_size (N q hq).1) F.ns.lt)

theorem pylong_room {n : Int} (h0 : 0 ≤ n) (h1 : n < 2 ^ 24) : ((n + 1) * (n + 1)).natAbs.log2 < 9000 := by
  obtain ⟨k, rfl⟩ := Int.eq_ofNat_of_zero_le h0
  have e : (((k : Int) + 1) * ((k : Int) + 1)).natAbs = (k + 1) * (k + 1) := by
    rw [Int.natAbs_mul]
    rfl
  rw [e, Nat.log2_lt (Nat.mul_ne_zero (by omega) (by omega))]
  have h2 : (k + 1) * (k + 1) ≤ 2 ^ 24 * 2 ^ 24 := Nat.mul_le_mul (by omega) (by omega)
  exact Nat.lt_of_le_of_lt h2 (Nat.lt_of_lt_of_le (show 2 ^ 24 * 2 ^ 24 < 2 ^ 49 by decide) (Nat.pow_le_pow_right (by decide) (by decide)))
theorem fdiv_zero {n i : Int} (h0 : 0 ≤ n) (hi : 0 ≤ i) (h : i * (i + (n + 1)) < (n + 1) * (n + 1)) : (i * (i + (n + 1))).fdiv ((n + 1) * (n + 1)) = 0 := by
  rw [Int.fdiv_eq_ediv_of_nonneg _ (Int.mul_nonneg (by omega) (by omega))]
  exact Int.ediv_eq_zero_of_lt (Int.mul_nonneg hi (by omega)) h
theorem fdiv_pos {n i : Int} (h0 : 0 ≤ n) (h : (n + 1) * (n + 1) ≤ i * (i + (n + 1))) : 1 ≤ (i * (i + (n + 1))).fdiv ((n + 1) * (n + 1)) := by
  have hp : 0 < (n + 1) * (n + 1) := Int.mul_pos (by omega) (by omega)
  rw [Int.fdiv_eq_ediv_of_nonneg _ (Int.le_of_lt hp), Int.le_ediv_iff_mul_le hp]
  omega

/-- the table of _law_share's two lambdas -/
structure Filled2 (b h : Heap) (c1 c2 : Addr) : Prop where
  tab : h.get? 97 = some (tabObj #[rawInt 99, rawInt 38, .ref c1, rawInt 100, rawInt 34, .ref c2])
  code1 : ∃ oc fvs tq, h.get? c1 = some oc ∧ oc.data = .fields fvs ∧ fvs[1]? = some (.str (("_law_share" : Str) ++ (".<locals>." : Str) ++ ("<lambda>" : Str)) tq)
  code2 : ∃ oc fvs tq, h.get? c2 = some oc ∧ oc.data = .fields fvs ∧ fvs[1]? = some (.str (("_law_share" : Str) ++ (".<locals>." : Str) ++ ("<lambda>" : Str)) tq)
  fresh1 : b.get? c1 = none
  fresh2 : b.get? c2 = none

/-- the lambda of _law_share, wherever it stands: both say the same -/
theorem lam_share {c' f L1 : Addr} {qual : Str} {pm ctv : Value} {o : Obj} {t ti : Tok} {i : Nat} {n : Int} {p0 p1 p2 p3 p4 p5 p6 p7 p8 p9 p10 p11 : Pos} {Q E : Value → Shared → Prop}
   (X : (hd.heap_39 w.params).In s.heap) (T : Top p loose mean mg mb s.heap)
   (ho : s.heap.get? f = some (kla_obj "<lambda>" qual { posonlyargs := [], args := [{ arg := "part", annotation := none, pos := p0 }], vararg := none, kwonlyargs := [], kw_defaults := [], kwarg := none, defaults := [] }
     (.BinOp (.Call (.Name "mul" p1) [.Name "part" p2, .Call (.Name "add" p3) [.Name "part" p4, .Name "side" p5] [] p6] [] p7) .FloorDiv (.BinOp (.Name "side" p8) .Mult (.Name "side" p9) p10) p11)
     { kind := .function, names := [("part", .local), ("side", .free), ("mul", .globalImplicit), ("add", .globalImplicit)], isGenerator := false, isCoroutine := false } [("side", L1)] pm c' ctv))
   (hcd : s.heap.CodeRec (.ref c') qual) (hcell : s.heap.get? L1 = some o) (hdt : o.data = .cell (some (.int (n + 1) t)))
   (hdp : A.depth < 850) (h0 : 0 ≤ n) (h1 : n < 2 ^ 24) (hi : (i : Int) ≤ n)
   (hk : ∀ t h' tk', s.heap.StaysIn h' → Q (.int (((i : Int) * ((i : Int) + (n + 1))).fdiv ((n + 1) * (n + 1))) t) { s with heap := h', toks := tk' }) :
   wpAny (model prog w) A (call (.ref f) [.int i ti]) Q E s := by
  refine wpAny_call ?_
  refine' enterL (binds := [("part", .int i ti)]) (news := []) s.heap (fun _ _ e => e) (Nat.le_refl _) T allNil ho hcd ?hroom rfl (locs rfl) ?_ rfl rfl rfl (by decide)
  case hroom => simp only [recursionLimit]; omega
  intro L2 h2 F2 N2 l2
  have hm : IntMulOk (i : Int) ((i : Int) + (n + 1)) := IntMulOk.of_left (intBits_le (e := 64) (by omega) (by omega))
  clear ho hcd
  dsimp only
  repeat ((fail_if_success (with_reducible show wpAny _ _ (binaryOp Operator.FloorDiv _ _) _ _ _)); first | (k_unfold; (try dsimp only)) | walk1 | (dsimp only; walk1))
  have hss0 : (n + 1) * (n + 1) ≠ 0 := Int.mul_ne_zero (by omega) (by omega)
  refine floordiv_int hss0 ?_ (.inl (PyProof.noPylong_of_log2 (pylong_room h0 h1)))
  exact hk _ _ _ (Fr.keep ‹Fr s.heap L2 _ _›)

theorem share_call {b : Heap} {n q : Int} {tn : Tok} {Q E : Value → Shared → Prop} (X : (hd.heap_39 w.params).In b) (T : Top p loose mean mg mb b) (C1 : CodeHd b 101 97) (hst : b.StaysIn s.heap) (hb97 : b.get? 97 = none) (hsz : b.objs.size ≤ s.heap.objs.size)
   (hdp : A.depth < 800)
   (hT : s.heap.get? 97 = some (tabObj #[]) ∨ ∃ c1 c2, Filled2 b s.heap c1 c2)
   (h0 : 0 ≤ n) (h1 : n < 2 ^ 24) (hq : 1 ≤ q ∧ q ≤ n + 1) (hlow : ∀ i : Nat, (i : Int) < q → (i : Int) * (i + (n + 1)) < (n + 1) * (n + 1)) (hhigh : ∀ i : Nat, q ≤ i → (i : Int) ≤ n → (n + 1) * (n + 1) ≤ (i : Int) * (i + (n + 1)))
   (h : ∀ h' t c1 c2 tk', (∀ a o, a ≠ 97 → s.heap.get? a = some o → h'.get? a = some o) → Filled2 b h' c1 c2 → (Filled2 b s.heap c1 c2 ∨ (s.heap.objs.size ≤ c1 ∧ s.heap.objs.size ≤ c2)) → Q (.int (q - 1) t) { s with heap := h', toks := tk' }) :
   wpAny (model prog w) A (call (.ref 102) [.int n tn]) Q E s := by
  refine wpAny_call ?_
  obtain ⟨to, hto, hT2⟩ : ∃ to, s.heap.get? 97 = some to ∧ (to = tabObj #[] ∨ ∃ c1 c2, to = tabObj #[rawInt 99, rawInt 38, .ref c1, rawInt 100, rawInt 34, .ref c2] ∧ Filled2 b s.heap c1 c2) := by
    rcases hT with e | ⟨c1, c2, f⟩
    · exact ⟨_, e, .inl rfl⟩
    · exact ⟨_, f.tab, .inr ⟨c1, c2, rfl, f⟩⟩
  obtain ⟨g, st1, sz1, N1, kp, st2, X', T'⟩ := aside X T hst (allCons (got hto) allNil) (by simpa [NotIn] using hb97)
  refine' enterC (binds := [("number", .int n tn)]) g st1 (Nat.le_of_eq sz1) X' T' N1 ?ho ?hcd ?hroom ?hbd ?hkd ?hnd ?_ ?q1 ?q2 ?q3
  case ho => k_is
  case hbd => exact BindsTo.of_eq rfl
  case hkd => exact rfl
  case hnd => decide +kernel
  case q1 => exact rfl
  case q2 => exact rfl
  case q3 => exact rfl
  case hcd => k_is
  case hroom => simp only [recursionLimit]; omega
  intro L' h₁ tk cells F N Y l1
  obtain ⟨p1, rfl, d1⟩ := CellsAre.one Y
  clear Y
  simp only [List.cons_append, List.nil_append] at N
  k_lt l1
  have C1' := C1.keeps st2
  replace h := Hold.mk h
  replace hlow := Hold.mk hlow
  replace hhigh := Hold.mk hhigh
  obtain ⟨n1, hn1⟩ : ∃ n1 : Nat, (n1 : Int) = n + 1 := ⟨(n + 1).toNat, by omega⟩
  repeat ((fail_if_success (with_reducible show wpAny _ _ (call (Value.type "range") _) _ _ _)); first | (k_unfold; (try dsimp only)) | walk1 | (dsimp only; walk1))
  rename Fr _ _ _ _ => F3
  rename News _ _ _ _ => N3
  refine range_call F3 N3 ?_
  intro R h4 tk4 t1 t2 F4 N4 l4 l5
  clear F3 N3
  dsimp only
  rw [← hn1] at N4
  k_lt l4
  replace l5 := ltN l5
  rcases hT2 with rfl | ⟨d1, d2, rfl, hfil⟩
  · -- the first call
    repeat ((fail_if_success (with_reducible show wpAny _ _ (call (Value.ref 32) _ _) _ _ _)); first | (k_unfold; (try dsimp only)) | walk1 | (dsimp only; walk1))
    rename Fr _ _ _ _ => FK
    rename News _ _ _ _ => NK
    refine bisL_range (n := n1) (q := q) (kv := fun i => ((i : Int) * ((i : Int) + (n + 1))).fdiv ((n + 1) * (n + 1))) (X'.keeps FK.keep) (T'.keeps FK.keep) (by simp only [Around.deeper]; omega) (News.get NK (by k_mem)) (FnAt.of NK (by k_mem)) (by omega) ?_ ⟨by omega, by omega⟩ ?_ ?_ ?_
    · intro A' s' i ti Q' E' hd' hst' hi hk'
      exact lam_share (X'.keeps fun a o e => hst' _ _ (FK.keep _ _ e)) (T'.keeps fun a o e => hst' _ _ (FK.keep _ _ e)) (hst' _ _ (News.get NK (by k_mem))) ⟨_, _, _, _, rfl, hst' _ _ (News.get NK (by k_mem)), ‹_›, ‹_›⟩ (hst' _ _ (News.get NK (a := L' + 1) (by k_mem))) ‹_› (by simp only [Around.deeper] at hd'; omega) h0 h1 (by omega) hk'
    · intro i hi
      have e := fdiv_zero h0 (show (0 : Int) ≤ i by omega) (hlow.out i hi)
      omega
    · intro i hi hi2
      have e := fdiv_pos h0 (hhigh.out i hi (by omega))
      omega
    intro t9 h9 tk9 st9
    replace FK := Fr.stays FK st9
    replace NK := News.stays NK st9
    dsimp only
    repeat ((fail_if_success (with_reducible show wpAny _ _ (call (Value.ref 23) _ _) _ _ _)); first | (k_unfold; (try dsimp only)) | walk1 | (dsimp only; walk1))
    rename Fr _ _ _ _ => FK
    rename News _ _ _ _ => NK
    refine bisR_range (n := n1) (q := q) (kv := fun i => ((i : Int) * ((i : Int) + (n + 1))).fdiv ((n + 1) * (n + 1))) (X'.keeps FK.keep) (T'.keeps FK.keep) (by simp only [Around.deeper]; omega) (News.get NK (by k_mem)) (FnAt.of NK (by k_mem)) (by omega) ?_ ⟨by omega, by omega⟩ ?_ ?_ ?_
    · intro A' s' i ti Q' E' hd' hst' hi hk'
      exact lam_share (X'.keeps fun a o e => hst' _ _ (FK.keep _ _ e)) (T'.keeps fun a o e => hst' _ _ (FK.keep _ _ e)) (hst' _ _ (News.get NK (by k_mem))) ⟨_, _, _, _, rfl, hst' _ _ (News.get NK (by k_mem)), ‹_›, ‹_›⟩ (hst' _ _ (News.get NK (a := L' + 1) (by k_mem))) ‹_› (by simp only [Around.deeper] at hd'; omega) h0 h1 (by omega) hk'
    · intro i hi
      have e := fdiv_zero h0 (show (0 : Int) ≤ i by omega) (hlow.out i hi)
      omega
    · intro i hi hi2
      have e := fdiv_pos h0 (hhigh.out i hi (by omega))
      omega
    intro t9 h9 tk9 st9
    replace FK := Fr.stays FK st9
    replace NK := News.stays NK st9
    dsimp only
    repeat ((fail_if_success (with_reducible show wpAny _ _ (subscriptTail _ _ _ _) _ _ _)); first | (k_unfold; (try dsimp only)) | walk1 | (dsimp only; walk1))
    · exact absurd rfl ‹q ≠ q›
    repeat ((fail_if_success (with_reducible show wpAny _ _ (subscriptTail _ _ _ _) _ _ _)); first | (k_unfold; (try dsimp only)) | walk1 | (dsimp only; walk1))
    rename Fr _ _ _ _ => F7
    rename News _ _ _ _ => N7
    refine item_range (n := n1) (t := t1) (u := _) (v := t2) (r := R) (News.get N7 (by k_mem)) (by omega) (by omega) ?_
    intro t7
    dsimp only
    k_steps
    have hgs := F7.above
    rw [sz1] at hgs
    refine h.out _ _ _ _ _ (fun a o ha e => F7.keep _ _ (kp a o (by simpa using ha) e)) ⟨News.get N7 (by k_mem), ⟨_, _, _, News.get N7 (by k_mem), ‹_›, ‹_›⟩, ⟨_, _, _, News.get N7 (by k_mem), ‹_›, ‹_›⟩, Heap.get?_none_of_le (Nat.le_trans hsz (Nat.le_trans hgs (Nat.le_of_lt (by omega)))), Heap.get?_none_of_le (Nat.le_trans hsz (Nat.le_trans hgs (Nat.le_of_lt (by omega))))⟩ ?_
    exact .inr ⟨Nat.le_trans hgs (Nat.le_of_lt (by omega)), Nat.le_trans hgs (Nat.le_of_lt (by omega))⟩
  · -- a later call
    obtain ⟨oc1, fv1, tq1, k11, k12, k13⟩ := hfil.code1
    obtain ⟨oc2, fv2, tq2, k21, k22, k23⟩ := hfil.code2
    have hc1 : d1 ≠ 97 := fun q => by
      subst q
      rw [hto] at k11
      cases k11
      cases k12
      cases k13
    have hc2 : d2 ≠ 97 := fun q => by
      subst q
      rw [hto] at k21
      cases k21
      cases k22
      cases k23
    have kg1 := kp d1 oc1 (by simpa using hc1) k11
    have kg2 := kp d2 oc2 (by simpa using hc2) k21
    repeat ((fail_if_success (with_reducible show wpAny _ _ (call (Value.ref 32) _ _) _ _ _)); first | (k_unfold; (try dsimp only)) | walk1 | (dsimp only; walk1))
    rename Fr _ _ _ _ => FK
    rename News _ _ _ _ => NK
    refine bisL_range (n := n1) (q := q) (kv := fun i => ((i : Int) * ((i : Int) + (n + 1))).fdiv ((n + 1) * (n + 1))) (X'.keeps FK.keep) (T'.keeps FK.keep) (by simp only [Around.deeper]; omega) (News.get NK (by k_mem)) (FnAt.of NK (by k_mem)) (by omega) ?_ ⟨by omega, by omega⟩ ?_ ?_ ?_
    · intro A' s' i ti Q' E' hd' hst' hi hk'
      exact lam_share (X'.keeps fun a o e => hst' _ _ (FK.keep _ _ e)) (T'.keeps fun a o e => hst' _ _ (FK.keep _ _ e)) (hst' _ _ (News.get NK (by k_mem))) ⟨_, _, _, _, rfl, hst' _ _ (FK.keep _ _ kg1), k12, k13⟩ (hst' _ _ (News.get NK (a := L' + 1) (by k_mem))) ‹_› (by simp only [Around.deeper] at hd'; omega) h0 h1 (by omega) hk'
    · intro i hi
      have e := fdiv_zero h0 (show (0 : Int) ≤ i by omega) (hlow.out i hi)
      omega
    · intro i hi hi2
      have e := fdiv_pos h0 (hhigh.out i hi (by omega))
      omega
    intro t9 h9 tk9 st9
    replace FK := Fr.stays FK st9
    replace NK := News.stays NK st9
    dsimp only
    repeat ((fail_if_success (with_reducible show wpAny _ _ (call (Value.ref 23) _ _) _ _ _)); first | (k_unfold; (try dsimp only)) | walk1 | (dsimp only; walk1))
    rename Fr _ _ _ _ => FK
    rename News _ _ _ _ => NK
    refine bisR_range (n := n1) (q := q) (kv := fun i => ((i : Int) * ((i : Int) + (n + 1))).fdiv ((n + 1) * (n + 1))) (X'.keeps FK.keep) (T'.keeps FK.keep) (by simp only [Around.deeper]; omega) (News.get NK (by k_mem)) (FnAt.of NK (by k_mem)) (by omega) ?_ ⟨by omega, by omega⟩ ?_ ?_ ?_
    · intro A' s' i ti Q' E' hd' hst' hi hk'
      exact lam_share (X'.keeps fun a o e => hst' _ _ (FK.keep _ _ e)) (T'.keeps fun a o e => hst' _ _ (FK.keep _ _ e)) (hst' _ _ (News.get NK (by k_mem))) ⟨_, _, _, _, rfl, hst' _ _ (FK.keep _ _ kg2), k22, k23⟩ (hst' _ _ (News.get NK (a := L' + 1) (by k_mem))) ‹_› (by simp only [Around.deeper] at hd'; omega) h0 h1 (by omega) hk'
    · intro i hi
      have e := fdiv_zero h0 (show (0 : Int) ≤ i by omega) (hlow.out i hi)
      omega
    · intro i hi hi2
      have e := fdiv_pos h0 (hhigh.out i hi (by omega))
      omega
    intro t9 h9 tk9 st9
    replace FK := Fr.stays FK st9
    replace NK := News.stays NK st9
    dsimp only
    repeat ((fail_if_success (with_reducible show wpAny _ _ (subscriptTail _ _ _ _) _ _ _)); first | (k_unfold; (try dsimp only)) | walk1 | (dsimp only; walk1))
    · exact absurd rfl ‹q ≠ q›
    repeat ((fail_if_success (with_reducible show wpAny _ _ (subscriptTail _ _ _ _) _ _ _)); first | (k_unfold; (try dsimp only)) | walk1 | (dsimp only; walk1))
    rename Fr _ _ _ _ => F7
    rename News _ _ _ _ => N7
    refine item_range (n := n1) (t := t1) (u := _) (v := t2) (r := R) (News.get N7 (by k_mem)) (by omega) (by omega) ?_
    intro t7
    dsimp only
    k_steps
    refine h.out _ _ d1 d2 _ (fun a o ha e => F7.keep _ _ (kp a o (by simpa using ha) e)) ⟨News.get N7 (by k_mem), ⟨_, _, _, F7.keep _ _ kg1, k12, k13⟩, ⟨_, _, _, F7.keep _ _ kg2, k22, k23⟩, hfil.fresh1, hfil.fresh2⟩ ?_
    exact .inl hfil
end
end Mine
end
section
open PySem PySem.W PyProof.Rows PySem.Calls PySem.Spec
namespace Mine
-- part A12
set_option maxRecDepth 100000
set_option linter.unusedVariables false
set_option maxHeartbeats 1000000

/-- the three tables that the calls fill, and what b says of them -/
structure Cds (b : Heap) : Prop where
  c34 : CodeHd b 38 34
  c41 : CodeHd b 45 41
  c97 : CodeHd b 101 97
  n34 : b.get? 34 = none
  n41 : b.get? 41 = none
  n97 : b.get? 97 = none

def Tb1 (b h : Heap) (P : Addr) (l c : Int) (qual : Str) : Prop := h.get? P = some (tabObj #[]) ∨ ∃ c0, Filled1 b h P l c qual c0
def Tb2 (b h : Heap) : Prop := h.get? 97 = some (tabObj #[]) ∨ ∃ c1 c2, Filled2 b h c1 c2
def Code1 (qual : Str) (o : Obj) : Prop := ∃ fvs tq, o.data = .fields fvs ∧ fvs[1]? = some (.str qual tq)
def TbO (b : Heap) (l c : Int) (qual : Str) (o : Obj) (tabs : List (Addr × Obj)) : Prop := o = tabObj #[] ∨ ∃ c0 oc, o = tabObj #[rawInt l, rawInt c, .ref c0] ∧ (c0, oc) ∈ tabs ∧ Code1 qual oc ∧ b.get? c0 = none
def lamQ : Str := ("_law_share" : Str) ++ (".<locals>." : Str) ++ ("<lambda>" : Str)
def TbO2 (b : Heap) (o : Obj) (tabs : List (Addr × Obj)) : Prop := o = tabObj #[] ∨ ∃ c1 c2 oc1 oc2, o = tabObj #[rawInt 99, rawInt 38, .ref c1, rawInt 100, rawInt 34, .ref c2] ∧ (c1, oc1) ∈ tabs ∧ (c2, oc2) ∈ tabs ∧ Code1 lamQ oc1 ∧ Code1 lamQ oc2 ∧ b.get? c1 = none ∧ b.get? c2 = none
theorem TbO.tb1 {b h : Heap} {P : Addr} {l c : Int} {qual : Str} {o : Obj} {tabs : List (Addr × Obj)} (T : TbO b l c qual o tabs) (e : h.get? P = some o) (k : ∀ q ∈ tabs, h.get? q.1 = some q.2) : Tb1 b h P l c qual := by
  rcases T with rfl | ⟨c0, oc, rfl, hm, ⟨fvs, tq, hd, h1⟩, hf⟩
  · exact .inl e
  · exact .inr ⟨c0, e, ⟨oc, fvs, tq, k _ hm, hd, h1⟩, hf⟩
theorem TbO2.tb2 {b h : Heap} {o : Obj} {tabs : List (Addr × Obj)} (T : TbO2 b o tabs) (e : h.get? 97 = some o) (k : ∀ q ∈ tabs, h.get? q.1 = some q.2) : Tb2 b h := by
  rcases T with rfl | ⟨c1, c2, oc1, oc2, rfl, hm1, hm2, ⟨fvs, tq, hd, h1⟩, ⟨fvs2, tq2, hd2, h2⟩, hf1, hf2⟩
  · exact .inl e
  · exact .inr ⟨c1, c2, e, ⟨oc1, fvs, tq, k _ hm1, hd, h1⟩, ⟨oc2, fvs2, tq2, k _ hm2, hd2, h2⟩, hf1, hf2⟩
theorem TbO.more {b : Heap} {l c : Int} {qual : Str} {o : Obj} {tabs us : List (Addr × Obj)} (T : TbO b l c qual o tabs) (k : ∀ q ∈ tabs, q ∈ us) : TbO b l c qual o us := by
  rcases T with rfl | ⟨c0, oc, rfl, hm, r⟩
  · exact .inl rfl
  · exact .inr ⟨c0, oc, rfl, k _ hm, r⟩
theorem TbO2.more {b : Heap} {o : Obj} {tabs us : List (Addr × Obj)} (T : TbO2 b o tabs) (k : ∀ q ∈ tabs, q ∈ us) : TbO2 b o us := by
  rcases T with rfl | ⟨c1, c2, oc1, oc2, rfl, hm1, hm2, r⟩
  · exact .inl rfl
  · exact .inr ⟨c1, c2, oc1, oc2, rfl, k _ hm1, k _ hm2, r⟩
/-- after a call: the table's object, and the code objects that it names -/
theorem tab_after {b h h' : Heap} {P : Addr} {l c : Int} {qual : Str} {o : Obj} {tabs : List (Addr × Obj)} {c' : Addr} (T : TbO b l c qual o tabs) (e : h.get? P = some o) (F : Filled1 b h' P l c qual c') (n : Filled1 b h P l c qual c' ∨ h.objs.size ≤ c') (kt : ∀ q ∈ tabs, h'.get? q.1 = some q.2) :
    ∃ o' us, h'.get? P = some o' ∧ (∀ q ∈ us, h'.get? q.1 = some q.2) ∧ TbO b l c qual o' us ∧ (∀ q ∈ tabs, q ∈ us) ∧ ∀ q ∈ us, q ∈ tabs ∨ (b.get? q.1 = none ∧ h.objs.size ≤ q.1) := by
  rcases n with F0 | n
  · refine ⟨o, tabs, ?_, kt, T, fun _ h => h, fun _ h => .inl h⟩
    have := F0.tab
    rw [e] at this
    rw [F.tab, this]
  · obtain ⟨oc, fvs, tq, ec, hd, h1⟩ := F.code
    refine ⟨_, (c', oc) :: tabs, F.tab, fun q hq => ?_, .inr ⟨c', oc, rfl, List.mem_cons_self, ⟨fvs, tq, hd, h1⟩, F.fresh⟩, fun q hq => List.mem_cons_of_mem _ hq, fun q hq => ?_⟩
    · rcases List.mem_cons.mp hq with rfl | hq
      · exact ec
      · exact kt q hq
    · rcases List.mem_cons.mp hq with rfl | hq
      · exact .inr ⟨F.fresh, n⟩
      · exact .inl hq
theorem tab_after2 {b h h' : Heap} {o : Obj} {tabs : List (Addr × Obj)} {c1 c2 : Addr} (T : TbO2 b o tabs) (e : h.get? 97 = some o) (F : Filled2 b h' c1 c2) (n : Filled2 b h c1 c2 ∨ (h.objs.size ≤ c1 ∧ h.objs.size ≤ c2)) (kt : ∀ q ∈ tabs, h'.get? q.1 = some q.2) :
    ∃ o' us, h'.get? 97 = some o' ∧ (∀ q ∈ us, h'.get? q.1 = some q.2) ∧ TbO2 b o' us ∧ (∀ q ∈ tabs, q ∈ us) ∧ ∀ q ∈ us, q ∈ tabs ∨ (b.get? q.1 = none ∧ h.objs.size ≤ q.1) := by
  rcases n with F0 | ⟨n1, n2⟩
  · refine ⟨o, tabs, ?_, kt, T, fun _ h => h, fun _ h => .inl h⟩
    have := F0.tab
    rw [e] at this
    rw [F.tab, this]
  · obtain ⟨oc1, fvs1, tq1, ec1, hd1, h1⟩ := F.code1
    obtain ⟨oc2, fvs2, tq2, ec2, hd2, h2⟩ := F.code2
    refine ⟨_, (c1, oc1) :: (c2, oc2) :: tabs, F.tab, fun q hq => ?_, .inr ⟨c1, c2, oc1, oc2, rfl, List.mem_cons_self, List.mem_cons_of_mem _ List.mem_cons_self, ⟨fvs1, tq1, hd1, h1⟩, ⟨fvs2, tq2, hd2, h2⟩, F.fresh1, F.fresh2⟩, fun q hq => List.mem_cons_of_mem _ (List.mem_cons_of_mem _ hq), fun q hq => ?_⟩
    · rcases List.mem_cons.mp hq with rfl | hq
      · exact ec1
      rcases List.mem_cons.mp hq with rfl | hq
      · exact ec2
      · exact kt q hq
    · rcases List.mem_cons.mp hq with rfl | hq
      · exact .inr ⟨F.fresh1, n1⟩
      rcases List.mem_cons.mp hq with rfl | hq
      · exact .inr ⟨F.fresh2, n2⟩
      · exact .inl hq
/-- the objects o34, o41, o97 at 34, 41, 97 and those of tabs hold what the tables need -/
structure Tabs (b : Heap) (o34 o41 o97 : Obj) (tabs : List (Addr × Obj)) : Prop where
  t34 : TbO b 46 4 "_int2digits.<locals>.inner" o34 tabs
  t41 : TbO b 61 4 "_digits2int.<locals>.inner" o41 tabs
  t97 : TbO2 b o97 tabs
  off : ∀ q ∈ tabs, @Ne Nat q.1 34 ∧ @Ne Nat q.1 41 ∧ @Ne Nat q.1 97

/-- l' is l, but for the tables' objects -/
inductive Swap (ts us : List (Addr × Obj)) : List (Addr × Obj) → List (Addr × Obj) → Prop
  | here {o1 o2 o3 p1 p2 p3 : Obj} : Swap ts us ((34, o1) :: (41, o2) :: (97, o3) :: ts) ((34, p1) :: (41, p2) :: (97, p3) :: us)
  | cons {q : Addr × Obj} {l l' : List (Addr × Obj)} (r : Swap ts us l l') : Swap ts us (q :: l) (q :: l')
/-- news is pre ahead of tl, none of pre at P -/
inductive Pre (P : Addr) (tl : List (Addr × Obj)) : List (Addr × Obj) → List (Addr × Obj) → Prop
  | here : Pre P tl [] tl
  | cons {q : Addr × Obj} {l n : List (Addr × Obj)} (hq : @Ne Nat q.1 P) (r : Pre P tl l n) : Pre P tl (q :: l) (q :: n)
theorem Pre.all {P : Addr} {tl pre news : List (Addr × Obj)} (S : Pre P tl pre news) : news = pre ++ tl ∧ ∀ q ∈ pre, q.1 ≠ P := by
  induction S with
  | here => exact ⟨rfl, fun q h => nomatch h⟩
  | cons hq r ih =>
    refine ⟨by rw [ih.1]; rfl, fun q h => ?_⟩
    rcases List.mem_cons.mp h with rfl | h
    · exact hq
    · exact ih.2 q h

theorem swap_keep {b h h' : Heap} {L P : Addr} {tl tl' pre l : List (Addr × Obj)} (S : Pre P tl pre l) (N : News b L h l) (k : ∀ a o, a ≠ P → h.get? a = some o → h'.get? a = some o)
    (new : News b L h' tl') : News b L h' (pre ++ tl') := fun q hq => by
  rcases List.mem_append.mp hq with a | a
  · have z := N q (by rw [S.all.1]; exact List.mem_append_left _ a)
    exact ⟨k _ _ (S.all.2 q a) z.1, z.2⟩
  · exact new q a

section
variable {prog : Program} {w : World} {A : Around} {s : Shared} {mg mb : Str → Option Value} {mean : ExcName → Option Value} {p : Program} {loose : List Str}
  {b : Heap} {L : Addr} {m : Str → Option Value} {news : List (Addr × Obj)} {Q E : Value → Shared → Prop}

theorem fr_but1 {h h' : Heap} {P : Addr} (F : Fr b L h m) (hP : b.get? P = none) (hL : L ≠ P) (k : ∀ a o, a ≠ P → h.get? a = some o → h'.get? a = some o) : Fr b L h' m :=
  ⟨F.ns.at' fun o e => k _ o hL e, fun a o e => k a o (fun q => by rw [q, hP] at e; cases e) (F.keep a o e), F.above⟩

theorem i2d_F {x nn : Int} {tx tn : Tok} {o34 o41 o97 : Obj} {tabs : List (Addr × Obj)} {pre : List (Addr × Obj)} (F : Fr b L s.heap m) (N : News b L s.heap news) (X : (hd.heap_39 w.params).In b) (T : Top p loose mean mg mb b) (C : Cds b) (K : Tabs b o34 o41 o97 tabs)
   (hdp : A.depth < 400) (hun : A.units < 1000) (hn1 : 1 ≤ nn) (hn2 : nn < 2000) (hx0 : 0 ≤ x) (hnd : ndig x nn.toNat < 100)
   (hsw : Pre 34 ((34, o34) :: (41, o41) :: (97, o97) :: tabs) pre news)
   (h : ∀ h' r vs n' p1 p2 p3 us tk', Tabs b p1 p2 p3 us → Fr b L h' m → News b L h' ((r, listOf vs.toArray n') :: (pre ++ (34, p1) :: (41, p2) :: (97, p3) :: us)) → @LT.lt Nat _ L r → (∀ q ∈ news, @Ne Nat q.1 r) → IntsAre vs (digitsOf x nn.toNat) → (∀ q ∈ us, q ∈ tabs ∨ ∀ z ∈ news, @Ne Nat z.1 q.1) → (∀ q ∈ tabs, q ∈ us) → Q (.ref r) { s with heap := h', toks := tk' }) :
   wpAny (model prog w) A (call (.ref 39) [.int x tx, .int nn tn]) Q E s := by
  have S : ∀ q ∈ (34, o34) :: (41, o41) :: (97, o97) :: tabs, q ∈ news := fun q hq => by rw [hsw.all.1]; exact List.mem_append_right _ hq
  have N34 := N _ (S _ List.mem_cons_self)
  have N41 := N _ (S _ (List.mem_cons_of_mem _ List.mem_cons_self))
  have N97 := N _ (S _ (List.mem_cons_of_mem _ (List.mem_cons_of_mem _ List.mem_cons_self)))
  have Nt : ∀ q ∈ tabs, s.heap.get? q.1 = some q.2 := fun q hq => (N _ (S _ (List.mem_cons_of_mem _ (List.mem_cons_of_mem _ (List.mem_cons_of_mem _ hq))))).1
  have Nt' : ∀ q ∈ tabs, q.1 ≠ L ∧ b.get? q.1 = none := fun q hq => (N _ (S _ (List.mem_cons_of_mem _ (List.mem_cons_of_mem _ (List.mem_cons_of_mem _ hq))))).2
  have z34 : @LT.lt Nat _ 34 s.heap.objs.size := Heap.lt_size N34.1
  have z41 : @LT.lt Nat _ 41 s.heap.objs.size := Heap.lt_size N41.1
  have z97 : @LT.lt Nat _ 97 s.heap.objs.size := Heap.lt_size N97.1
  refine i2d_spec X T C.c34 F.keep C.n34 (Nat.le_trans F.above (Nat.le_of_lt F.ns.lt)) hdp hun (K.t34.tb1 N34.1 Nt) hn1 hn2 hx0 hnd fun h' r vs n' c' tk' k hr hrg hin F1 hc => ?_
  have F' : Fr b L h' m := fr_but1 F C.n34 (Ne.symm N34.2.1) k
  have k41 : h'.get? 41 = some o41 := k 41 _ (by decide) N41.1
  have k97 : h'.get? 97 = some o97 := k 97 _ (by decide) N97.1
  have kt : ∀ q ∈ tabs, h'.get? q.1 = some q.2 := fun q hq => k _ _ (K.off q hq).1 (Nt q hq)
  obtain ⟨o', us, e', ku, KO, hsub, hnew⟩ := tab_after K.t34 N34.1 F1 hc kt
  have hnew' : ∀ q ∈ us, q ∈ tabs ∨ ∀ z ∈ news, @Ne Nat z.1 q.1 := fun q hq => (hnew q hq).imp (fun h => h) fun h z hz => Nat.ne_of_lt (Nat.lt_of_lt_of_le (Heap.lt_size (N z hz).1) h.2)
  have hoff : ∀ q ∈ us, @Ne Nat q.1 34 ∧ @Ne Nat q.1 41 ∧ @Ne Nat q.1 97 := fun q hq => by
    rcases hnew q hq with h | h
    · exact K.off q h
    · have h2 : @LE.le Nat _ s.heap.objs.size q.1 := h.2
      exact ⟨Nat.ne_of_gt (Nat.lt_of_lt_of_le z34 h2), Nat.ne_of_gt (Nat.lt_of_lt_of_le z41 h2), Nat.ne_of_gt (Nat.lt_of_lt_of_le z97 h2)⟩
  have hnu : ∀ q ∈ us, q.1 ≠ L ∧ b.get? q.1 = none := fun q hq => by
    rcases hnew q hq with h | h
    · exact Nt' q h
    · exact ⟨Nat.ne_of_gt (Nat.lt_of_lt_of_le F.ns.lt h.2), h.1⟩
  have NN : News b L h' (pre ++ (34, o') :: (41, o41) :: (97, o97) :: us) := by
    refine swap_keep hsw N k ?_
    intro q hq
    rcases List.mem_cons.mp hq with rfl | hq
    · exact ⟨e', N34.2⟩
    rcases List.mem_cons.mp hq with rfl | hq
    · exact ⟨k41, N41.2⟩
    rcases List.mem_cons.mp hq with rfl | hq
    · exact ⟨k97, N97.2⟩
    exact ⟨ku q hq, hnu q hq⟩
  have hLr : @LT.lt Nat _ L r := Nat.lt_of_lt_of_le F.ns.lt hr
  refine h h' r vs n' o' o41 o97 us tk' ⟨KO, K.t41.more hsub, K.t97.more hsub, hoff⟩ F' ?_ hLr (fun q hq => Nat.ne_of_lt (Nat.lt_of_lt_of_le (Heap.lt_size (N q hq).1) hr)) hin hnew' hsub
  intro q hq
  rcases List.mem_cons.mp hq with rfl | hq
  · exact ⟨hrg, Nat.ne_of_gt hLr, Heap.get?_none_of_le (Nat.le_trans (Nat.le_trans F.above (Nat.le_of_lt F.ns.lt)) hr)⟩
  · exact NN q hq

theorem d2i_F {d : Addr} {vs : List Value} {ns : List Int} {nn : Int} {tn : Tok} {k0 : Nat} {o34 o41 o97 : Obj} {tabs : List (Addr × Obj)} {pre : List (Addr × Obj)} (F : Fr b L s.heap m) (N : News b L s.heap news) (X : (hd.heap_39 w.params).In b) (T : Top p loose mean mg mb b) (C : Cds b) (K : Tabs b o34 o41 o97 tabs)
   (hdp : A.depth < 400) (hun : A.units < 1000) (hm : (d, listOf vs.toArray k0) ∈ news) (hin : IntsAre vs ns) (hn1 : 1 ≤ nn) (hn2 : nn < 2000) (hx : ∀ x ∈ ns, Small x nn.toNat) (hlen : ns.length < 100)
   (hsw : Pre 41 ((34, o34) :: (41, o41) :: (97, o97) :: tabs) pre news)
   (h : ∀ h' t p1 p2 p3 us tk', Tabs b p1 p2 p3 us → Fr b L h' m → News b L h' (pre ++ (34, p1) :: (41, p2) :: (97, p3) :: us) → (∀ q ∈ us, q ∈ tabs ∨ ∀ z ∈ news, @Ne Nat z.1 q.1) → (∀ q ∈ tabs, q ∈ us) → Q (.int (evalDig nn.toNat ns) t) { s with heap := h', toks := tk' }) :
   wpAny (model prog w) A (call (.ref 46) [.ref d, .int nn tn]) Q E s := by
  have S : ∀ q ∈ (34, o34) :: (41, o41) :: (97, o97) :: tabs, q ∈ news := fun q hq => by rw [hsw.all.1]; exact List.mem_append_right _ hq
  have N34 := N _ (S _ List.mem_cons_self)
  have N41 := N _ (S _ (List.mem_cons_of_mem _ List.mem_cons_self))
  have N97 := N _ (S _ (List.mem_cons_of_mem _ (List.mem_cons_of_mem _ List.mem_cons_self)))
  have Nt : ∀ q ∈ tabs, s.heap.get? q.1 = some q.2 := fun q hq => (N _ (S _ (List.mem_cons_of_mem _ (List.mem_cons_of_mem _ (List.mem_cons_of_mem _ hq))))).1
  have Nt' : ∀ q ∈ tabs, q.1 ≠ L ∧ b.get? q.1 = none := fun q hq => (N _ (S _ (List.mem_cons_of_mem _ (List.mem_cons_of_mem _ (List.mem_cons_of_mem _ hq))))).2
  have z34 : @LT.lt Nat _ 34 s.heap.objs.size := Heap.lt_size N34.1
  have z41 : @LT.lt Nat _ 41 s.heap.objs.size := Heap.lt_size N41.1
  have z97 : @LT.lt Nat _ 97 s.heap.objs.size := Heap.lt_size N97.1
  refine d2i_spec X T C.c41 F.keep C.n41 (Nat.le_trans F.above (Nat.le_of_lt F.ns.lt)) hdp hun (K.t41.tb1 N41.1 Nt) ⟨_, (N _ hm).1, rfl, _, rfl⟩ hin hn1 hn2 hx hlen fun h' t c' tk' k F1 hc => ?_
  have F' : Fr b L h' m := fr_but1 F C.n41 (Ne.symm N41.2.1) k
  have k34 : h'.get? 34 = some o34 := k 34 _ (by decide) N34.1
  have k97 : h'.get? 97 = some o97 := k 97 _ (by decide) N97.1
  have kt : ∀ q ∈ tabs, h'.get? q.1 = some q.2 := fun q hq => k _ _ (K.off q hq).2.1 (Nt q hq)
  obtain ⟨o', us, e', ku, KO, hsub, hnew⟩ := tab_after K.t41 N41.1 F1 hc kt
  have hnew' : ∀ q ∈ us, q ∈ tabs ∨ ∀ z ∈ news, @Ne Nat z.1 q.1 := fun q hq => (hnew q hq).imp (fun h => h) fun h z hz => Nat.ne_of_lt (Nat.lt_of_lt_of_le (Heap.lt_size (N z hz).1) h.2)
  have hoff : ∀ q ∈ us, @Ne Nat q.1 34 ∧ @Ne Nat q.1 41 ∧ @Ne Nat q.1 97 := fun q hq => by
    rcases hnew q hq with h | h
    · exact K.off q h
    · have h2 : @LE.le Nat _ s.heap.objs.size q.1 := h.2
      exact ⟨Nat.ne_of_gt (Nat.lt_of_lt_of_le z34 h2), Nat.ne_of_gt (Nat.lt_of_lt_of_le z41 h2), Nat.ne_of_gt (Nat.lt_of_lt_of_le z97 h2)⟩
  have hnu : ∀ q ∈ us, q.1 ≠ L ∧ b.get? q.1 = none := fun q hq => by
    rcases hnew q hq with h | h
    · exact Nt' q h
    · exact ⟨Nat.ne_of_gt (Nat.lt_of_lt_of_le F.ns.lt h.2), h.1⟩
  have NN : News b L h' (pre ++ (34, o34) :: (41, o') :: (97, o97) :: us) := by
    refine swap_keep hsw N k ?_
    intro q hq
    rcases List.mem_cons.mp hq with rfl | hq
    · exact ⟨k34, N34.2⟩
    rcases List.mem_cons.mp hq with rfl | hq
    · exact ⟨e', N41.2⟩
    rcases List.mem_cons.mp hq with rfl | hq
    · exact ⟨k97, N97.2⟩
    exact ⟨ku q hq, hnu q hq⟩
  exact h h' t o34 o' o97 us tk' ⟨K.t34.more hsub, KO, K.t97.more hsub, hoff⟩ F' NN hnew' hsub

theorem share_F {n q : Int} {tn : Tok} {o34 o41 o97 : Obj} {tabs : List (Addr × Obj)} {pre : List (Addr × Obj)} (F : Fr b L s.heap m) (N : News b L s.heap news) (X : (hd.heap_39 w.params).In b) (T : Top p loose mean mg mb b) (C : Cds b) (K : Tabs b o34 o41 o97 tabs)
   (hdp : A.depth < 800) (h0 : 0 ≤ n) (h1 : n < 2 ^ 24) (hq : 1 ≤ q ∧ q ≤ n + 1) (hlow : ∀ i : Nat, (i : Int) < q → (i : Int) * (i + (n + 1)) < (n + 1) * (n + 1)) (hhigh : ∀ i : Nat, q ≤ i → (i : Int) ≤ n → (n + 1) * (n + 1) ≤ (i : Int) * (i + (n + 1)))
   (hsw : Pre 97 ((34, o34) :: (41, o41) :: (97, o97) :: tabs) pre news)
   (h : ∀ h' t p1 p2 p3 us tk', Tabs b p1 p2 p3 us → Fr b L h' m → News b L h' (pre ++ (34, p1) :: (41, p2) :: (97, p3) :: us) → (∀ q ∈ us, q ∈ tabs ∨ ∀ z ∈ news, @Ne Nat z.1 q.1) → (∀ q ∈ tabs, q ∈ us) → Q (.int (q - 1) t) { s with heap := h', toks := tk' }) :
   wpAny (model prog w) A (call (.ref 102) [.int n tn]) Q E s := by
  have S : ∀ q ∈ (34, o34) :: (41, o41) :: (97, o97) :: tabs, q ∈ news := fun q hq => by rw [hsw.all.1]; exact List.mem_append_right _ hq
  have N34 := N _ (S _ List.mem_cons_self)
  have N41 := N _ (S _ (List.mem_cons_of_mem _ List.mem_cons_self))
  have N97 := N _ (S _ (List.mem_cons_of_mem _ (List.mem_cons_of_mem _ List.mem_cons_self)))
  have Nt : ∀ q ∈ tabs, s.heap.get? q.1 = some q.2 := fun q hq => (N _ (S _ (List.mem_cons_of_mem _ (List.mem_cons_of_mem _ (List.mem_cons_of_mem _ hq))))).1
  have Nt' : ∀ q ∈ tabs, q.1 ≠ L ∧ b.get? q.1 = none := fun q hq => (N _ (S _ (List.mem_cons_of_mem _ (List.mem_cons_of_mem _ (List.mem_cons_of_mem _ hq))))).2
  have z34 : @LT.lt Nat _ 34 s.heap.objs.size := Heap.lt_size N34.1
  have z41 : @LT.lt Nat _ 41 s.heap.objs.size := Heap.lt_size N41.1
  have z97 : @LT.lt Nat _ 97 s.heap.objs.size := Heap.lt_size N97.1
  refine share_call X T C.c97 F.keep C.n97 (Nat.le_trans F.above (Nat.le_of_lt F.ns.lt)) hdp (K.t97.tb2 N97.1 Nt) h0 h1 hq hlow hhigh fun h' t c1 c2 tk' k F2 hc => ?_
  have F' : Fr b L h' m := fr_but1 F C.n97 (Ne.symm N97.2.1) k
  have k34 : h'.get? 34 = some o34 := k 34 _ (by decide) N34.1
  have k41 : h'.get? 41 = some o41 := k 41 _ (by decide) N41.1
  have kt : ∀ q ∈ tabs, h'.get? q.1 = some q.2 := fun q hq => k _ _ (K.off q hq).2.2 (Nt q hq)
  obtain ⟨o', us, e', ku, KO, hsub, hnew⟩ := tab_after2 K.t97 N97.1 F2 hc kt
  have hnew' : ∀ q ∈ us, q ∈ tabs ∨ ∀ z ∈ news, @Ne Nat z.1 q.1 := fun q hq => (hnew q hq).imp (fun h => h) fun h z hz => Nat.ne_of_lt (Nat.lt_of_lt_of_le (Heap.lt_size (N z hz).1) h.2)
  have hoff : ∀ q ∈ us, @Ne Nat q.1 34 ∧ @Ne Nat q.1 41 ∧ @Ne Nat q.1 97 := fun q hq => by
    rcases hnew q hq with h | h
    · exact K.off q h
    · have h2 : @LE.le Nat _ s.heap.objs.size q.1 := h.2
      exact ⟨Nat.ne_of_gt (Nat.lt_of_lt_of_le z34 h2), Nat.ne_of_gt (Nat.lt_of_lt_of_le z41 h2), Nat.ne_of_gt (Nat.lt_of_lt_of_le z97 h2)⟩
  have hnu : ∀ q ∈ us, q.1 ≠ L ∧ b.get? q.1 = none := fun q hq => by
    rcases hnew q hq with h | h
    · exact Nt' q h
    · exact ⟨Nat.ne_of_gt (Nat.lt_of_lt_of_le F.ns.lt h.2), h.1⟩
  have NN : News b L h' (pre ++ (34, o34) :: (41, o41) :: (97, o') :: us) := by
    refine swap_keep hsw N k ?_
    intro q hq
    rcases List.mem_cons.mp hq with rfl | hq
    · exact ⟨k34, N34.2⟩
    rcases List.mem_cons.mp hq with rfl | hq
    · exact ⟨k41, N41.2⟩
    rcases List.mem_cons.mp hq with rfl | hq
    · exact ⟨e', N97.2⟩
    exact ⟨ku q hq, hnu q hq⟩
  exact h h' t o34 o41 o' us tk' ⟨K.t34.more hsub, K.t41.more hsub, KO, hoff⟩ F' NN hnew' hsub

/-- a new object r in a heap that stays -/
theorem new_news {h h' : Heap} {r : Addr} {o : Obj} (F : Fr b L h m) (N : News b L h news) (st : h.StaysIn h') (hr : h.get? r = none) (e : h'.get? r = some o) : News b L h' ((r, o) :: news) ∧ (∀ q ∈ news, @Ne Nat q.1 r) := by
  have hL : r ≠ L := fun q => by obtain ⟨o', _, _, e', _⟩ := F.ns; rw [q, e'] at hr; cases hr
  have hb : b.get? r = none := by
    cases g : b.get? r with
    | none => rfl
    | some o' => have := F.keep r o' g; rw [hr] at this; cases this
  refine ⟨fun q hq => ?_, fun q hq => ?_⟩
  · rcases List.mem_cons.mp hq with rfl | hq
    · exact ⟨e, hL, hb⟩
    · exact ⟨st _ _ (N q hq).1, (N q hq).2⟩
  · intro e'
    have := (N q hq).1
    have e'' : q.1 = r := e'
    rw [e'', hr] at this; cases this
theorem ladder_F (F : Fr b L s.heap m) (N : News b L s.heap news) (X : (hd.heap_39 w.params).In b) (T : Top p loose mean mg mb b) (hdp : A.depth < 800) (hh : A.handled = none)
   (h : ∀ h' r vs n' tk', Fr b L h' m → News b L h' ((r, listOf vs.toArray n') :: news) → (∀ q ∈ news, @Ne Nat q.1 r) → IntsAre vs FL → Q (.ref r) { s with heap := h', toks := tk' }) :
   wpAny (model prog w) A (call (.ref 81) []) Q E s := by
  refine ladder_call (X.keeps F.keep) (T.keeps F.keep) hdp hh fun h' r vs n' tk' st hr e hin => ?_
  have z := new_news F N st hr e
  exact h h' r vs n' tk' (F.keeps st) z.1 z.2 hin
theorem marks_F {ll : Addr} {us : List Value} {k0 : Nat} {n : Int} {tn : Tok} (F : Fr b L s.heap m) (N : News b L s.heap news) (X : (hd.heap_39 w.params).In b) (T : Top p loose mean mg mb b) (hdp : A.depth < 800) (hh : A.handled = none)
   (hm : (ll, listOf us.toArray k0) ∈ news) (hin : IntsAre us FL) (h0 : 0 ≤ n)
   (h : ∀ h' r vs n' ms tk', Fr b L h' m → News b L h' ((r, listOf vs.toArray n') :: news) → (∀ q ∈ news, @Ne Nat q.1 r) → IntsAre vs ms → Grd n (List.replicate (cnt n) 0) ms → ms.length = cnt n → Q (.ref r) { s with heap := h', toks := tk' }) :
   wpAny (model prog w) A (call (.ref 88) [.int n tn, .ref ll]) Q E s := by
  refine marks_call (X.keeps F.keep) (T.keeps F.keep) hdp hh ⟨_, (N _ hm).1, rfl, _, rfl⟩ hin h0 fun h' r vs n' ms tk' st hr e hin' hg hl => ?_
  have z := new_news F N st hr e
  exact h h' r vs n' ms tk' (F.keeps st) z.1 z.2 hin' hg hl
theorem worth_F {lf ll : Addr} {vs us : List Value} {k0 k1 : Nat} {fs : List Int} {a : Nat} {a' : Int} {ta : Tok} (F : Fr b L s.heap m) (N : News b L s.heap news) (X : (hd.heap_39 w.params).In b) (T : Top p loose mean mg mb b) (hdp : A.depth < 800) (hh : A.handled = none)
   (hm : (lf, listOf vs.toArray k0) ∈ news) (hif : IntsAre vs fs) (hm2 : (ll, listOf us.toArray k1) ∈ news) (hil : IntsAre us FL) (ha : a' = (a : Nat)) (hlen : fs.length + a ≤ FL.length)
   (h : ∀ t h' tk', Fr b L h' m → News b L h' news → Q (.int (wsum FL fs a fs.length) t) { s with heap := h', toks := tk' }) :
   wpAny (model prog w) A (call (.ref 95) [.ref lf, .int a' ta, .ref ll]) Q E s := by
  subst ha
  exact worth_call (X.keeps F.keep) (T.keeps F.keep) hdp hh ⟨_, (N _ hm).1, rfl, _, rfl⟩ hif ⟨_, (N _ hm2).1, rfl, _, rfl⟩ hil hlen (by rw [FL_len]; decide) FL_small fun t h' tk' st => h t h' tk' (F.keeps st) (N.grown st)

theorem off3_swap {I C D : Addr} {ts us l l' : List (Addr × Obj)} {ws : List (Addr × Obj)} {oI oC oD : Obj} (S : Swap ts us l l') (O : LCg.Off3 I C D l) (hu : ∀ q ∈ us, q ∈ ts ∨ ∀ z ∈ ws, @Ne Nat z.1 q.1)
    (hI : (I, oI) ∈ ws) (hC : (C, oC) ∈ ws) (hD : (D, oD) ∈ ws) : LCg.Off3 I C D l' := by
  induction S with
  | here =>
    refine ⟨O.1, O.2.1, O.2.2.1, ?_⟩
    have ht := O.2.2.2.mem
    refine LCg.Off3.of fun q hq => ?_
    rcases hu q hq with h | h
    · exact ht q h
    · exact ⟨Ne.symm (h _ hI), Ne.symm (h _ hC), Ne.symm (h _ hD)⟩
  | cons r ih => exact ⟨O.1, ih O.2⟩
theorem off_I {I C D P : Addr} {o : Obj} {l : List (Addr × Obj)} (O : LCg.Off3 I C D l) (hm : (P, o) ∈ l) : @Ne Nat I P := Ne.symm (O.mem _ hm).1
theorem off_C {I C D P : Addr} {o : Obj} {l : List (Addr × Obj)} (O : LCg.Off3 I C D l) (hm : (P, o) ∈ l) : @Ne Nat C P := Ne.symm (O.mem _ hm).2.1
theorem off_D {I C D P : Addr} {o : Obj} {l : List (Addr × Obj)} (O : LCg.Off3 I C D l) (hm : (P, o) ∈ l) : @Ne Nat D P := Ne.symm (O.mem _ hm).2.2
theorem off3_swap2 {I C D : Addr} {ts us l l' : List (Addr × Obj)} {ws : List (Addr × Obj)} {oI oC oD : Obj} (O : LCg.Off3 I C D l) (hu : ∀ q ∈ us, q ∈ ts ∨ ∀ z ∈ ws, @Ne Nat z.1 q.1)
    (hI : (I, oI) ∈ ws) (hC : (C, oC) ∈ ws) (hD : (D, oD) ∈ ws) (S : Swap ts us l l') : LCg.Off3 I C D l' := off3_swap S O hu hI hC hD
theorem end_new {h' : Heap} {tk : Nat} {s₁ : Shared} {I C D r : Addr} {oI oC oD o : Obj} {S : List (Addr × Obj) → Prop} {rest : Value → List (Addr × Obj) → Prop} {y : Value} {l l0 : List (Addr × Obj)}
    (F : Fr b L h' m) (N : News b L h' ((r, o) :: (I, oI) :: (C, oC) :: (D, oD) :: l)) (nr : ∀ q ∈ (I, oI) :: (C, oC) :: (D, oD) :: l0, @Ne Nat q.1 r) (O : LCg.Off3 I C D l) (hS : S ((r, o) :: l)) (R : rest y ((r, o) :: l)) :
    LCg.CompEnd b L m s₁ I oI C oC D oD S rest y { s₁ with heap := h', toks := tk } := by
  refine LCg.CompEnd.intro F N ((r, o) :: l) (fun q hq => ?_) ⟨⟨Ne.symm (nr (I, oI) List.mem_cons_self), Ne.symm (nr (C, oC) (List.mem_cons_of_mem _ List.mem_cons_self)), Ne.symm (nr (D, oD) (List.mem_cons_of_mem _ (List.mem_cons_of_mem _ List.mem_cons_self)))⟩, O⟩ hS R
  simp only [List.mem_cons] at hq ⊢
  rcases hq with h | h | h | h | h
  · exact .inr (.inl h)
  · exact .inr (.inr (.inl h))
  · exact .inr (.inr (.inr (.inl h)))
  · exact .inl h
  · exact .inr (.inr (.inr (.inr h)))

theorem Tabs.more {b : Heap} {o34 o41 o97 : Obj} {tabs us : List (Addr × Obj)} (K : Tabs b o34 o41 o97 tabs) (k : ∀ q ∈ tabs, q ∈ us) (ho : ∀ q ∈ us, @Ne Nat q.1 34 ∧ @Ne Nat q.1 41 ∧ @Ne Nat q.1 97) : Tabs b o34 o41 o97 us :=
  ⟨K.t34.more k, K.t41.more k, K.t97.more k, ho⟩
theorem Tabs.add {b : Heap} {o34 o41 o97 : Obj} {tabs : List (Addr × Obj)} {q : Addr × Obj} (K : Tabs b o34 o41 o97 tabs) (h1 : @Ne Nat q.1 34) (h2 : @Ne Nat q.1 41) (h3 : @Ne Nat q.1 97) : Tabs b o34 o41 o97 (q :: tabs) :=
  K.more (fun _ h => List.mem_cons_of_mem _ h) fun z hz => by
    rcases List.mem_cons.mp hz with rfl | hz
    · exact ⟨h1, h2, h3⟩
    · exact K.off z hz
end
end Mine
end
section
namespace Mine
-- part P3
set_option maxRecDepth 10000
/-- the numbers 0, 1, 1, 2, 3, .. -/
def F : Nat → Int
  | 0 => 0
  | 1 => 1
  | n + 2 => F (n + 1) + F n
theorem F_rec (n : Nat) : F (n + 2) = F (n + 1) + F n := rfl
theorem F_nonneg : ∀ n, 0 ≤ F n ∧ 0 ≤ F (n + 1)
  | 0 => by decide
  | n + 1 => by
    have h := F_nonneg n
    have e : F (n + 1 + 1) = F (n + 1) + F n := rfl
    exact ⟨h.2, by omega⟩
theorem F_mono {i j : Nat} (h : i ≤ j) (hi : 1 ≤ i) : F i ≤ F j := by
  induction j with
  | zero => omega
  | succ j ih =>
    by_cases e : i = j + 1
    · rw [e]; exact Int.le_refl _
    · obtain ⟨k, rfl⟩ : ∃ k, j = k + 1 := ⟨j - 1, by omega⟩
      have := ih (by omega)
      have e2 : F (k + 1 + 1) = F (k + 1) + F k := rfl
      have := (F_nonneg k).1
      omega
theorem fibs_get : ∀ (n j k : Nat), k < n → (fibs n (F j) (F (j + 1))).getD k 0 = F (j + k)
  | 0, _, _, h => by omega
  | n + 1, j, 0, _ => rfl
  | n + 1, j, k + 1, h => by
    show (fibs n (F (j + 1)) (F j + F (j + 1))).getD k 0 = _
    have e : F j + F (j + 1) = F (j + 1 + 1) := by rw [F_rec, Int.add_comm]
    rw [e, fibs_get n (j + 1) k (by omega)]
    congr 1; omega
theorem FL_get {k : Nat} (h : k < 48) : FL.getD k 0 = F (k + 2) := by
  have := fibs_get 48 2 k h
  rw [Nat.add_comm 2 k] at this
  exact this

/-- the numbers of c, each by the F at its place, the first by F k -/
def val (k : Nat) : List Int → Int
  | [] => 0
  | x :: c => x * F k + val (k + 1) c
theorem val_rec : ∀ (c : List Int) (k : Nat), val (k + 2) c = val (k + 1) c + val k c
  | [], _ => rfl
  | x :: c, k => by
    simp only [val]
    rw [val_rec c (k + 1), F_rec, Int.mul_add]
    omega
theorem val_append : ∀ (c d : List Int) (k : Nat), val k (c ++ d) = val k c + val (k + c.length) d
  | [], d, k => by simp [val]
  | x :: c, d, k => by
    simp only [val, List.cons_append, List.length_cons]
    rw [val_append c d (k + 1), show k + 1 + c.length = k + (c.length + 1) by omega]
    omega
theorem val_zeros : ∀ (n k : Nat), val k (List.replicate n 0) = 0
  | 0, _ => rfl
  | n + 1, k => by
    rw [List.replicate_succ, val, val_zeros n (k + 1)]
    simp
theorem val_set : ∀ (c : List Int) (i k : Nat) (y : Int), i < c.length → val k (c.set i y) = val k c + (y - c.getD i 0) * F (k + i)
  | [], _, _, _, h => by simp at h
  | x :: c, 0, k, y, h => by
    simp only [List.set_cons_zero, val, List.getD_cons_zero, Nat.add_zero, Int.sub_mul]
    omega
  | x :: c, i + 1, k, y, h => by
    simp only [List.set_cons_succ, val, List.getD_cons_succ]
    rw [val_set c i (k + 1) y (by simpa using h), show k + 1 + i = k + (i + 1) by omega]
    omega
theorem wsum_val {fs : List Int} {a : Nat} (h : fs.length + a ≤ 48) : ∀ i, i ≤ fs.length → wsum FL fs a i = val (a + 2) (fs.take i)
  | 0, _ => rfl
  | i + 1, hi => by
    have hlt : i < fs.length := hi
    rw [wsum, wsum_val h i (by omega), FL_get (by omega), List.take_add_one, val_append, List.getElem?_eq_getElem hlt]
    simp only [Option.toList, val, List.length_take, Nat.min_eq_left (Nat.le_of_lt hlt)]
    rw [show a + 2 + i = i + a + 2 by omega, List.getD_eq_getElem?_getD, List.getElem?_eq_getElem hlt]
    simp
theorem worth_val {fs : List Int} {a : Nat} (h : fs.length + a ≤ 48) : wsum FL fs a fs.length = val (a + 2) fs := by
  rw [wsum_val h fs.length (Nat.le_refl _), List.take_length]

/-- the product of two lists of coefficients -/
def addL : List Int → List Int → List Int
  | [], d => d
  | c, [] => c
  | x :: c, y :: d => (x + y) :: addL c d
def sc (x : Int) (d : List Int) : List Int := d.map (x * ·)
def conv : List Int → List Int → List Int
  | [], _ => []
  | x :: c, d => addL (sc x d) (0 :: conv c d)
theorem val_add : ∀ (c d : List Int) (k : Nat), val k (addL c d) = val k c + val k d
  | [], d, k => by simp [addL, val]
  | x :: c, [], k => by simp [addL, val]
  | x :: c, y :: d, k => by
    simp only [addL, val]
    rw [val_add c d (k + 1), Int.add_mul]
    omega
theorem val_sc (x : Int) : ∀ (d : List Int) (k : Nat), val k (sc x d) = x * val k d
  | [], k => by simp [sc, val]
  | y :: d, k => by
    have := val_sc x d (k + 1)
    simp only [sc, List.map_cons, val] at this ⊢
    rw [this, Int.mul_add, Int.mul_assoc]
theorem conv_val (d : List Int) : ∀ c : List Int, val 4 (conv c d) = val 2 c * val 2 d + val 2 c * val 1 d + val 1 c * val 2 d ∧ val 3 (conv c d) = val 2 c * val 2 d + val 1 c * val 1 d
  | [] => by simp [conv, val]
  | x :: c => by
    obtain ⟨h4, h3⟩ := conv_val d c
    have r5 := val_rec (conv c d) 3
    have d4 := val_rec d 2
    have d3 := val_rec d 1
    have c3 := val_rec c 1
    simp only [conv, val_add, val_sc, val] at *
    rw [c3]
    have f2 : F 2 = 1 := rfl
    have f1 : F 1 = 1 := rfl
    simp only [Nat.reduceAdd] at *
    rw [f2, f1, r5, h4, h3, d4, d3]
    simp only [Int.mul_one, Int.zero_mul, Int.zero_add, Int.add_mul, Int.mul_add]
    constructor <;> omega
theorem conv_val6 (d : List Int) (c : List Int) (k : Nat) : val (k + 2) (conv c d) = val (k + 1) (conv c d) + val k (conv c d) := val_rec _ _
theorem ev_add (w : Nat) : ∀ (c d : List Int), evalDig w (addL c d) = evalDig w c + evalDig w d
  | [], d => by simp [addL, evalDig]
  | x :: c, [] => by simp [addL, evalDig]
  | x :: c, y :: d => by
    simp only [addL, evalDig]
    rw [ev_add w c d, Int.mul_add]
    omega
theorem ev_sc (w : Nat) (x : Int) : ∀ (d : List Int), evalDig w (sc x d) = x * evalDig w d
  | [] => by simp [sc, evalDig]
  | y :: d => by
    have := ev_sc w x d
    simp only [sc, List.map_cons, evalDig] at this ⊢
    rw [this, Int.mul_add, ← Int.mul_assoc, ← Int.mul_assoc, Int.mul_comm x (2 ^ w)]
theorem ev_conv (w : Nat) (d : List Int) : ∀ c : List Int, evalDig w (conv c d) = evalDig w c * evalDig w d
  | [] => by simp [conv, evalDig]
  | x :: c => by
    simp only [conv, ev_add, ev_sc, evalDig]
    rw [ev_conv w d c, Int.add_mul, Int.zero_add, Int.mul_assoc]
theorem sum_add : ∀ (c d : List Int), (addL c d).sum = c.sum + d.sum
  | [], d => by simp [addL]
  | x :: c, [] => by simp [addL]
  | x :: c, y :: d => by
    simp only [addL, List.sum_cons]
    rw [sum_add c d]
    omega
theorem sum_sc (x : Int) : ∀ (d : List Int), (sc x d).sum = x * d.sum
  | [] => by simp [sc]
  | y :: d => by
    have := sum_sc x d
    simp only [sc, List.map_cons, List.sum_cons] at this ⊢
    rw [this, Int.mul_add]
theorem sum_conv (d : List Int) : ∀ c : List Int, (conv c d).sum = c.sum * d.sum
  | [] => by simp [conv]
  | x :: c => by
    simp only [conv, sum_add, sum_sc, List.sum_cons]
    rw [sum_conv d c, Int.add_mul, Int.zero_add]
theorem bound_add {A B : Int} (hA : 0 ≤ A) (hB : 0 ≤ B) : ∀ (c d : List Int), (∀ x ∈ c, 0 ≤ x ∧ x ≤ A) → (∀ x ∈ d, 0 ≤ x ∧ x ≤ B) → ∀ z ∈ addL c d, 0 ≤ z ∧ z ≤ A + B
  | [], d, _, hd, z, hz => by have := hd z hz; omega
  | x :: c, [], hc, _, z, hz => by have := hc z hz; omega
  | x :: c, y :: d, hc, hd, z, hz => by
    rcases List.mem_cons.mp hz with rfl | hz
    · have := hc x List.mem_cons_self; have := hd y List.mem_cons_self; omega
    · exact bound_add hA hB c d (fun x h => hc x (List.mem_cons_of_mem _ h)) (fun x h => hd x (List.mem_cons_of_mem _ h)) z hz
theorem sum_nonneg : ∀ (c : List Int), (∀ x ∈ c, 0 ≤ x) → 0 ≤ c.sum
  | [], _ => by simp
  | x :: c, h => by
    have := sum_nonneg c fun y hy => h y (List.mem_cons_of_mem _ hy)
    have := h x List.mem_cons_self
    simp only [List.sum_cons]; omega
theorem bound_conv {M : Int} (hM : 0 ≤ M) (d : List Int) (hd : ∀ y ∈ d, 0 ≤ y ∧ y ≤ M) : ∀ (c : List Int), (∀ x ∈ c, 0 ≤ x) → ∀ z ∈ conv c d, 0 ≤ z ∧ z ≤ c.sum * M
  | [], _, z, hz => by simp [conv] at hz
  | x :: c, hc, z, hz => by
    have hx := hc x List.mem_cons_self
    have hc' : ∀ y ∈ c, 0 ≤ y := fun y hy => hc y (List.mem_cons_of_mem _ hy)
    have hs := Int.mul_nonneg (sum_nonneg c hc') hM
    have := bound_add (A := x * M) (B := c.sum * M) (Int.mul_nonneg hx hM) hs (sc x d) (0 :: conv c d) (fun y hy => by
      obtain ⟨v, hv, rfl⟩ := List.mem_map.mp hy
      exact ⟨Int.mul_nonneg hx (hd v hv).1, Int.mul_le_mul_of_nonneg_left (hd v hv).2 hx⟩) (fun y hy => by
      rcases List.mem_cons.mp hy with rfl | hy
      · exact ⟨Int.le_refl _, hs⟩
      · exact bound_conv hM d hd c hc' y hy) z hz
    rw [List.sum_cons, Int.add_mul]
    exact this
theorem len_add : ∀ (c d : List Int), (addL c d).length = max c.length d.length
  | [], d => by simp [addL]
  | x :: c, [] => by simp [addL]
  | x :: c, y :: d => by
    simp only [addL, List.length_cons]
    rw [len_add c d]
    omega
theorem len_conv (d : List Int) : ∀ (c : List Int), (conv c d).length ≤ c.length + max d.length 1 - 1
  | [] => by simp [conv]
  | x :: c => by
    have := len_conv d c
    simp only [conv, len_add, sc, List.length_map, List.length_cons]
    omega

/-- marks: none, or ones with no two side by side -/
inductive NA : List Int → Prop
  | nil : NA []
  | zero {c : List Int} : NA c → NA (0 :: c)
  | last : NA [1]
  | one {c : List Int} : NA c → NA (1 :: 0 :: c)
theorem NA.bits {c : List Int} (h : NA c) : ∀ x ∈ c, x = 0 ∨ x = 1 := by
  induction h with
  | nil => exact fun x h => nomatch h
  | zero _ ih => intro x hx; rcases List.mem_cons.mp hx with rfl | hx; exact .inl rfl; exact ih x hx
  | last => intro x hx; rw [List.mem_singleton.mp hx]; exact .inr rfl
  | one _ ih =>
    intro x hx
    rcases List.mem_cons.mp hx with rfl | hx
    · exact .inr rfl
    rcases List.mem_cons.mp hx with rfl | hx
    · exact .inl rfl
    · exact ih x hx
theorem val_shift (c : List Int) : val 3 c = val 2 c + val 1 c := val_rec c 1
theorem val2_cons (x : Int) (c : List Int) : val 2 (x :: c) = x + val 2 c + val 1 c := by
  show x * F 2 + val 3 c = _
  rw [val_shift, show F 2 = 1 from rfl]
  omega
theorem val1_cons (x : Int) (c : List Int) : val 1 (x :: c) = x + val 2 c := by
  show x * F 1 + val 2 c = _
  rw [show F 1 = 1 from rfl]
  omega
theorem NA.nonneg {c : List Int} (h : NA c) : 0 ≤ val 2 c ∧ 0 ≤ val 1 c := by
  induction h with
  | nil => exact ⟨Int.le_refl _, Int.le_refl _⟩
  | zero _ ih => constructor <;> simp only [val2_cons, val1_cons] <;> omega
  | last => decide
  | one _ ih => constructor <;> simp only [val2_cons, val1_cons] <;> omega
/-- the least number with so many ones -/
theorem NA.least {c : List Int} (h : NA c) : ∃ k : Nat, c.sum = k ∧ F (2 * k + 1) ≤ val 2 c + 1 ∧ F (2 * k) ≤ val 1 c := by
  induction h with
  | nil => exact ⟨0, rfl, by decide, by decide⟩
  | zero hc ih =>
    obtain ⟨k, hs, h2, h1⟩ := ih
    refine ⟨k, by rw [List.sum_cons, hs]; omega, ?_, ?_⟩
    · rw [val2_cons]
      have := hc.nonneg
      have := (F_nonneg (2 * k)).1
      omega
    · rw [val1_cons]
      cases k with
      | zero => have := hc.nonneg; simp only [Nat.mul_zero]; rw [show F 0 = 0 from rfl]; omega
      | succ k =>
        have e := F_rec (2 * k + 1)
        have := (F_nonneg (2 * k)).2
        have hm := F_mono (i := 1) (j := 2 * k + 1) (by omega) (by omega)
        rw [show F 1 = 1 from rfl] at hm
        rw [show 2 * (k + 1) = 2 * k + 2 by omega] at *
        rw [show 2 * k + 2 + 1 = 2 * k + 1 + 2 by omega] at h2
        rw [show 2 * k + 1 + 1 = 2 * k + 2 by omega] at e
        omega
  | last => exact ⟨1, rfl, by decide, by decide⟩
  | one hc ih =>
    obtain ⟨k, hs, h2, h1⟩ := ih
    refine ⟨k + 1, by rw [List.sum_cons, List.sum_cons, hs]; omega, ?_, ?_⟩
    · rw [val2_cons, val2_cons, val1_cons]
      have e1 := F_rec (2 * k + 1)
      have e2 := F_rec (2 * k)
      rw [show 2 * (k + 1) + 1 = 2 * k + 1 + 2 by omega]
      rw [show 2 * k + 1 + 1 = 2 * k + 2 by omega] at e1
      omega
    · rw [val1_cons, val2_cons]
      have e2 := F_rec (2 * k)
      rw [show 2 * (k + 1) = 2 * k + 2 by omega]
      omega
end Mine
end
section
namespace Mine
-- part P4
set_option maxRecDepth 10000
/-- s is the greatest with s (s + N) below N N, where N = n + 1 -/
def Shr (n s : Int) : Prop := s * (s + (n + 1)) < (n + 1) * (n + 1) ∧ (n + 1) * (n + 1) ≤ (s + 1) * (s + 1 + (n + 1))

theorem NA.lt {c : List Int} (h : NA c) : val 1 c ≤ val 2 c := by
  induction h with
  | nil => exact Int.le_refl _
  | zero h ih => have := h.nonneg; simp only [val2_cons, val1_cons]; omega
  | last => decide
  | one h ih => have := h.nonneg; simp only [val2_cons, val1_cons]; omega

theorem NA.shr {c : List Int} (h : NA c) : Shr (val 2 c) (val 1 c) := by
  induction h with
  | nil => unfold Shr; decide
  | last => unfold Shr; decide
  | @zero c hc ih =>
    have h0 := hc.nonneg
    have hl := hc.lt
    simp only [val2_cons, val1_cons]
    revert ih h0 hl
    generalize val 2 c = n
    generalize val 1 c = s
    intro ih h0 hl
    by_cases hz : n = 0
    · obtain rfl : s = 0 := by omega
      subst hz
      unfold Shr; decide
    obtain ⟨i1, i2⟩ := ih
    unfold Shr
    simp only [Int.zero_add, Int.add_mul, Int.mul_add, Int.one_mul, Int.mul_one] at *
    rw [Int.mul_comm s n] at *
    constructor
    · omega
    · omega
  | @one c hc ih =>
    have h0 := hc.nonneg
    simp only [val2_cons, val1_cons]
    revert ih h0
    generalize val 2 c = n
    generalize val 1 c = s
    intro ih h0
    obtain ⟨i1, i2⟩ := ih
    unfold Shr
    simp only [Int.zero_add, Int.add_mul, Int.mul_add, Int.one_mul, Int.mul_one] at *
    rw [Int.mul_comm s n] at *
    constructor
    · omega
    · omega

/-- what the share asks: the place where the bisection stops -/
theorem Shr.low {n s : Int} (h : Shr n s) (h0 : 0 ≤ n) (hs : 0 ≤ s) : ∀ i : Nat, (i : Int) < s + 1 → (i : Int) * (i + (n + 1)) < (n + 1) * (n + 1) := fun i hi =>
  Int.lt_of_le_of_lt (Int.mul_le_mul (by omega) (by omega) (by omega) hs) h.1
theorem Shr.high {n s : Int} (h : Shr n s) (h0 : 0 ≤ n) (hs : 0 ≤ s) : ∀ i : Nat, s + 1 ≤ i → (n + 1) * (n + 1) ≤ (i : Int) * (i + (n + 1)) := fun i hi =>
  Int.le_trans h.2 (Int.mul_le_mul hi (by omega) (by omega) (by omega))
theorem Shr.uniq {n s t : Int} (h : Shr n s) (h' : Shr n t) (h0 : 0 ≤ n) (hs : 0 ≤ s) (ht : 0 ≤ t) : s = t := by
  rcases Int.lt_trichotomy s t with g | g | g
  · have := Int.mul_le_mul (a := s + 1) (c := t) (b := s + 1 + (n + 1)) (d := t + (n + 1)) (by omega) (by omega) (by omega) (by omega)
    have := h.2
    have := h'.1
    omega
  · exact g
  · have := Int.mul_le_mul (a := t + 1) (c := s) (b := t + 1 + (n + 1)) (d := s + (n + 1)) (by omega) (by omega) (by omega) (by omega)
    have := h'.2
    have := h.1
    omega

/-- q and p stand for the golden section: p / q is next to it -/
def gq : Int := 165580141
def gp : Int := 102334155
theorem gpq : gp * gp + gp * gq = gq * gq - 1 := by decide
/-- how far s q lies from n p -/
theorem NA.near {c : List Int} (h : NA c) : val 2 c ≤ 2000 → -40 * gq ≤ 100 * (gq * val 1 c - gp * val 2 c) ∧ 100 * (gq * val 1 c - gp * val 2 c) ≤ 64 * gq := by
  induction h with
  | nil => intro _; decide
  | last => intro _; decide
  | @zero c hc ih =>
    have h0 := hc.nonneg
    simp only [val2_cons, val1_cons]
    revert ih h0
    generalize val 2 c = n
    generalize val 1 c = s
    intro ih h0 hn
    have := ih (by omega)
    unfold gq gp at *
    omega
  | @one c hc ih =>
    have h0 := hc.nonneg
    simp only [val2_cons, val1_cons]
    revert ih h0
    generalize val 2 c = n
    generalize val 1 c = s
    intro ih h0 hn
    have := ih (by omega)
    unfold gq gp at *
    omega

/-- the product of two such stays near -/
theorem corner {x y g : Int} (P Q : Int) (hx : 0 ≤ x) (hy : 0 ≤ y) (hP : 0 ≤ P * g) (h1 : 100 * x ≤ P * g) (h2 : 100 * y ≤ Q * g) : 0 ≤ x * y ∧ 10000 * (x * y) ≤ (P * Q) * (g * g) := by
  have v : (100 * x) * (100 * y) ≤ (P * g) * (Q * g) := Int.mul_le_mul h1 h2 (Int.mul_nonneg (by decide) hy) hP
  have e1 : (100 * x) * (100 * y) = 10000 * (x * y) := by rw [Int.mul_assoc, Int.mul_left_comm x, ← Int.mul_assoc]; rfl
  have e2 : (P * g) * (Q * g) = (P * Q) * (g * g) := by rw [Int.mul_assoc, Int.mul_left_comm g, ← Int.mul_assoc]
  rw [e1, e2] at v
  exact ⟨Int.mul_nonneg hx hy, v⟩
theorem neg40 {x g : Int} (h : -40 * g ≤ 100 * x) : 100 * -x ≤ 40 * g := by omega
theorem band_pos {p q : Int} (hq : 0 ≤ q) (h0 : 0 ≤ p) (h : 10000 * p ≤ 4096 * q) : -(26 * q) ≤ 100 * p ∧ 100 * p ≤ 41 * q := by omega
theorem band_neg {p q : Int} (hq : 0 ≤ q) (h0 : 0 ≤ -p) (h : 10000 * -p ≤ 2560 * q) : -(26 * q) ≤ 100 * p ∧ 100 * p ≤ 41 * q := by omega
theorem band {X1 X2 g : Int} (hq : 0 ≤ g) (e1 : -40 * g ≤ 100 * X1 ∧ 100 * X1 ≤ 64 * g) (e2 : -40 * g ≤ 100 * X2 ∧ 100 * X2 ≤ 64 * g) : -(26 * (g * g)) ≤ 100 * (X1 * X2) ∧ 100 * (X1 * X2) ≤ 41 * (g * g) := by
  have gg := Int.mul_nonneg hq hq
  have p64 : 0 ≤ 64 * g := Int.mul_nonneg (by decide) hq
  have p40 : 0 ≤ 40 * g := Int.mul_nonneg (by decide) hq
  rcases Int.le_total 0 X1 with g1 | g1 <;> rcases Int.le_total 0 X2 with g2 | g2
  · have c := corner 64 64 g1 g2 p64 e1.2 e2.2
    exact band_pos gg c.1 c.2
  · have c := corner 64 40 g1 (Int.neg_nonneg.mpr g2) p64 e1.2 (neg40 e2.1)
    rw [Int.mul_neg] at c
    exact band_neg gg c.1 c.2
  · have c := corner 40 64 (Int.neg_nonneg.mpr g1) g2 p40 (neg40 e1.1) e2.2
    rw [Int.neg_mul] at c
    exact band_neg gg c.1 c.2
  · have c := corner 40 40 (Int.neg_nonneg.mpr g1) (Int.neg_nonneg.mpr g2) p40 (neg40 e1.1) (neg40 e2.1)
    rw [Int.neg_mul_neg] at c
    exact band_pos gg c.1 (Int.le_trans c.2 (Int.mul_le_mul_of_nonneg_right (by decide) gg))
theorem shr_mul {n1 s1 n2 s2 : Int} (a1 : 0 ≤ n1) (b1 : n1 ≤ 2000) (a2 : 0 ≤ n2) (b2 : n2 ≤ 2000) (c1 : 0 ≤ s1) (d1 : s1 ≤ n1) (c2 : 0 ≤ s2) (d2 : s2 ≤ n2)
    (e1 : -40 * gq ≤ 100 * (gq * s1 - gp * n1) ∧ 100 * (gq * s1 - gp * n1) ≤ 64 * gq) (e2 : -40 * gq ≤ 100 * (gq * s2 - gp * n2) ∧ 100 * (gq * s2 - gp * n2) ≤ 64 * gq) :
    Shr (n1 * n2 + n1 * s2 + s1 * n2) (n1 * n2 + s1 * s2) := by
  generalize hX1 : gq * s1 - gp * n1 = X1 at *
  generalize hX2 : gq * s2 - gp * n2 = X2 at *
  generalize hN : n1 * n2 + n1 * s2 + s1 * n2 = N
  generalize hS : n1 * n2 + s1 * s2 = S
  have hnn : 0 ≤ n1 * n2 := Int.mul_nonneg a1 a2
  have hns : 0 ≤ n1 * s2 := Int.mul_nonneg a1 c2
  have hsn : 0 ≤ s1 * n2 := Int.mul_nonneg c1 a2
  have hss : 0 ≤ s1 * s2 := Int.mul_nonneg c1 c2
  have hnn2 : n1 * n2 ≤ 2000 * 2000 := Int.mul_le_mul b1 b2 a2 (by omega)
  have hns2 : n1 * s2 ≤ 2000 * 2000 := Int.mul_le_mul b1 (by omega) c2 (by omega)
  have hsn2 : s1 * n2 ≤ 2000 * 2000 := Int.mul_le_mul (by omega) b2 a2 (by omega)
  have key : X1 * X2 = gq * (gq * S - gp * N) - n1 * n2 := by
    rw [← hX1, ← hX2, ← hS, ← hN]
    have e : gp * gp = gq * gq - 1 - gp * gq := by have := gpq; omega
    have l : (gq * s1 - gp * n1) * (gq * s2 - gp * n2) = gq * gq * (s1 * s2) - gp * gq * (s1 * n2) - gp * gq * (n1 * s2) + gp * gp * (n1 * n2) := by
      simp only [Int.sub_mul, Int.mul_sub]
      have t1 : gq * s1 * (gq * s2) = gq * gq * (s1 * s2) := by simp only [Int.mul_assoc, Int.mul_left_comm]
      have t2 : gp * n1 * (gq * s2) = gp * gq * (n1 * s2) := by simp only [Int.mul_assoc, Int.mul_left_comm]
      have t3 : gq * s1 * (gp * n2) = gp * gq * (s1 * n2) := by simp only [Int.mul_assoc, Int.mul_left_comm]
      have t4 : gp * n1 * (gp * n2) = gp * gp * (n1 * n2) := by simp only [Int.mul_assoc, Int.mul_left_comm]
      rw [t1, t2, t3, t4]
      omega
    rw [l, e]
    unfold gq gp
    omega
  have B : -(26 * (gq * gq)) ≤ 100 * (X1 * X2) ∧ 100 * (X1 * X2) ≤ 41 * (gq * gq) := band (by decide) e1 e2
  have hS0 : 0 ≤ S := by omega
  have hN0 : 0 ≤ N := by omega
  have hN1 : N ≤ 12000000 := by omega
  have hY1 : 100 * (gq * S) ≤ 100 * (gp * N) + 42 * gq := by
    rw [key] at B
    unfold gq gp at *
    omega
  have hY2 : 100 * (gp * N) - 27 * gq ≤ 100 * (gq * S) := by
    rw [key] at B
    unfold gq gp at *
    omega
  have hgq : gq = 165580141 := rfl
  have hgp : gp = 102334155 := rfl
  constructor
  · -- from above
    have h1 : gq * S ≤ gp * (N + 1) := by unfold gq gp at *; omega
    have h2 : (gq * S) * (gq * S + gq * (N + 1)) ≤ (gp * (N + 1)) * (gp * (N + 1) + gq * (N + 1)) := Int.mul_le_mul h1 (by omega) (by unfold gq; omega) (by unfold gp; omega)
    have h3 : (gp * (N + 1)) * (gp * (N + 1) + gq * (N + 1)) = (gp * gp + gp * gq) * ((N + 1) * (N + 1)) := by
      rw [← Int.add_mul, Int.mul_assoc, Int.mul_left_comm (N + 1), ← Int.mul_assoc, Int.mul_add]
    have h4 : (gq * S) * (gq * S + gq * (N + 1)) = (gq * gq) * (S * (S + (N + 1))) := by
      rw [← Int.mul_add]
      simp only [Int.mul_assoc, Int.mul_left_comm]
    rw [h3, h4, gpq] at h2
    have hp : 0 < (N + 1) * (N + 1) := Int.mul_pos (by omega) (by omega)
    generalize (N + 1) * (N + 1) = M at *
    generalize S * (S + (N + 1)) = Z at *
    unfold gq at h2
    omega
  · -- from below
    have h1 : gp * (N + 1) + 16558014 ≤ gq * (S + 1) := by unfold gq gp at *; omega
    have hN0' : 0 ≤ gp * (N + 1) := by unfold gp; omega
    have h2 : (gp * (N + 1) + 16558014) * (gp * (N + 1) + 16558014 + gq * (N + 1)) ≤ (gq * (S + 1)) * (gq * (S + 1) + gq * (N + 1)) := Int.mul_le_mul h1 (by omega) (by unfold gq gp at *; omega) (by omega)
    have h4 : (gq * (S + 1)) * (gq * (S + 1) + gq * (N + 1)) = (gq * gq) * ((S + 1) * (S + 1 + (N + 1))) := by
      rw [← Int.mul_add]
      simp only [Int.mul_assoc, Int.mul_left_comm]
    have h3 : (gp * (N + 1)) * (gp * (N + 1) + gq * (N + 1)) = (gp * gp + gp * gq) * ((N + 1) * (N + 1)) := by
      rw [← Int.add_mul, Int.mul_assoc, Int.mul_left_comm (N + 1), ← Int.mul_assoc, Int.mul_add]
    have h5 : (gp * (N + 1) + 16558014) * (gp * (N + 1) + 16558014 + gq * (N + 1)) = (gp * (N + 1)) * (gp * (N + 1) + gq * (N + 1)) + 16558014 * (gp * (N + 1)) + 16558014 * (gp * (N + 1) + 16558014 + gq * (N + 1)) := by
      rw [Int.add_mul]
      have : gp * (N + 1) * (gp * (N + 1) + 16558014 + gq * (N + 1)) = gp * (N + 1) * (gp * (N + 1) + gq * (N + 1)) + gp * (N + 1) * 16558014 := by
        rw [← Int.mul_add]; congr 1; omega
      rw [this, Int.mul_comm (gp * (N + 1)) 16558014]
    rw [h5, h3, h4, gpq] at h2
    have hp : (N + 1) * (N + 1) ≤ (N + 1) * 12000001 := Int.mul_le_mul_of_nonneg_left (by omega) (by omega)
    generalize (N + 1) * (N + 1) = M at *
    generalize (S + 1) * (S + 1 + (N + 1)) = Z at *
    unfold gq gp at h2
    omega
end Mine
end
section
open PySem PyProof.Rows
namespace Mine
-- part P5
set_option maxRecDepth 10000
/-- ones and noughts -/
def Bits (c : List Int) : Prop := ∀ x ∈ c, x = 0 ∨ x = 1
def Apart (c : List Int) : Prop := ∀ i : Nat, ¬ (c.getD i 0 = 1 ∧ c.getD (i + 1) 0 = 1)
theorem NA.of : ∀ (c : List Int), Bits c → Apart c → NA c
  | [], _, _ => .nil
  | [x], hb, ha => by
    rcases hb x List.mem_cons_self with rfl | rfl
    · exact .zero .nil
    · exact .last
  | x :: y :: c, hb, ha => by
    have hb1 : Bits (y :: c) := fun z hz => hb z (List.mem_cons_of_mem _ hz)
    have hb2 : Bits c := fun z hz => hb1 z (List.mem_cons_of_mem _ hz)
    have ha1 : Apart (y :: c) := fun i => by have := ha (i + 1); simpa only [List.getD_cons_succ] using this
    have ha2 : Apart c := fun i => by have := ha1 (i + 1); simpa only [List.getD_cons_succ] using this
    rcases hb x List.mem_cons_self with rfl | rfl
    · exact .zero (NA.of (y :: c) hb1 ha1)
    rcases hb1 y List.mem_cons_self with rfl | rfl
    · exact .one (NA.of c hb2 ha2)
    · exact absurd ⟨rfl, rfl⟩ (ha 0)
theorem FL_getD {i : Nat} (h : i < 48) : FL[i]? = some (F (i + 2)) := by
  have := FL_get h
  rw [List.getD_eq_getElem?_getD] at this
  have hl : i < FL.length := by rw [FL_len]; exact h
  rw [List.getElem?_eq_getElem hl] at this ⊢
  exact congrArg some this
theorem cnt_fib_low {c : Int} (h : 0 < c) : F (cnt c - 1 + 2) ≤ c := by
  have := cnt_pos (n := c) h
  have := cnt_le c
  exact cnt_low (i := cnt c - 1) (by omega) (FL_getD (by omega))
theorem cnt_fib_high {c : Int} {i : Nat} (h : cnt c ≤ i) (hi : i < 48) : c < F (i + 2) := cnt_high h (FL_getD hi)
theorem cnt_lt_of {c : Int} {i : Nat} (h : c < F (i + 2)) (hi : i < 48) : cnt c ≤ i := by
  refine Nat.le_of_not_lt fun hlt => ?_
  have := cnt_low hlt (FL_getD hi)
  omega
theorem Grd.inv {c : Int} {ms r : List Int} (h : Grd c ms r) : 0 ≤ c → cnt c < 48 → cnt c ≤ ms.length → Bits ms → Apart ms → (0 < c → ∀ i : Nat, i ≤ cnt c → ms.getD i 0 = 0) →
    r.length = ms.length ∧ Bits r ∧ Apart r ∧ val 2 r = val 2 ms + c ∧ (∀ i : Nat, ms.getD i 0 = 1 → r.getD i 0 = 1) ∧ (0 < c → r.getD (cnt c - 1) 0 = 1) := by
  induction h with
  | done => intro _ _ _ hb ha _; exact ⟨rfl, hb, ha, (Int.add_zero _).symm, fun _ h => h, fun h => absurd h (by decide)⟩
  | @step c ms r hc h ih =>
    intro _ h48 hl hb ha hz
    have hz := hz hc
    have hp := cnt_pos (n := c) hc
    have hlow := cnt_fib_low hc
    have hhigh := cnt_fib_high (c := c) (Nat.le_refl _) h48
    generalize hN : cnt c = N at *
    obtain ⟨k, rfl⟩ : ∃ k, N = k + 1 := ⟨N - 1, by omega⟩
    rw [show k + 1 - 1 = k by omega] at *
    have eF : FL.getD k 0 = F (k + 2) := FL_get (by omega)
    rw [eF] at ih
    have erec : F (k + 1 + 2) = F (k + 2) + F (k + 1) := F_rec (k + 1)
    rw [erec] at hhigh
    have hc' : c - F (k + 2) < F (k + 1) := by omega
    have hsm : cnt (c - F (k + 2)) ≤ k := by
      cases k with
      | zero =>
        have hc1 : c - F 2 < 1 := hc'
        have hl1 : F 2 ≤ c := hlow
        have e0 : c - F 2 = 0 := by omega
        rw [show 0 + 2 = 2 from rfl, e0]; decide +kernel
      | succ k => exact Nat.le_succ_of_le (cnt_lt_of (i := k) hc' (by omega))
    have hk : k < ms.length := by omega
    have hset : ∀ i : Nat, (ms.set k 1).getD i 0 = if i = k then 1 else ms.getD i 0 := fun i => by
      simp only [List.getD_eq_getElem?_getD, List.getElem?_set]
      by_cases e : i = k
      · subst e; simp [hk]
      · rw [if_neg (fun q => e q.symm), if_neg e]
    obtain ⟨a1, a2, a3, a4, a5, _⟩ := ih (by omega) (by omega) (by rw [List.length_set]; omega) (fun x hx => by
        rcases List.mem_or_eq_of_mem_set hx with h | h
        · exact hb x h
        · exact .inr h) (fun i => by
        rw [hset, hset]
        rintro ⟨h1, h2⟩
        by_cases e1 : i = k
        · subst e1
          rw [if_neg (by omega), hz (i + 1) (by omega)] at h2
          exact absurd h2 (by decide)
        · rw [if_neg e1] at h1
          by_cases e2 : i + 1 = k
          · rw [hz i (by omega)] at h1
            exact absurd h1 (by decide)
          · rw [if_neg e2] at h2
            exact ha i ⟨h1, h2⟩) (fun h0 i hi => by
        have : cnt (c - F (k + 2)) < k := by
          cases k with
          | zero => exact absurd (show c - F 2 < 1 from hc') (by rw [show 0 + 2 = 2 from rfl] at h0; omega)
          | succ k => exact Nat.lt_succ_of_le (cnt_lt_of (i := k) hc' (by omega))
        rw [hset, if_neg (by omega)]
        exact hz i (by omega))
    refine ⟨by rw [a1, List.length_set], a2, a3, ?_, fun i hi => a5 i ?_, fun _ => a5 k (by rw [hset, if_pos rfl])⟩
    · rw [a4, val_set _ _ _ _ hk, hz k (by omega), Nat.add_comm 2 k]
      omega
    · rw [hset]
      by_cases e : i = k
      · rw [if_pos e]
      · rw [if_neg e]; exact hi
theorem getD_zeros (n i : Nat) : (List.replicate n (0 : Int)).getD i 0 = 0 := by
  rw [List.getD_eq_getElem?_getD, List.getElem?_replicate]
  split <;> rfl
/-- what the marks of n are -/
structure Mk (n : Int) (ms : List Int) : Prop where
  na : NA ms
  worth : val 2 ms = n
  last : ms = [] ∨ ms.getD (ms.length - 1) 0 = 1
  len : ms.length = cnt n
theorem Grd.mk {n : Int} {ms : List Int} (h : Grd n (List.replicate (cnt n) 0) ms) (h0 : 0 ≤ n) (h48 : cnt n < 48) : Mk n ms := by
  have hb : Bits (List.replicate (cnt n) 0) := fun x hx => .inl (List.eq_of_mem_replicate hx)
  have ha : Apart (List.replicate (cnt n) 0) := fun i q => by rw [getD_zeros] at q; exact absurd q.1 (by decide)
  obtain ⟨a1, a2, a3, a4, _, a6⟩ := h.inv h0 h48 (by rw [List.length_replicate]; exact Nat.le_refl _) hb ha (fun _ i _ => getD_zeros _ i)
  rw [val_zeros, Int.zero_add] at a4
  rw [List.length_replicate] at a1
  refine ⟨NA.of _ a2 a3, a4, ?_, a1⟩
  rcases Int.lt_or_eq_of_le h0 with hc | hc
  · right
    rw [a1]
    exact a6 hc
  · left
    subst hc
    exact List.length_eq_zero_iff.mp (by rw [a1]; decide +kernel)

/-- the i-th figure of a number that is written in ds -/
theorem eval_digit {w : Nat} : ∀ (ds : List Int) (i : Nat), (∀ d ∈ ds, Small d w) → evalDig w ds / 2 ^ (w * i) % 2 ^ w = ds.getD i 0
  | [], i, _ => by simp [evalDig]
  | d :: ds, 0, h => by
    have hd := h d List.mem_cons_self
    simp only [evalDig, Nat.mul_zero, Int.pow_zero, Int.ediv_one, List.getD_cons_zero]
    rw [Int.add_mul_emod_self_left]
    exact Int.emod_eq_of_lt hd.1 hd.2
  | d :: ds, i + 1, h => by
    have hd := h d List.mem_cons_self
    have hp : (0 : Int) < 2 ^ w := Int.pow_pos (by decide)
    rw [Nat.mul_add, Nat.mul_one, Nat.add_comm, ← div_div, evalDig, Int.add_mul_ediv_left _ _ (Int.ne_of_gt hp), Int.ediv_eq_zero_of_lt hd.1 hd.2, Int.zero_add, List.getD_cons_succ]
    exact eval_digit ds i fun x hx => h x (List.mem_cons_of_mem _ hx)
theorem ndig_le {w : Nat} {ds : List Int} (hw : 1 ≤ w) (h : ∀ d ∈ ds, Small d w) : ndig (evalDig w ds) w ≤ ds.length := by
  have hs := evalDig_small w ds h
  have := intBits_le hs.1 hs.2
  unfold ndig
  rw [Nat.div_le_iff_le_mul_add_pred (by omega)]
  omega
theorem digits_eq {w : Nat} {ds : List Int} (hw : 1 ≤ w) (h : ∀ d ∈ ds, Small d w) : ∃ k, ds = digitsOf (evalDig w ds) w ++ List.replicate k 0 := by
  have hle := ndig_le hw h
  have hs := evalDig_small w ds h
  refine ⟨ds.length - ndig (evalDig w ds) w, ?_⟩
  have hlen : (digitsOf (evalDig w ds) w).length = ndig (evalDig w ds) w := by unfold digitsOf; rw [List.length_map, List.length_range]
  apply List.ext_getElem?
  intro i
  by_cases hi : i < ndig (evalDig w ds) w
  · rw [List.getElem?_append_left (by omega)]
    unfold digitsOf
    rw [List.getElem?_map, List.getElem?_range hi]
    show _ = some (evalDig w ds / 2 ^ (w * i) % 2 ^ w)
    rw [eval_digit ds i h, List.getD_eq_getElem?_getD, List.getElem?_eq_getElem (show i < ds.length by omega)]
    rfl
  · rw [List.getElem?_append_right (by omega), hlen, List.getElem?_replicate]
    by_cases hi2 : i < ds.length
    · rw [if_pos (by omega)]
      have e := eval_digit ds i h
      rw [List.getD_eq_getElem?_getD, List.getElem?_eq_getElem hi2] at e
      rw [List.getElem?_eq_getElem hi2]
      have hsm := small_ndig (x := evalDig w ds) (w := w) hs.1 hw
      have : evalDig w ds / 2 ^ (w * i) = 0 := by
        refine Int.ediv_eq_zero_of_lt hs.1 (Int.lt_of_lt_of_le hsm.2 ?_)
        have := Nat.pow_le_pow_right (show 2 > 0 by decide) (Nat.mul_le_mul_left w (Nat.le_of_not_lt hi))
        exact_mod_cast this
      rw [this] at e
      simp at e
      rw [← e]
    · rw [if_neg (by omega), List.getElem?_eq_none (by omega)]
theorem evalDig_zeros (w : Nat) : ∀ k, evalDig w (List.replicate k 0) = 0
  | 0 => rfl
  | k + 1 => by rw [List.replicate_succ, evalDig, evalDig_zeros w k]; simp
theorem digits_val {w : Nat} {ds : List Int} (hw : 1 ≤ w) (h : ∀ d ∈ ds, Small d w) (a : Nat) : val a (digitsOf (evalDig w ds) w) = val a ds := by
  obtain ⟨k, e⟩ := digits_eq hw h
  have := congrArg (val a) e
  rw [val_append, val_zeros] at this
  omega
theorem sum_zeros : ∀ k, (List.replicate k (0 : Int)).sum = 0
  | 0 => rfl
  | k + 1 => by rw [List.replicate_succ, List.sum_cons, sum_zeros k]; rfl
theorem digits_sum {w : Nat} {ds : List Int} (hw : 1 ≤ w) (h : ∀ d ∈ ds, Small d w) : (digitsOf (evalDig w ds) w).sum = ds.sum := by
  obtain ⟨k, e⟩ := digits_eq hw h
  have := congrArg List.sum e
  rw [List.sum_append, sum_zeros] at this
  simp at this
  omega
theorem digits_eval {w : Nat} {ds : List Int} (hw : 1 ≤ w) (h : ∀ d ∈ ds, Small d w) : evalDig w (digitsOf (evalDig w ds) w) = evalDig w ds := by
  obtain ⟨k, e⟩ := digits_eq hw h
  have := congrArg (evalDig w) e
  rw [evalDig_append, evalDig_zeros] at this
  simp at this
  exact this.symm
theorem digits_len {w : Nat} {ds : List Int} (hw : 1 ≤ w) (h : ∀ d ∈ ds, Small d w) : (digitsOf (evalDig w ds) w).length ≤ ds.length := by
  have := ndig_le hw h
  unfold digitsOf
  rw [List.length_map, List.length_range]
  exact this
theorem digits_small {w : Nat} {x : Int} : ∀ d ∈ digitsOf x w, Small d w := fun d hd => by
  obtain ⟨i, _, rfl⟩ := List.mem_map.mp hd
  exact small_low w
theorem bits_small {w : Nat} (hw : 1 ≤ w) {ms : List Int} (h : Bits ms) : ∀ d ∈ ms, Small d w := fun d hd => by
  have h2 : (2 : Int) ≤ 2 ^ w := by
    have := Nat.pow_le_pow_right (show 2 > 0 by decide) hw
    exact_mod_cast this
  rcases h d hd with rfl | rfl
  · exact ⟨by decide, by omega⟩
  · exact ⟨by decide, by omega⟩
/-- one bit a mark, and back -/
theorem Mk.again {n : Int} {ms : List Int} (h : Mk n ms) : digitsOf (evalDig 1 ms) 1 = ms := by
  have hs := bits_small (w := 1) (Nat.le_refl _) h.na.bits
  obtain ⟨k, e⟩ := digits_eq (Nat.le_refl _) hs
  cases k with
  | zero => rw [List.replicate_zero, List.append_nil] at e; exact e.symm
  | succ k =>
    exfalso
    rcases h.last with h | h
    · rw [h] at e
      have := congrArg List.length e
      simp at this
    · rw [List.replicate_succ', ← List.append_assoc] at e
      rw [e] at h
      simp at h
end Mine
end
section
open PySem PyProof.Rows
namespace Mine
-- part P6
set_option maxRecDepth 10000
theorem cnt_small {n : Int} (h : n ≤ 999) : cnt n ≤ 15 := Nat.le_trans (cntOf_mono FL h) (by decide +kernel)
theorem cnt_big {n : Int} (h : n ≤ 3000000) : cnt n ≤ 31 := Nat.le_trans (cntOf_mono FL h) (by decide +kernel)
theorem Mk.bits {n : Int} {ms : List Int} (h : Mk n ms) : Bits ms := h.na.bits
theorem bits_nonneg {ms : List Int} (h : Bits ms) : ∀ x ∈ ms, 0 ≤ x := fun x hx => by rcases h x hx with rfl | rfl <;> decide
theorem Mk.ones {n : Int} {ms : List Int} (h : Mk n ms) (hn : n ≤ 999) : 0 ≤ ms.sum ∧ ms.sum ≤ 7 := by
  obtain ⟨k, hs, h2, _⟩ := h.na.least
  rw [h.worth] at h2
  refine ⟨by omega, ?_⟩
  by_cases hk : k ≤ 7
  · omega
  · have hm := F_mono (i := 17) (j := 2 * k + 1) (by omega) (by omega)
    have e : F 17 = 1597 := by decide +kernel
    omega
theorem small64 {z : Int} {w : Nat} (hw : 6 ≤ w) (h0 : 0 ≤ z) (h1 : z ≤ 63) : Small z w := by
  have h2 : (64 : Int) ≤ 2 ^ w := by
    have := Nat.pow_le_pow_right (show 2 > 0 by decide) hw
    exact_mod_cast this
  exact ⟨h0, by omega⟩
theorem conv_small {w : Nat} {c d : List Int} (hw : 6 ≤ w) (hc : ∀ x ∈ c, 0 ≤ x) (hs : c.sum ≤ 63) (hd : Bits d) : ∀ z ∈ conv c d, Small z w := fun z hz => by
  have := bound_conv (M := 1) (by decide) d (fun y hy => by rcases hd y hy with rfl | rfl <;> decide) c hc z hz
  exact small64 hw this.1 (by omega)
theorem conv_nonneg {c d : List Int} (hc : ∀ x ∈ c, 0 ≤ x) (hd : Bits d) : ∀ z ∈ conv c d, 0 ≤ z := fun z hz =>
  (bound_conv (M := 1) (by decide) d (fun y hy => by rcases hd y hy with rfl | rfl <;> decide) c hc z hz).1

/-- what is known of the figures of a product -/
structure Figs (w : Nat) (c d : List Int) (P : Int) (len : Nat) : Prop where
  small : ∀ z ∈ conv c d, Small z w
  eq : P = evalDig w (conv c d)
  pos : 0 ≤ P
  nd : ndig P w ≤ len
  ev : evalDig w (digitsOf P w) = P
  sum : (digitsOf P w).sum = c.sum * d.sum
  val : ∀ a, val a (digitsOf P w) = val a (conv c d)
  len : (digitsOf P w).length ≤ len
theorem Figs.mk' {w : Nat} {c d : List Int} {P : Int} {len : Nat} (hw : 6 ≤ w) (hs : ∀ z ∈ conv c d, Small z w) (e : P = evalDig w (conv c d)) (hl : (conv c d).length ≤ len) : Figs w c d P len := by
  subst e
  have hw1 : 1 ≤ w := by omega
  exact ⟨hs, rfl, (evalDig_small w _ hs).1, Nat.le_trans (ndig_le hw1 hs) hl, digits_eval hw1 hs, by rw [digits_sum hw1 hs, sum_conv], digits_val hw1 hs, Nat.le_trans (digits_len hw1 hs) hl⟩
theorem ev_mulOk {w : Nat} {c d : List Int} (hw : w ≤ 2000) (hc : ∀ z ∈ c, Small z w) (hd : ∀ z ∈ d, Small z w) (lc : c.length ≤ 100) (ld : d.length ≤ 100) : IntMulOk (evalDig w c) (evalDig w d) := by
  have a := evalDig_small w c hc
  have b := evalDig_small w d hd
  refine mulOk_of_bits (m := w * c.length) (n := w * d.length) (intBits_le a.1 a.2) (intBits_le b.1 b.2) ?_
  have h1 : w * c.length ≤ 2000 * 100 := Nat.mul_le_mul hw lc
  have h2 : w * d.length ≤ 2000 * 100 := Nat.mul_le_mul hw ld
  omega
theorem mulOk_small {a b : Int} (h1 : -1000000000000000 < a) (h2 : a < 1000000000000000) : IntMulOk a b :=
  IntMulOk.of_left (intBits_le_64 (by omega) (by omega))

/-- a marked number below a thousand -/
structure Num (n : Int) (ms : List Int) : Prop where
  mark : Mk n ms
  pos : 0 ≤ n
  top : n ≤ 999
theorem Num.len {n : Int} {ms : List Int} (h : Num n ms) : ms.length ≤ 15 := by rw [h.mark.len]; exact cnt_small h.top
theorem Num.sh {n : Int} {ms : List Int} (h : Num n ms) : 0 ≤ val 1 ms ∧ val 1 ms ≤ n ∧ Shr n (val 1 ms) := by
  have h1 := h.mark.na.nonneg
  have h2 := h.mark.na.lt
  have h3 := h.mark.na.shr
  rw [h.mark.worth] at h2 h3
  exact ⟨h1.2, h2, h3⟩
section
variable {w : Nat} {n1 n2 n3 : Int} {ms1 ms2 ms3 : List Int}
theorem Num.small (h : Num n1 ms1) (hw : 6 ≤ w) : ∀ x ∈ ms1, Small x w := bits_small (by omega) h.mark.bits
theorem prod2 (a : Num n1 ms1) (c : Num n2 ms2) (hw : 6 ≤ w) : Figs w ms1 ms2 (evalDig w ms1 * evalDig w ms2) 29 := by
  refine Figs.mk' hw (conv_small hw (bits_nonneg a.mark.bits) (by have := (a.mark.ones a.top).2; omega) c.mark.bits) (ev_conv w ms2 ms1).symm ?_
  have := len_conv ms2 ms1
  have := a.len
  have := c.len
  omega
theorem sum2 (a : Num n1 ms1) (c : Num n2 ms2) : 0 ≤ ms1.sum * ms2.sum ∧ ms1.sum * ms2.sum ≤ 49 := by
  have h1 := a.mark.ones a.top
  have h2 := c.mark.ones c.top
  exact ⟨Int.mul_nonneg h1.1 h2.1, Int.mul_le_mul (c := 7) (d := 7) h1.2 h2.2 h2.1 (by decide)⟩
theorem prod3 (a : Num n1 ms1) (c : Num n2 ms2) (d : Num n3 ms3) (hw : 6 ≤ w) : Figs w (conv ms1 ms2) ms3 (evalDig w ms1 * evalDig w ms2 * evalDig w ms3) 43 := by
  have h1 := sum2 a c
  refine Figs.mk' hw (conv_small hw (conv_nonneg (bits_nonneg a.mark.bits) c.mark.bits) (by rw [sum_conv]; omega) d.mark.bits) (by rw [ev_conv, ev_conv]) ?_
  have := len_conv ms3 (conv ms1 ms2)
  have := len_conv ms2 ms1
  have := a.len
  have := c.len
  have := d.len
  omega
theorem worth2 (a : Num n1 ms1) (c : Num n2 ms2) (hw : 6 ≤ w) : val 4 (digitsOf (evalDig w ms1 * evalDig w ms2) w) = n1 * n2 + n1 * val 1 ms2 + val 1 ms1 * n2 := by
  rw [(prod2 a c hw).val, (conv_val ms2 ms1).1, a.mark.worth, c.mark.worth]
theorem left_facts (a : Num n1 ms1) (c : Num n2 ms2) : 0 ≤ n1 * n2 + n1 * val 1 ms2 + val 1 ms1 * n2 ∧ n1 * n2 + n1 * val 1 ms2 + val 1 ms1 * n2 ≤ 3000000 ∧ Shr (n1 * n2 + n1 * val 1 ms2 + val 1 ms1 * n2) (n1 * n2 + val 1 ms1 * val 1 ms2) ∧
    0 ≤ n1 * n2 + val 1 ms1 * val 1 ms2 ∧ n1 * n2 + val 1 ms1 * val 1 ms2 ≤ n1 * n2 + n1 * val 1 ms2 + val 1 ms1 * n2 := by
  have ha := a.sh
  have hc := c.sh
  have hn1 := a.mark.na.near (by rw [a.mark.worth]; have := a.top; omega)
  have hn2 := c.mark.na.near (by rw [c.mark.worth]; have := c.top; omega)
  rw [a.mark.worth] at hn1
  rw [c.mark.worth] at hn2
  have p1 := a.pos
  have p2 := c.pos
  have t1 := a.top
  have t2 := c.top
  have hS := shr_mul p1 (by omega) p2 (by omega) ha.1 ha.2.1 hc.1 hc.2.1 hn1 hn2
  revert hS ha hc
  generalize val 1 ms1 = s1
  generalize val 1 ms2 = s2
  rintro ⟨a1, a2, _⟩ ⟨c1, c2, _⟩ hS
  have q1 := Int.mul_nonneg p1 p2
  have q2 := Int.mul_nonneg p1 c1
  have q3 := Int.mul_nonneg a1 p2
  have q4 := Int.mul_nonneg a1 c1
  have r1 : n1 * n2 ≤ 999 * 999 := Int.mul_le_mul t1 t2 p2 (by decide)
  have r2 : n1 * s2 ≤ 999 * 999 := Int.mul_le_mul t1 (by omega) c1 (by decide)
  have r3 : s1 * n2 ≤ 999 * 999 := Int.mul_le_mul (by omega) t2 p2 (by decide)
  have r4 : s1 * s2 ≤ s1 * n2 := Int.mul_le_mul_of_nonneg_left c2 a1
  exact ⟨by omega, by omega, hS, by omega, by omega⟩
theorem whole_val (a : Num n1 ms1) (c : Num n2 ms2) (d : Num n3 ms3) : val 6 (conv (conv ms1 ms2) ms3) =
    2 * (n1 * n2 * n3) + n1 * val 1 ms2 * n3 + val 1 ms1 * n2 * n3 + val 1 ms1 * val 1 ms2 * n3 + n1 * n2 * val 1 ms3 + n1 * val 1 ms2 * val 1 ms3 + val 1 ms1 * n2 * val 1 ms3 := by
  have h1 := conv_val ms3 (conv ms1 ms2)
  have h2 := conv_val ms2 ms1
  have r6 := val_rec (conv (conv ms1 ms2) ms3) 4
  have r5 := val_rec (conv (conv ms1 ms2) ms3) 3
  have r4 := val_rec (conv ms1 ms2) 2
  have r3 := val_rec (conv ms1 ms2) 1
  simp only [Nat.reduceAdd] at r6 r5 r4 r3
  rw [a.mark.worth, c.mark.worth] at h2
  rw [d.mark.worth] at h1
  generalize val 1 ms1 = s1 at *
  generalize val 1 ms2 = s2 at *
  generalize val 1 ms3 = s3 at *
  generalize hA : val 2 (conv ms1 ms2) = A at *
  generalize hB : val 1 (conv ms1 ms2) = B at *
  have eA : A = n1 * s2 + s1 * n2 - s1 * s2 := by omega
  have eB : B = n1 * n2 + 2 * (s1 * s2) - n1 * s2 - s1 * n2 := by omega
  rw [r6, r5, h1.1, h1.2, eA, eB]
  simp only [Int.add_mul, Int.sub_mul, Int.mul_assoc]
  omega
theorem mkL_facts {l : Int} {msL : List Int} (hm : Mk l msL) (h1 : l ≤ 3000000) (hw : 6 ≤ w) (d : Num n3 ms3) :
    (∀ z ∈ msL, Small z w) ∧ msL.length ≤ 31 ∧ Figs w ms3 msL (evalDig w ms3 * evalDig w msL) 45 ∧ val 4 (digitsOf (evalDig w ms3 * evalDig w msL) w) = n3 * l + n3 * val 1 msL + val 1 ms3 * l := by
  have hl : msL.length ≤ 31 := by rw [hm.len]; exact cnt_big h1
  have hP : Figs w ms3 msL (evalDig w ms3 * evalDig w msL) 45 := by
    refine Figs.mk' hw (conv_small hw (bits_nonneg d.mark.bits) (by have := (d.mark.ones d.top).2; omega) hm.bits) (ev_conv w msL ms3).symm ?_
    have := len_conv msL ms3
    have := d.len
    omega
  refine ⟨bits_small (by omega) hm.bits, hl, hP, ?_⟩
  rw [hP.val, (conv_val msL ms3).1, d.mark.worth, hm.worth]
theorem mk_share {l S : Int} {msL : List Int} (hm : Mk l msL) (h0 : 0 ≤ l) (hS : Shr l S) (hS0 : 0 ≤ S) : val 1 msL = S := by
  have := hm.na.shr
  rw [hm.worth] at this
  exact this.uniq hS h0 hm.na.nonneg.2 hS0
end
end Mine
end
section
open PySem PySem.W PyProof.Rows PySem.Calls PySem.Spec
namespace Mine
-- part S1
set_option maxRecDepth 100000
set_option linter.unusedVariables false
theorem three0 {a b c d : Int} : [a, b, c].getD (Int.toNat 0) d = a := rfl
theorem three1 {a b c d : Int} : [a, b, c].getD (Int.toNat 1) d = b := rfl
theorem three2 {a b c d : Int} : [a, b, c].getD (Int.toNat 2) d = c := rfl
section
variable {prog : Program} {w : World} {A : Around} {s : Shared} {mg mb : Str → Option Value} {mean : ExcName → Option Value} {p : Program} {loose : List Str}
  {b : Heap} {L : Addr} {m : Str → Option Value} {news : List (Addr × Obj)} {Q E : Value → Shared → Prop}
theorem share_S {n sv : Int} {tn : Tok} {o34 o41 o97 : Obj} {tabs : List (Addr × Obj)} {pre : List (Addr × Obj)} (F : Fr b L s.heap m) (N : News b L s.heap news) (X : (hd.heap_39 w.params).In b) (T : Top p loose mean mg mb b) (C : Cds b) (K : Tabs b o34 o41 o97 tabs)
   (hdp : A.depth < 800) (h0 : 0 ≤ n) (h1 : n < 2 ^ 24) (hs : Shr n sv) (s0 : 0 ≤ sv) (s1 : sv ≤ n)
   (hsw : Pre 97 ((34, o34) :: (41, o41) :: (97, o97) :: tabs) pre news)
   (h : ∀ h' t p1 p2 p3 us tk', Tabs b p1 p2 p3 us → Fr b L h' m → News b L h' (pre ++ (34, p1) :: (41, p2) :: (97, p3) :: us) → (∀ q ∈ us, q ∈ tabs ∨ ∀ z ∈ news, @Ne Nat z.1 q.1) → (∀ q ∈ tabs, q ∈ us) → Q (.int sv t) { s with heap := h', toks := tk' }) :
   wpAny (model prog w) A (call (.ref 102) [.int n tn]) Q E s := by
  refine share_F (q := sv + 1) F N X T C K hdp h0 h1 ⟨by omega, by omega⟩ (hs.low h0 s0) (fun i hi _ => hs.high h0 s0 i hi) hsw fun h' t p1 p2 p3 us tk' a c d e f => ?_
  rw [show sv + 1 - 1 = sv by omega]
  exact h h' t p1 p2 p3 us tk' a c d e f
end
end Mine
end
section
open PySem PySem.W PyProof.Rows PySem.Calls PySem.Spec
namespace Mine
set_option maxRecDepth 100000
set_option linter.unusedVariables false
set_option maxHeartbeats 1000000
local macro_rules | `(tactic| walk_at "eval Name") => `(tactic| (k_here; k_dflt (refine' nameX_L ?F ?v ?_ ?a ?b; (case F => k_asm); (case a => rfl); (case b => rfl); (case v => assumption); k_whole)))
local macro_rules | `(tactic| walk_at "eval Name") => `(tactic| (k_here; k_dflt (refine' nameX_F ?N ?c ?m ?d ?_ ?a ?b; (case a => rfl); (case b => rfl); (case N => k_asm); (case c => rfl); (case m => k_mem); (case d => assumption); k_whole)))
local macro_rules | `(tactic| walk_at "eval Name") => `(tactic| (k_here; k_dflt (refine' nameX_C ?N ?c ?m ?d ?_ ?a ?b; (case a => rfl); (case b => rfl); (case N => k_asm); (case c => rfl); (case m => k_mem); (case d => assumption); k_whole)))
local macro_rules | `(tactic| walk_at "callWith ref") => `(tactic| (k_here; k_dflt (refine' callWith_F ?k1 ?_; (case k1 => exact FnAt.of (by k_asm) (by k_mem)); k_whole)))
local macro_rules | `(tactic| walk_at "call ref") => `(tactic| (k_here; (with_reducible show wpAny _ _ (call (Value.ref 53) [Value.int _ _, Value.int _ _]) _ _ _); k_dflt (refine add_call (by k_asm) (by k_asm) (by k_asm) (by k_asm) (Nat.le_of_ble_eq_true rfl) ?_; k_whole); intros; (try k_sweep); (try dsimp only)))
local macro_rules | `(tactic| walk_at "call ref") => `(tactic| (k_here; (with_reducible show wpAny _ _ (call (Value.ref 67) [Value.int _ _, Value.int _ _]) _ _ _); k_dflt (refine sub_call (by k_asm) (by k_asm) (by k_asm) (by k_asm) (Nat.le_of_ble_eq_true rfl) ?_; k_whole); intros; (try k_sweep); (try dsimp only)))
local macro_rules | `(tactic| walk_at "call ref") => `(tactic| (k_here; (with_reducible show wpAny _ _ (call (Value.ref 60) [Value.int _ _, Value.int _ _]) _ _ _); k_dflt (refine mul_call (by k_asm) (by k_asm) (by k_asm) (by k_asm) (Nat.le_of_ble_eq_true rfl) (by assumption) ?_; k_whole); intros; (try k_sweep); (try dsimp only)))
local macro_rules | `(tactic| walk_at "call ref") => `(tactic| (k_here; (with_reducible show wpAny _ _ (call (Value.ref 39) [Value.int _ _, Value.int _ _]) _ _ _); k_dflt (refine i2d_F (by k_asm) (by k_asm) (by k_asm) (by k_asm) (by assumption) (by assumption) (Nat.le_of_ble_eq_true rfl) (Nat.le_of_ble_eq_true rfl) (by first | decide | omega) (by first | decide | omega) (by assumption) (by assumption) (by (repeat' (first | exact Pre.here | refine' Pre.cons (by (dsimp only); first | assumption | exact off_I ‹_› (by k_mem) | exact off_C ‹_› (by k_mem) | exact off_D ‹_› (by k_mem) | omega | decide) ?_))) ?_; k_whole); intros; (rename News _ _ _ _ => N'); (try simp only [List.cons_append, List.nil_append] at N'); (try k_sweep); (try dsimp only)))
local macro_rules | `(tactic| walk_at "call ref") => `(tactic| (k_here; (with_reducible show wpAny _ _ (call (Value.ref 46) [Value.ref _, Value.int _ _]) _ _ _); k_dflt (refine d2i_F (by k_asm) (by k_asm) (by k_asm) (by k_asm) (by assumption) (by assumption) (Nat.le_of_ble_eq_true rfl) (Nat.le_of_ble_eq_true rfl) (by k_mem) (by assumption) (by first | decide | omega) (by first | decide | omega) (by assumption) (by assumption) (by (repeat' (first | exact Pre.here | refine' Pre.cons (by (dsimp only); first | assumption | exact off_I ‹_› (by k_mem) | exact off_C ‹_› (by k_mem) | exact off_D ‹_› (by k_mem) | omega | decide) ?_))) ?_; k_whole); intros; (rename News _ _ _ _ => N'); (try simp only [List.cons_append, List.nil_append] at N'); (try k_sweep); (try dsimp only)))
local macro_rules | `(tactic| walk_at "call ref") => `(tactic| (k_here; (with_reducible show wpAny _ _ (call (Value.ref 81) []) _ _ _); k_dflt (refine ladder_F (by k_asm) (by k_asm) (by k_asm) (by k_asm) (Nat.le_of_ble_eq_true rfl) rfl ?_; k_whole); intros; (try k_sweep); (try dsimp only)))
local macro_rules | `(tactic| walk_at "call ref") => `(tactic| (k_here; (with_reducible show wpAny _ _ (call (Value.ref 88) [Value.int _ _, Value.ref _]) _ _ _); k_dflt (refine marks_F (by k_asm) (by k_asm) (by k_asm) (by k_asm) (Nat.le_of_ble_eq_true rfl) rfl (by k_mem) (by assumption) (by assumption) ?_; k_whole); intros; (try k_sweep); (try dsimp only)))
local macro_rules | `(tactic| walk_at "call ref") => `(tactic| (k_here; (with_reducible show wpAny _ _ (call (Value.ref 95) [Value.ref _, Value.int _ _, Value.ref _]) _ _ _); k_dflt (refine worth_F (by k_asm) (by k_asm) (by k_asm) (by k_asm) (Nat.le_of_ble_eq_true rfl) rfl (by k_mem) (by assumption) (by k_mem) (by assumption) rfl (by assumption) ?_; k_whole); intros; (try k_sweep); (try dsimp only)))
local macro_rules | `(tactic| walk_at "call ref") => `(tactic| (k_here; (with_reducible show wpAny _ _ (call (Value.ref 102) [Value.int _ _]) _ _ _); k_dflt (refine share_S (by k_asm) (by k_asm) (by k_asm) (by k_asm) (by assumption) (by assumption) (Nat.le_of_ble_eq_true rfl) (by assumption) (by assumption) (by assumption) (by assumption) (by assumption) (by (repeat' (first | exact Pre.here | refine' Pre.cons (by (dsimp only); first | assumption | exact off_I ‹_› (by k_mem) | exact off_C ‹_› (by k_mem) | exact off_D ‹_› (by k_mem) | omega | decide) ?_))) ?_; k_whole); intros; (rename News _ _ _ _ => N'); (try simp only [List.cons_append, List.nil_append] at N'); (try k_sweep); (try dsimp only)))
local macro_rules | `(tactic| walk_at "binaryOp Mult") => `(tactic| (k_here; (with_reducible show wpAny _ _ (binaryOp Operator.Mult (Value.int _ _) (Value.int _ _)) _ _ _); (simp only [three0, three1, three2])))
local macro_rules | `(tactic| walk_at "CompRest") => `(tactic| (with_unfolding_all first | (refine LCg.CompRest.succ ?_; intro v' I' oI' C' oC' D' m' h' tk' E' hv' hC' hx' F' N' off' ne'; (first | lcg_open hv' | (obtain ⟨t9', hv9'⟩ := hv'; subst hv9')); have off2' := off'; (try simp only [LCg.Off3, and_true] at off2')) | refine LCg.CompRest.zero ?_))
local macro_rules | `(tactic| walk_at "CompEnd") => `(tactic| (k_here; (rename Fr _ _ _ _ => eF'); (rename News _ _ _ _ => eN'); (rename LCg.Off3 _ _ _ _ => eO'); first | refine' LCg.CompEnd.intro eF' eN' _ (fun p hp => hp) eO' (by first | exact trivial | exact .inl (by assumption) | exact .inr ⟨_, by k_mem, rfl, _, rfl⟩) ?_ | refine' end_new eF' eN' (by assumption) eO' (by first | exact trivial | exact .inl (by assumption) | exact .inr ⟨_, by k_mem, rfl, _, rfl⟩) ?_ | refine' LCg.CompEnd.intro eF' eN' _ (fun p hp => hp) (off3_swap2 eO' (by assumption) (by k_mem) (by k_mem) (by k_mem) (by repeat' (first | exact Swap.here | refine Swap.cons ?_))) (by first | exact trivial | exact .inl (by assumption) | exact .inr ⟨_, by k_mem, rfl, _, rfl⟩) ?_ | refine' end_new eF' eN' (by assumption) (off3_swap2 eO' (by assumption) (by k_mem) (by k_mem) (by k_mem) (by repeat' (first | exact Swap.here | refine Swap.cons ?_))) (by first | exact trivial | exact .inl (by assumption) | exact .inr ⟨_, by k_mem, rfl, _, rfl⟩) ?_))
local macro_rules | `(tactic| walk_at "exec Assign cons ListComp") => `(tactic| (k_here; lcg_look; lcg_calm; k_dflt (refine LCg.Assign_ListComp_U (F₀ := by k_asm) (by rfl) (by with_unfolding_all rfl) (by rfl) (by decide) (by rfl) (by decide) (by rfl) (by rfl) (by rfl) ?_); k_dflt lcg_toSrc))
local macro_rules | `(tactic| walk_at "eval ListComp") => `(tactic| (k_here; lcg_look; lcg_calm; k_dflt (refine LCg.ListComp_U (F₀ := by k_asm) (by rfl) (by decide) (by rfl) (by decide) (by rfl) ?_); k_dflt lcg_toSrc))
local macro_rules | `(tactic| walk_at "CompSrc") => `(tactic| (k_here; k_dflt (first | (refine LCg.CompSrc.ledger (by rfl) (by k_asm) (by k_asm) (by k_mem) (by first | size_fits | exact Nat.le_of_ble_eq_true rfl) ?_; intro g'; lcg_lit) | (refine LCg.CompSrc.base (by rfl) (by k_asm) (by k_asm) (by assumption) (by first | size_fits | exact Nat.le_of_ble_eq_true rfl) ?_; intro g'; lcg_lit))))
-- part A13
set_option maxRecDepth 100000
set_option linter.unusedVariables false
set_option maxHeartbeats 1000000

/-- the law's own object in the written part -/
def LawIs (K : Frag) (qual : Str) (body : List Stmt) (scope : Scope) : Prop := ∃ oc od osl name params dV kV doc pm an cdv ct, K.lookup 107 = some ⟨oc, od, .func (fnOf name qual params body scope dV kV doc pm an cdv ct), osl⟩
section
variable {K : Frag} {oc : Value} {od : Option Addr} {osl : Array (Option Value)} {name qual : Str} {params : Arguments} {body : List Stmt} {scope : Scope} {dV kV doc pm : Value} {an : Option Addr} {cdv ct : Value}
def pickQ (_ : K.lookup 107 = some ⟨oc, od, .func (fnOf name qual params body scope dV kV doc pm an cdv ct), osl⟩) : Str := qual
def pickB (_ : K.lookup 107 = some ⟨oc, od, .func (fnOf name qual params body scope dV kV doc pm an cdv ct), osl⟩) : List Stmt := body
def pickS (_ : K.lookup 107 = some ⟨oc, od, .func (fnOf name qual params body scope dV kV doc pm an cdv ct), osl⟩) : Scope := scope
end
noncomputable def lawQual (w : World) : Str := by exact pickQ (K := hd.heap_39 w.params) (by with_unfolding_all rfl)
noncomputable def lawBody (w : World) : List Stmt := by exact pickB (K := hd.heap_39 w.params) (by with_unfolding_all rfl)
noncomputable def lawScope (w : World) : Scope := by exact pickS (K := hd.heap_39 w.params) (by with_unfolding_all rfl)
theorem lawIs_eq {w : World} {qual : Str} {body : List Stmt} {scope : Scope} (hK : LawIs (hd.heap_39 w.params) qual body scope) : qual = lawQual w ∧ body = lawBody w ∧ scope = lawScope w := by
  obtain ⟨oc, od, osl, name, params, dV, kV, doc, pm, an, cdv, ct, e⟩ := hK
  cases e
  exact ⟨rfl, rfl, rfl⟩
section
variable {prog : Program} {w : World} {s : Shared} {mg mb : Str → Option Value} {mean : ExcName → Option Value} {p : Program} {loose : List Str} {qual : Str} {body : List Stmt} {scope : Scope} {b : Heap} {L fa : Addr} {cd : Value} {m : Str → Option Value} {e : Env} {Q : Flow → Shared → Prop} {E : Value → Shared → Prop} {o34 o41 o97 : Obj} {tabs : List (Addr × Obj)}


/-- the law goes on at its k-th statement -/
abbrev GoOn (prog : Program) (w : World) (e : Env) (qual : Str) (body : List Stmt) (scope : Scope) (b : Heap) (L fa : Addr) (cd : Value) (Q : Flow → Shared → Prop) (E : Value → Shared → Prop) (k : Nat) (m : Str → Option Value) (ex tabs : List (Addr × Obj)) (s : Shared) : Prop :=
  ∀ h' tk' o34 o41 o97 us, Tabs b o34 o41 o97 us → (∀ q ∈ tabs, q ∈ us) → Fr b L h' m → News b L h' (ex ++ (34, o34) :: (41, o41) :: (97, o97) :: us) → wpAny (model prog w) (callerA.deeper e) (execs (body.drop k) (envOfC qual scope L fa cd)) Q E { s with heap := h', toks := tk' }

theorem execs_go {M : Model} {A : Around} {env : Env} {st : Stmt} {rest : List Stmt} (h1 : wpAny M A (exec st env) (fun f s' => f = .next ∧ Hold (wpAny M A (execs rest env) Q E s')) E s) : wpAny M A (execs (st :: rest) env) Q E s :=
  execs_cut (fun s' => wpAny M A (execs rest env) Q E s') h1 fun _ x => x
theorem law_0 (hK : LawIs (hd.heap_39 w.params) qual body scope) {tail : List (Addr × Obj)}
   (X : (hd.heap_39 w.params).In b) (T : Top p loose mean mg mb b) (F : Fr b L s.heap m) (N : News b L s.heap tail)
   (h : ∀ h' tk', Fr b L h' m → News b L h' tail → wpAny (model prog w) (callerA.deeper e) (execs (body.drop 1) (envOfC qual scope L fa cd)) Q E { s with heap := h', toks := tk' }) :
   wpAny (model prog w) (callerA.deeper e) (execs (body.drop 0) (envOfC qual scope L fa cd)) Q E s := by
  obtain ⟨rfl, rfl, rfl⟩ := lawIs_eq hK
  dsimp only [lawQual, lawBody, lawScope, pickQ, pickB, pickS, List.drop_succ_cons, List.drop_zero] at h ⊢
  replace h := Hold.mk h
  refine execs_go ?_
  · repeat ((fail_if_success (with_reducible show wpAny _ _ (call (Value.ref 74) _) _ _ _)); first | (k_unfold; (try dsimp only)) | walk1 | (dsimp only; walk1))
    rename Fr _ _ _ _ => F1
    rename News _ _ _ _ => N1
    refine setitem_call (ns := [0]) (vs := [_]) F1 N1 X T (Nat.le_of_ble_eq_true rfl) (.head (by rename_i l1; exact fun q hq => Nat.ne_of_lt (l1 q hq))) (.cons _ _ .nil) (by decide) (by decide) (by decide) ?_
    intro h' tk' k' F2 N2 _
    clear F1 N1 k'
    dsimp only
    k_steps
    rename Fr _ _ _ _ => F1
    rename News _ _ _ _ => N1
    exact ⟨h.out _ _ F1 (fun q hq => N1 q (List.mem_cons_of_mem _ hq))⟩
theorem law_2 (hK : LawIs (hd.heap_39 w.params) qual body scope) {tail : List (Addr × Obj)} {ce : Addr} {c1 c2 c3 : Int} {t1 t2 t3 : Tok}
   (X : (hd.heap_39 w.params).In b) (T : Top p loose mean mg mb b) (F : Fr b L s.heap m) (N : News b L s.heap ((ce, listOf #[.int c1 t1, .int c2 t2, .int c3 t3] 3) :: tail)) (hm : m (Str.ofString "cells") = some (.ref ce))
   (h : ∀ h' tk' nu t1 t2 t3, Fr b L h' (fun z => if z = Str.ofString "numbers" then some (.ref nu) else m z) → News b L h' ((nu, listOf #[.int (c1.fmod 1000) t1, .int (c2.fmod 1000) t2, .int (c3.fmod 1000) t3] 3) :: tail) → LCg.Off1 nu tail → wpAny (model prog w) (callerA.deeper e) (execs (body.drop 3) (envOfC qual scope L fa cd)) Q E { s with heap := h', toks := tk' }) :
   wpAny (model prog w) (callerA.deeper e) (execs (body.drop 2) (envOfC qual scope L fa cd)) Q E s := by
  obtain ⟨rfl, rfl, rfl⟩ := lawIs_eq hK
  dsimp only [lawQual, lawBody, lawScope, pickQ, pickB, pickS, List.drop_succ_cons, List.drop_zero] at h ⊢
  replace h := Hold.mk h
  refine execs_go ?_
  k_steps
  rename Fr _ _ _ _ => F1
  rename News _ _ _ _ => N1
  rename _ ∧ LCg.Off1 _ _ => O1
  exact ⟨h.out _ _ _ _ _ _ F1 (fun q hq => N1 q (by rcases List.mem_cons.mp hq with h | h; exact List.mem_cons.mpr (.inl h); exact List.mem_cons_of_mem _ (List.mem_cons_of_mem _ h))) O1.2⟩
theorem law_3 (hK : LawIs (hd.heap_39 w.params) qual body scope) {tail : List (Addr × Obj)} {o1 o2 : Obj} {sl : Addr} {vs : List Value} {ns : List Int}
   (X : (hd.heap_39 w.params).In b) (T : Top p loose mean mg mb b) (F : Fr b L s.heap m) (N : News b L s.heap ((L + 1 + 1, o2) :: (L + 1, o1) :: tail)) (d1 : o1.data = .cell (some (.ref sl))) (d2 : o2.data = .cell none)
   (hsl : b.IsList sl vs.toArray) (hin : IntsAre vs ns) (hlen : ns.length ≤ 63) (hta : ∀ q ∈ tail, @Ne Nat q.1 (L + 1 + 1))
   (h : ∀ h' tk' o2' t, o2'.data = .cell (some (.int (6 + ns.sum.fmod 1000) t)) → Fr b L h' m → News b L h' ((L + 1 + 1, o2') :: (L + 1, o1) :: tail) → wpAny (model prog w) (callerA.deeper e) (execs (body.drop 4) (envOfC qual scope L fa cd)) Q E { s with heap := h', toks := tk' }) :
   wpAny (model prog w) (callerA.deeper e) (execs (body.drop 3) (envOfC qual scope L fa cd)) Q E s := by
  obtain ⟨rfl, rfl, rfl⟩ := lawIs_eq hK
  dsimp only [lawQual, lawBody, lawScope, pickQ, pickB, pickS, List.drop_succ_cons, List.drop_zero] at h ⊢
  replace h := Hold.mk h
  refine execs_go ?_
  repeat ((fail_if_success (with_reducible show wpAny _ _ (storeName _ _ _) _ _ _)); first | (k_unfold; (try dsimp only)) | walk1 | (dsimp only; walk1))
  refine' storeX_C ?F ?N ?c ?U ?d ?_ ?a ?b
  case a => rfl
  case b => rfl
  case F => k_asm
  case N => k_asm
  case c => rfl
  case d => assumption
  case U =>
    refine .head fun q hq => ?_
    rcases List.mem_cons.mp hq with rfl | hq
    · exact Nat.ne_of_lt (Nat.lt_succ_self _)
    · exact hta q hq
  intro h' o' F' N' d'
  try dsimp only at N'
  k_steps
  all_goals first | exact trivial | skip
  rename Fr _ _ _ _ => F1
  rename News _ _ _ _ => N1
  exact ⟨h.out _ _ _ _ d' F1 N1⟩
theorem law_4 (hK : LawIs (hd.heap_39 w.params) qual body scope) {tail : List (Addr × Obj)} {o3 : Obj}
   (X : (hd.heap_39 w.params).In b) (T : Top p loose mean mg mb b) (F : Fr b L s.heap m) (N : News b L s.heap ((L + 1 + 1 + 1, o3) :: tail)) (d3 : o3.data = .cell none)
   (hta : ∀ q ∈ tail, @Ne Nat q.1 (L + 1 + 1 + 1))
   (h : ∀ h' tk' o3' la us n0, o3'.data = .cell (some (.ref la)) → Fr b L h' m → News b L h' ((la, listOf us.toArray n0) :: (L + 1 + 1 + 1, o3') :: tail) → (∀ q ∈ tail, @Ne Nat q.1 la) → IntsAre us FL → wpAny (model prog w) (callerA.deeper e) (execs (body.drop 5) (envOfC qual scope L fa cd)) Q E { s with heap := h', toks := tk' }) :
   wpAny (model prog w) (callerA.deeper e) (execs (body.drop 4) (envOfC qual scope L fa cd)) Q E s := by
  obtain ⟨rfl, rfl, rfl⟩ := lawIs_eq hK
  dsimp only [lawQual, lawBody, lawScope, pickQ, pickB, pickS, List.drop_succ_cons, List.drop_zero] at h ⊢
  replace h := Hold.mk h
  refine execs_go ?_
  repeat ((fail_if_success (with_reducible show wpAny _ _ (call (Value.ref 81) _) _ _ _)); first | (k_unfold; (try dsimp only)) | walk1 | (dsimp only; walk1))
  show wpAny _ _ (call (Value.ref 81) []) _ _ _
  refine' ladder_F ?F ?N ?X ?T ?d ?hh ?_
  case F => k_asm
  case N => k_asm
  case X => k_asm
  case T => k_asm
  case d => exact Nat.le_of_ble_eq_true rfl
  case hh => rfl
  intro h' r vs n' tk' F1 N1 nr hi
  try dsimp only
  repeat ((fail_if_success (with_reducible show wpAny _ _ (storeName _ _ _) _ _ _)); first | (k_unfold; (try dsimp only)) | walk1 | (dsimp only; walk1))
  refine' storeX_C ?F ?N ?c ?U ?d ?_ ?a ?b
  case a => rfl
  case b => rfl
  case F => k_asm
  case N => k_asm
  case c => rfl
  case d => assumption
  case U => exact .tail (Ne.symm (nr _ List.mem_cons_self)) (.head fun q hq => hta q hq)
  intro h' o' F' N' d'
  try dsimp only at N'
  k_steps
  rename Fr _ _ _ _ => F1
  rename News _ _ _ _ => N1
  exact ⟨h.out _ _ _ _ _ _ d' F1 N1 (fun q hq => nr q (List.mem_cons_of_mem _ hq)) hi⟩
theorem reorder4 {h : Heap} {q0 q1 q2 q3 : Addr × Obj} {r : List (Addr × Obj)} (N : News b L h (q0 :: q3 :: q2 :: q1 :: r)) : News b L h (q0 :: q1 :: q2 :: q3 :: r) := fun q hq => N q (by
  simp only [List.mem_cons] at hq ⊢
  rcases hq with h | h | h | h | h
  · exact .inl h
  · exact .inr (.inr (.inr (.inl h)))
  · exact .inr (.inr (.inl h))
  · exact .inr (.inl h)
  · exact .inr (.inr (.inr (.inr h))))
theorem law_5 (hK : LawIs (hd.heap_39 w.params) qual body scope) {tail : List (Addr × Obj)} {o3 : Obj} {nu la : Addr} {us : List Value} {n0 : Nat} {n1 n2 n3 : Int} {t1 t2 t3 : Tok}
   (X : (hd.heap_39 w.params).In b) (T : Top p loose mean mg mb b) (F : Fr b L s.heap m) (N : News b L s.heap ((nu, listOf #[.int n1 t1, .int n2 t2, .int n3 t3] 3) :: (L + 1 + 1 + 1, o3) :: (la, listOf us.toArray n0) :: tail)) (d3 : o3.data = .cell (some (.ref la))) (hin : IntsAre us FL)
   (hm : m (Str.ofString "numbers") = some (.ref nu)) (p1 : 0 ≤ n1) (p2 : 0 ≤ n2) (p3 : 0 ≤ n3)
   (h : ∀ h' tk' ro r1 r2 r3 v1 v2 v3 k1 k2 k3 ms1 ms2 ms3, Fr b L h' (fun z => if z = Str.ofString "rows" then some (.ref ro) else m z) → News b L h' ((ro, listOf #[.ref r1, .ref r2, .ref r3] 3) :: (r1, listOf (List.toArray v1) k1) :: (r2, listOf (List.toArray v2) k2) :: (r3, listOf (List.toArray v3) k3) :: (nu, listOf #[.int n1 t1, .int n2 t2, .int n3 t3] 3) :: (L + 1 + 1 + 1, o3) :: (la, listOf us.toArray n0) :: tail) →
     LCg.Off1 ro tail → (∀ q ∈ tail, @Ne Nat q.1 r1) → (∀ q ∈ tail, @Ne Nat q.1 r2) → (∀ q ∈ tail, @Ne Nat q.1 r3) → IntsAre v1 ms1 → IntsAre v2 ms2 → IntsAre v3 ms3 → Grd n1 (List.replicate (cnt n1) 0) ms1 → Grd n2 (List.replicate (cnt n2) 0) ms2 → Grd n3 (List.replicate (cnt n3) 0) ms3 → ms1.length = cnt n1 → ms2.length = cnt n2 → ms3.length = cnt n3 →
     wpAny (model prog w) (callerA.deeper e) (execs (body.drop 6) (envOfC qual scope L fa cd)) Q E { s with heap := h', toks := tk' }) :
   wpAny (model prog w) (callerA.deeper e) (execs (body.drop 5) (envOfC qual scope L fa cd)) Q E s := by
  obtain ⟨rfl, rfl, rfl⟩ := lawIs_eq hK
  dsimp only [lawQual, lawBody, lawScope, pickQ, pickB, pickS, List.drop_succ_cons, List.drop_zero] at h ⊢
  replace h := Hold.mk h
  refine execs_go ?_
  k_steps
  rename Fr _ _ _ _ => F1
  rename News _ _ _ _ => N1
  rename _ ∧ _ ∧ _ ∧ _ ∧ _ ∧ _ ∧ LCg.Off1 _ _ => O1
  rename Grd n1 _ _ => g1
  rename Grd n2 _ _ => g2
  rename Grd n3 _ _ => g3
  refine ⟨h.out _ _ _ _ _ _ _ _ _ _ _ _ _ _ _ F1 (reorder4 N1) O1.2.2.2.2.2.2 ?_ ?_ ?_ ?_ ?_ ?_ g1 g2 g3 ‹_› ‹_› ‹_›⟩
  · exact fun q hq => ‹∀ q ∈ _, @Ne Nat q.1 _› q (by simp only [List.mem_cons]; simp only [hq, or_true])
  · exact fun q hq => ‹∀ q ∈ _, @Ne Nat q.1 _› q (by simp only [List.mem_cons]; simp only [hq, or_true])
  · exact fun q hq => ‹∀ q ∈ _, @Ne Nat q.1 _› q (by simp only [List.mem_cons]; simp only [hq, or_true])
  · assumption
  · assumption
  · assumption
end
-- part A14
set_option maxRecDepth 100000
set_option linter.unusedVariables false
set_option maxHeartbeats 1000000

section
variable {prog : Program} {w : World} {s : Shared} {mg mb : Str → Option Value} {mean : ExcName → Option Value} {p : Program} {loose : List Str} {qual : Str} {body : List Stmt} {scope : Scope} {b : Heap} {L fa : Addr} {cd : Value} {m : Str → Option Value} {e : Env} {Q : Flow → Shared → Prop} {E : Value → Shared → Prop} {o34 o41 o97 : Obj} {tabs : List (Addr × Obj)}

theorem reorder4n {h : Heap} {q0 q1 q2 q3 x y a b' c : Addr × Obj} {r : List (Addr × Obj)} (N : News b L h (q0 :: q3 :: q2 :: q1 :: x :: y :: a :: b' :: c :: r)) : News b L h ([] ++ a :: b' :: c :: q0 :: q1 :: q2 :: q3 :: r) := fun q hq => N q (by
  simp only [List.nil_append, List.mem_cons] at hq ⊢
  (rcases hq with h | h | h | h | h | h | h | h) <;> simp only [h, true_or, or_true])
theorem rot4 {h : Heap} {x a b' c : Addr × Obj} {r : List (Addr × Obj)} (N : News b L h (x :: a :: b' :: c :: r)) : News b L h ([] ++ a :: b' :: c :: x :: r) := fun q hq => N q (by
  simp only [List.nil_append, List.mem_cons] at hq ⊢
  (rcases hq with h | h | h | h | h) <;> simp only [h, true_or, or_true])
theorem go10 {D1 D2 D3 : List Int} {hh : Heap} {tk : Nat} {fi f1 f2 f3 : Addr} {v1 v2 v3 : List Value} {k1 k2 k3 : Nat} {x y : Addr × Obj} {p1 p2 p3 : Obj} {us9 : List (Addr × Obj)} {m' : Addr → Str → Option Value} {W : Heap → Nat → Prop}
   (H : ∀ fi f1 f2 f3 (v1 v2 v3 : List Value) k1 k2 k3, IntsAre v1 D1 → IntsAre v2 D2 → IntsAre v3 D3 → ∀ h' tk' o34 o41 o97 us, Tabs b o34 o41 o97 us → (∀ q ∈ ((fi, listOf #[.ref f1, .ref f2, .ref f3] 3) :: (f1, listOf v1.toArray k1) :: (f2, listOf v2.toArray k2) :: (f3, listOf v3.toArray k3) :: tabs), q ∈ us) → Fr b L h' (m' fi) → News b L h' ([] ++ (34, o34) :: (41, o41) :: (97, o97) :: us) → W h' tk')
   (N9 : News b L hh ((fi, listOf #[.ref f1, .ref f2, .ref f3] 3) :: (f3, listOf v3.toArray k3) :: (f2, listOf v2.toArray k2) :: (f1, listOf v1.toArray k1) :: x :: y :: (34, p1) :: (41, p2) :: (97, p3) :: us9)) (K9 : Tabs b p1 p2 p3 us9) (sb : ∀ q ∈ tabs, q ∈ us9)
   (a1 : @Ne Nat fi 34) (a2 : @Ne Nat fi 41) (a3 : @Ne Nat fi 97) (b1 : @Ne Nat f1 34) (b2 : @Ne Nat f1 41) (b3 : @Ne Nat f1 97) (c1 : @Ne Nat f2 34) (c2 : @Ne Nat f2 41) (c3 : @Ne Nat f2 97) (d1 : @Ne Nat f3 34) (d2 : @Ne Nat f3 41) (d3 : @Ne Nat f3 97)
   (F9 : Fr b L hh (m' fi)) (i1 : IntsAre v1 D1) (i2 : IntsAre v2 D2) (i3 : IntsAre v3 D3) :
   W hh tk := by
  refine H fi f1 f2 f3 v1 v2 v3 k1 k2 k3 i1 i2 i3 hh tk p1 p2 p3 ((fi, listOf #[.ref f1, .ref f2, .ref f3] 3) :: (f1, listOf v1.toArray k1) :: (f2, listOf v2.toArray k2) :: (f3, listOf v3.toArray k3) :: us9) ((((K9.add d1 d2 d3).add c1 c2 c3).add b1 b2 b3).add a1 a2 a3) (fun q hq => ?_) F9 (reorder4n N9)
  simp only [List.mem_cons] at hq ⊢
  rcases hq with h | h | h | h | h
  · exact .inl h
  · exact .inr (.inl h)
  · exact .inr (.inr (.inl h))
  · exact .inr (.inr (.inr (.inl h)))
  · exact .inr (.inr (.inr (.inr (sb q h))))
theorem law_8 (hK : LawIs (hd.heap_39 w.params) qual body scope) {o2 : Obj} {ro r1 r2 r3 : Addr} {v1 v2 v3 : List Value} {k1 k2 k3 : Nat} {ms1 ms2 ms3 : List Int} {W : Int} {tw : Tok}
   (X : (hd.heap_39 w.params).In b) (T : Top p loose mean mg mb b) (C : Cds b) (K : Tabs b o34 o41 o97 tabs) (F : Fr b L s.heap m) (N : News b L s.heap ((ro, listOf #[.ref r1, .ref r2, .ref r3] 3) :: (r1, listOf v1.toArray k1) :: (r2, listOf v2.toArray k2) :: (r3, listOf v3.toArray k3) :: (L + 1 + 1, o2) :: (34, o34) :: (41, o41) :: (97, o97) :: tabs)) (d2 : o2.data = .cell (some (.int W tw)))
   (hm : m (Str.ofString "rows") = some (.ref ro)) (i1 : IntsAre v1 ms1) (i2 : IntsAre v2 ms2) (i3 : IntsAre v3 ms3) (sm1 : ∀ x ∈ ms1, Small x W.toNat) (sm2 : ∀ x ∈ ms2, Small x W.toNat) (sm3 : ∀ x ∈ ms3, Small x W.toNat) (ln1 : ms1.length < 100) (ln2 : ms2.length < 100) (ln3 : ms3.length < 100)
   (w1 : 1 ≤ W) (w2 : W < 2000) (z0 : @Ne Nat ro 41) (z1 : @Ne Nat r1 41) (z2 : @Ne Nat r2 41) (z3 : @Ne Nat r3 41) (z4 : @LT.lt Nat _ 97 L)
   (h : ∀ t1 t2 t3, GoOn prog w e qual body scope b L fa cd Q E 9 (fun y => if y = Str.ofString "three" then some (.int (evalDig W.toNat ms3) t3) else if y = Str.ofString "two" then some (.int (evalDig W.toNat ms2) t2) else if y = Str.ofString "one" then some (.int (evalDig W.toNat ms1) t1) else m y) [] tabs s) :
   wpAny (model prog w) (callerA.deeper e) (execs (body.drop 8) (envOfC qual scope L fa cd)) Q E s := by
  obtain ⟨rfl, rfl, rfl⟩ := lawIs_eq hK
  unfold GoOn at h
  dsimp only [lawQual, lawBody, lawScope, pickQ, pickB, pickS, List.drop_succ_cons, List.drop_zero] at h ⊢
  replace h := Hold.mk @h
  refine execs_go ?_
  k_steps
  rename Tabs _ _ _ _ _ => K9
  rename Fr _ _ _ _ => F9
  rename News _ _ _ _ => N9
  exact ⟨h.out _ _ _ _ _ _ _ _ _ K9 (fun q hq => by repeat (first | exact hq | refine ‹∀ q ∈ (_ : List (Addr × Obj)), q ∈ (_ : List (Addr × Obj))› q ?_)) F9 (fun q hq => N9 q (by simp only [List.nil_append, List.mem_cons] at hq ⊢; simp only [hq, or_true]))⟩
theorem law_9 (hK : LawIs (hd.heap_39 w.params) qual body scope) {x1 x2 x3 : Int} {t1 t2 t3 : Tok}
   (X : (hd.heap_39 w.params).In b) (T : Top p loose mean mg mb b) (C : Cds b) (K : Tabs b o34 o41 o97 tabs) (F : Fr b L s.heap m) (N : News b L s.heap ((34, o34) :: (41, o41) :: (97, o97) :: tabs))
   (n1 : m (Str.ofString "one") = some (.int x1 t1)) (n2 : m (Str.ofString "two") = some (.int x2 t2)) (n3 : m (Str.ofString "three") = some (.int x3 t3)) (hm1 : IntMulOk x1 x2) (hm2 : IntMulOk x2 x3) (hm3 : IntMulOk (x1 * x2) x3)
   (h : ∀ pr t1 t2 t3, GoOn prog w e qual body scope b L fa cd Q E 10 (fun y => if y = Str.ofString "products" then some (.ref pr) else m y) [] ((pr, listOf #[.int (x1 * x2) t1, .int (x2 * x3) t2, .int (x1 * x2 * x3) t3] 0) :: tabs) s) :
   wpAny (model prog w) (callerA.deeper e) (execs (body.drop 9) (envOfC qual scope L fa cd)) Q E s := by
  obtain ⟨rfl, rfl, rfl⟩ := lawIs_eq hK
  unfold GoOn at h
  dsimp only [lawQual, lawBody, lawScope, pickQ, pickB, pickS, List.drop_succ_cons, List.drop_zero] at h ⊢
  replace h := Hold.mk @h
  generalize hT : (34, o34) :: (41, o41) :: (97, o97) :: tabs = tail at N
  refine execs_go ?_
  k_steps
  all_goals first | exact trivial | skip
  rename Fr _ _ _ _ => F9
  rename News _ _ _ _ => N9
  rename ∀ (p : Addr × Obj), p ∈ tail → _ < _ => l9
  subst hT
  have a1 : @LT.lt Nat _ 34 _ := l9 (34, o34) (by k_mem)
  have a2 : @LT.lt Nat _ 41 _ := l9 (41, o41) (by k_mem)
  have a3 : @LT.lt Nat _ 97 _ := l9 (97, o97) (by k_mem)
  exact ⟨h.out _ _ _ _ _ _ _ _ _ _ (K.add (Nat.ne_of_gt a1) (Nat.ne_of_gt a2) (Nat.ne_of_gt a3)) (fun q hq => hq) F9 (rot4 N9)⟩
theorem law_10 (hK : LawIs (hd.heap_39 w.params) qual body scope) {o2 : Obj} {pr : Addr} {x1 x2 x3 : Int} {t1 t2 t3 : Tok} {W : Int} {tw : Tok} {k0 : Nat}
   (X : (hd.heap_39 w.params).In b) (T : Top p loose mean mg mb b) (C : Cds b) (K : Tabs b o34 o41 o97 tabs) (F : Fr b L s.heap m) (N : News b L s.heap ((pr, listOf #[.int x1 t1, .int x2 t2, .int x3 t3] k0) :: (L + 1 + 1, o2) :: (34, o34) :: (41, o41) :: (97, o97) :: tabs)) (d2 : o2.data = .cell (some (.int W tw)))
   (hm : m (Str.ofString "products") = some (.ref pr)) (y1 : 0 ≤ x1) (y2 : 0 ≤ x2) (y3 : 0 ≤ x3) (ln1 : ndig x1 W.toNat < 100) (ln2 : ndig x2 W.toNat < 100) (ln3 : ndig x3 W.toNat < 100)
   (w1 : 1 ≤ W) (w2 : W < 2000) (z0 : @Ne Nat pr 34) (z4 : @LT.lt Nat _ 97 L)
   (h : ∀ fi f1 f2 f3 v1 v2 v3 k1 k2 k3, IntsAre v1 (digitsOf x1 W.toNat) → IntsAre v2 (digitsOf x2 W.toNat) → IntsAre v3 (digitsOf x3 W.toNat) → GoOn prog w e qual body scope b L fa cd Q E 11 (fun y => if y = Str.ofString "figures" then some (.ref fi) else m y) [] ((fi, listOf #[.ref f1, .ref f2, .ref f3] 3) :: (f1, listOf v1.toArray k1) :: (f2, listOf v2.toArray k2) :: (f3, listOf v3.toArray k3) :: tabs) s) :
   wpAny (model prog w) (callerA.deeper e) (execs (body.drop 10) (envOfC qual scope L fa cd)) Q E s := by
  obtain ⟨rfl, rfl, rfl⟩ := lawIs_eq hK
  unfold GoOn at h
  dsimp only [lawQual, lawBody, lawScope, pickQ, pickB, pickS, List.drop_succ_cons, List.drop_zero] at h ⊢
  replace h := Hold.mk @h
  refine execs_go ?_
  k_steps
  rename Tabs _ _ _ _ _ => K9
  rename Fr _ _ _ _ => F9
  rename News _ _ _ _ => N9
  rename IntsAre _ (digitsOf x3 _) => i3
  rename IntsAre _ (digitsOf x2 _) => i2
  rename IntsAre _ (digitsOf x1 _) => i1
  exact ⟨go10 h.out N9 K9 (fun q hq => by repeat (first | exact hq | refine ‹∀ q ∈ (_ : List (Addr × Obj)), q ∈ (_ : List (Addr × Obj))› q ?_)) (by omega) (by omega) (by omega) (by omega) (by omega) (by omega) (by omega) (by omega) (by omega) (by omega) (by omega) (by omega) F9 i1 i2 i3⟩
theorem law_11 (hK : LawIs (hd.heap_39 w.params) qual body scope) {o2 : Obj} {pr fi f1 f2 f3 : Addr} {v1 v2 v3 : List Value} {k0 k1 k2 k3 : Nat} {ms1 ms2 ms3 : List Int} {x1 x2 x3 : Int} {t1 t2 t3 : Tok} {W : Int} {tw : Tok}
   (X : (hd.heap_39 w.params).In b) (T : Top p loose mean mg mb b) (C : Cds b) (K : Tabs b o34 o41 o97 tabs) (F : Fr b L s.heap m) (N : News b L s.heap ((fi, listOf #[.ref f1, .ref f2, .ref f3] 3) :: (f1, listOf v1.toArray k1) :: (f2, listOf v2.toArray k2) :: (f3, listOf v3.toArray k3) :: (pr, listOf #[.int x1 t1, .int x2 t2, .int x3 t3] k0) :: (L + 1 + 1, o2) :: (34, o34) :: (41, o41) :: (97, o97) :: tabs)) (d2 : o2.data = .cell (some (.int W tw)))
   (hm : m (Str.ofString "products") = some (.ref pr)) (hm2 : m (Str.ofString "figures") = some (.ref fi)) (i1 : IntsAre v1 ms1) (i2 : IntsAre v2 ms2) (i3 : IntsAre v3 ms3) (sm1 : ∀ x ∈ ms1, Small x W.toNat) (sm2 : ∀ x ∈ ms2, Small x W.toNat) (sm3 : ∀ x ∈ ms3, Small x W.toNat) (ln1 : ms1.length < 100) (ln2 : ms2.length < 100) (ln3 : ms3.length < 100)
   (e1 : evalDig W.toNat ms1 = x1) (e2 : evalDig W.toNat ms2 = x2) (e3 : evalDig W.toNat ms3 = x3)
   (w1 : 1 ≤ W) (w2 : W < 2000) (z0 : @Ne Nat fi 41) (z1 : @Ne Nat f1 41) (z2 : @Ne Nat f2 41) (z3 : @Ne Nat f3 41) (z5 : @Ne Nat pr 41) (z4 : @LT.lt Nat _ 97 L)
   (h : GoOn prog w e qual body scope b L fa cd Q E 12 m [] tabs s) :
   wpAny (model prog w) (callerA.deeper e) (execs (body.drop 11) (envOfC qual scope L fa cd)) Q E s := by
  obtain ⟨rfl, rfl, rfl⟩ := lawIs_eq hK
  unfold GoOn at h
  dsimp only [lawQual, lawBody, lawScope, pickQ, pickB, pickS, List.drop_succ_cons, List.drop_zero] at h ⊢
  replace h := Hold.mk @h
  refine execs_go ?_
  k_steps
  · rename Tabs _ _ _ _ _ => K9
    rename Fr _ _ _ _ => F9
    rename News _ _ _ _ => N9
    exact ⟨h.out _ _ _ _ _ _ K9 (fun q hq => by repeat (first | exact hq | refine ‹∀ q ∈ (_ : List (Addr × Obj)), q ∈ (_ : List (Addr × Obj))› q ?_)) F9 (fun q hq => N9 q (by simp only [List.nil_append, List.mem_cons] at hq ⊢; simp only [hq, or_true]))⟩
  all_goals (rename ¬ (_ = _) => ne9; exact absurd (by rw [e1, e2, e3]) ne9)
end
-- part A15
set_option maxRecDepth 100000
set_option linter.unusedVariables false
set_option maxHeartbeats 1000000

section
variable {prog : Program} {w : World} {s : Shared} {mg mb : Str → Option Value} {mean : ExcName → Option Value} {p : Program} {loose : List Str} {qual : Str} {body : List Stmt} {scope : Scope} {b : Heap} {L fa : Addr} {cd : Value} {m : Str → Option Value} {e : Env} {Q : Flow → Shared → Prop} {E : Value → Shared → Prop} {o34 o41 o97 : Obj} {tabs : List (Addr × Obj)}

theorem sub_cons {x : Addr × Obj} {l r : List (Addr × Obj)} (h : ∀ q ∈ l, q ∈ r) : ∀ q ∈ x :: l, q ∈ x :: r := fun q hq => by
  rcases List.mem_cons.mp hq with rfl | hq
  · exact List.mem_cons_self
  · exact List.mem_cons_of_mem _ (h q hq)
theorem rot5 {h : Heap} {x y a b' c : Addr × Obj} {r : List (Addr × Obj)} (N : News b L h (x :: y :: a :: b' :: c :: r)) : News b L h ([] ++ a :: b' :: c :: x :: r) := fun q hq => N q (by
  simp only [List.nil_append, List.mem_cons] at hq ⊢
  (rcases hq with h | h | h | h | h) <;> simp only [h, true_or, or_true])
theorem law_12 (hK : LawIs (hd.heap_39 w.params) qual body scope) {on fi f1 f2 f3 : Addr} {v1 v2 v3 : List Value} {k0 k1 k2 k3 : Nat} {ms1 ms2 ms3 : List Int} {x1 x2 x3 : Int} {t1 t2 t3 : Tok}
   (X : (hd.heap_39 w.params).In b) (T : Top p loose mean mg mb b) (C : Cds b) (K : Tabs b o34 o41 o97 tabs) (F : Fr b L s.heap m) (N : News b L s.heap ((fi, listOf #[.ref f1, .ref f2, .ref f3] 3) :: (f1, listOf v1.toArray k1) :: (f2, listOf v2.toArray k2) :: (f3, listOf v3.toArray k3) :: (on, listOf #[.int x1 t1, .int x2 t2, .int x3 t3] k0) :: (34, o34) :: (41, o41) :: (97, o97) :: tabs))
   (hm : m (Str.ofString "ones") = some (.ref on)) (hm2 : m (Str.ofString "figures") = some (.ref fi)) (i1 : IntsAre v1 ms1) (i2 : IntsAre v2 ms2) (i3 : IntsAre v3 ms3) (ln1 : ms1.length < 100) (ln2 : ms2.length < 100) (ln3 : ms3.length < 100)
   (e1 : ms1.sum = x1 * x2) (e2 : ms2.sum = x2 * x3) (e3 : ms3.sum = x1 * x2 * x3) (hm1 : IntMulOk x1 x2) (hm2' : IntMulOk x2 x3) (hm3 : IntMulOk (x1 * x2) x3)
   (h : GoOn prog w e qual body scope b L fa cd Q E 13 m [] tabs s) :
   wpAny (model prog w) (callerA.deeper e) (execs (body.drop 12) (envOfC qual scope L fa cd)) Q E s := by
  obtain ⟨rfl, rfl, rfl⟩ := lawIs_eq hK
  unfold GoOn at h
  dsimp only [lawQual, lawBody, lawScope, pickQ, pickB, pickS, List.drop_succ_cons, List.drop_zero] at h ⊢
  replace h := Hold.mk @h
  generalize hT : (34, o34) :: (41, o41) :: (97, o97) :: tabs = tail at N
  refine execs_go ?_
  k_steps
  · rename Fr _ _ _ _ => F9
    rename News _ _ _ _ => N9
    subst hT
    exact ⟨h.out _ _ _ _ _ _ K (fun q hq => hq) F9 (fun q hq => N9 q (by simp only [List.nil_append, List.mem_cons] at hq ⊢; simp only [hq, or_true]))⟩
  all_goals (rename ¬ (_ = _) => ne9; exact absurd (by rw [e1, e2, e3]) ne9)
theorem law_14 (hK : LawIs (hd.heap_39 w.params) qual body scope) {nu : Addr} {n1 n2 n3 : Int} {t1 t2 t3 : Tok} {k0 : Nat}
   (X : (hd.heap_39 w.params).In b) (T : Top p loose mean mg mb b) (C : Cds b) (K : Tabs b o34 o41 o97 tabs) (F : Fr b L s.heap m) (N : News b L s.heap ((nu, listOf #[.int n1 t1, .int n2 t2, .int n3 t3] k0) :: (34, o34) :: (41, o41) :: (97, o97) :: tabs))
   (hm : m (Str.ofString "numbers") = some (.ref nu))
   (h : GoOn prog w e qual body scope b L fa cd Q E 15 (fun y => if y = Str.ofString "third" then some (.int n3 t3) else if y = Str.ofString "second" then some (.int n2 t2) else if y = Str.ofString "first" then some (.int n1 t1) else m y) [] tabs s) :
   wpAny (model prog w) (callerA.deeper e) (execs (body.drop 14) (envOfC qual scope L fa cd)) Q E s := by
  obtain ⟨rfl, rfl, rfl⟩ := lawIs_eq hK
  unfold GoOn at h
  dsimp only [lawQual, lawBody, lawScope, pickQ, pickB, pickS, List.drop_succ_cons, List.drop_zero] at h ⊢
  replace h := Hold.mk @h
  refine execs_go ?_
  k_steps
  rename Fr _ _ _ _ => F9
  rename News _ _ _ _ => N9
  exact ⟨h.out _ _ _ _ _ _ K (fun q hq => hq) F9 (fun q hq => N9 q (by simp only [List.nil_append, List.mem_cons] at hq ⊢; simp only [hq, or_true]))⟩
theorem law_15 (hK : LawIs (hd.heap_39 w.params) qual body scope) {nu : Addr} {n1 n2 n3 s1 s2 s3 : Int} {t1 t2 t3 : Tok} {k0 : Nat}
   (X : (hd.heap_39 w.params).In b) (T : Top p loose mean mg mb b) (C : Cds b) (K : Tabs b o34 o41 o97 tabs) (F : Fr b L s.heap m) (N : News b L s.heap ((nu, listOf #[.int n1 t1, .int n2 t2, .int n3 t3] k0) :: (34, o34) :: (41, o41) :: (97, o97) :: tabs))
   (hm : m (Str.ofString "numbers") = some (.ref nu)) (y1 : 0 ≤ n1) (y2 : 0 ≤ n2) (y3 : 0 ≤ n3) (u1 : n1 < 2 ^ 24) (u2 : n2 < 2 ^ 24) (u3 : n3 < 2 ^ 24) (h1 : Shr n1 s1) (h2 : Shr n2 s2) (h3 : Shr n3 s3) (a1 : 0 ≤ s1) (a2 : 0 ≤ s2) (a3 : 0 ≤ s3) (b1 : s1 ≤ n1) (b2 : s2 ≤ n2) (b3 : s3 ≤ n3) (z0 : @Ne Nat nu 97)
   (h : ∀ sh t1 t2 t3, GoOn prog w e qual body scope b L fa cd Q E 16 (fun y => if y = Str.ofString "shares" then some (.ref sh) else m y) [] ((sh, listOf #[.int s1 t1, .int s2 t2, .int s3 t3] 3) :: tabs) s) :
   wpAny (model prog w) (callerA.deeper e) (execs (body.drop 15) (envOfC qual scope L fa cd)) Q E s := by
  obtain ⟨rfl, rfl, rfl⟩ := lawIs_eq hK
  unfold GoOn at h
  dsimp only [lawQual, lawBody, lawScope, pickQ, pickB, pickS, List.drop_succ_cons, List.drop_zero] at h ⊢
  replace h := Hold.mk @h
  refine execs_go ?_
  k_steps
  rename Tabs _ _ _ _ _ => K9
  rename Fr _ _ _ _ => F9
  rename News _ _ _ _ => N9
  rename _ ∧ _ ∧ _ ∧ _ ∧ LCg.Off1 _ _ => o9
  exact ⟨h.out _ _ _ _ _ _ _ _ _ _ (K9.add (Ne.symm o9.2.1) (Ne.symm o9.2.2.1) (Ne.symm o9.2.2.2.1)) (sub_cons (fun q hq => by repeat (first | exact hq | refine ‹∀ q ∈ (_ : List (Addr × Obj)), q ∈ (_ : List (Addr × Obj))› q ?_))) F9 (rot5 N9)⟩
theorem law_16 (hK : LawIs (hd.heap_39 w.params) qual body scope) {sh : Addr} {n1 n2 n3 s1 s2 s3 l r : Int} {ta tb tc td te t1 t2 t3 : Tok} {k0 : Nat}
   (X : (hd.heap_39 w.params).In b) (T : Top p loose mean mg mb b) (C : Cds b) (K : Tabs b o34 o41 o97 tabs) (F : Fr b L s.heap m) (N : News b L s.heap ((sh, listOf #[.int s1 t1, .int s2 t2, .int s3 t3] k0) :: (34, o34) :: (41, o41) :: (97, o97) :: tabs))
   (hm : m (Str.ofString "shares") = some (.ref sh)) (m1 : m (Str.ofString "first") = some (.int n1 ta)) (m2 : m (Str.ofString "second") = some (.int n2 tb)) (m3 : m (Str.ofString "third") = some (.int n3 tc)) (m4 : m (Str.ofString "left") = some (.int l td)) (m5 : m (Str.ofString "right") = some (.int r te))
   (q1 : IntMulOk (-n1) n2) (q2 : IntMulOk n1 s2) (q3 : IntMulOk n2 s1) (q4 : IntMulOk n2 n3) (q5 : IntMulOk (-n2) s3) (q6 : IntMulOk n3 s2) (q7 : IntMulOk n1 n2) (q8 : IntMulOk s1 s2)
   (e1 : -n1 * n2 + l = n1 * s2 + n2 * s1) (e2 : n2 * n3 - r = -n2 * s3 - n3 * s2) (h3 : Shr l (n1 * n2 + s1 * s2)) (y1 : 0 ≤ l) (u1 : l < 2 ^ 24) (a3 : 0 ≤ n1 * n2 + s1 * s2) (b3 : n1 * n2 + s1 * s2 ≤ l) (z0 : @Ne Nat sh 97)
   (h : GoOn prog w e qual body scope b L fa cd Q E 17 m [] tabs s) :
   wpAny (model prog w) (callerA.deeper e) (execs (body.drop 16) (envOfC qual scope L fa cd)) Q E s := by
  obtain ⟨rfl, rfl, rfl⟩ := lawIs_eq hK
  unfold GoOn at h
  dsimp only [lawQual, lawBody, lawScope, pickQ, pickB, pickS, List.drop_succ_cons, List.drop_zero] at h ⊢
  replace h := Hold.mk @h
  refine execs_go ?_
  k_steps
  rotate_right
  · rename Fr _ _ _ _ => F9
    rename News _ _ _ _ => N9
    exact ⟨h.out _ _ _ _ _ _ K (fun q hq => hq) F9 (fun q hq => N9 q (by simp only [List.nil_append, List.mem_cons] at hq ⊢; simp only [hq, or_true]))⟩
  all_goals exact absurd e1 ‹_ ≠ _›
theorem law_17 (hK : LawIs (hd.heap_39 w.params) qual body scope) {sh : Addr} {n1 n2 n3 s1 s2 s3 l r : Int} {ta tb tc td te t1 t2 t3 : Tok} {k0 : Nat}
   (X : (hd.heap_39 w.params).In b) (T : Top p loose mean mg mb b) (C : Cds b) (K : Tabs b o34 o41 o97 tabs) (F : Fr b L s.heap m) (N : News b L s.heap ((sh, listOf #[.int s1 t1, .int s2 t2, .int s3 t3] k0) :: (34, o34) :: (41, o41) :: (97, o97) :: tabs))
   (hm : m (Str.ofString "shares") = some (.ref sh)) (m1 : m (Str.ofString "first") = some (.int n1 ta)) (m2 : m (Str.ofString "second") = some (.int n2 tb)) (m3 : m (Str.ofString "third") = some (.int n3 tc)) (m4 : m (Str.ofString "left") = some (.int l td)) (m5 : m (Str.ofString "right") = some (.int r te))
   (q1 : IntMulOk (-n1) n2) (q2 : IntMulOk n1 s2) (q3 : IntMulOk n2 s1) (q4 : IntMulOk n2 n3) (q5 : IntMulOk (-n2) s3) (q6 : IntMulOk n3 s2) (q7 : IntMulOk n1 n2) (q8 : IntMulOk s1 s2)
   (e1 : -n1 * n2 + l = n1 * s2 + n2 * s1) (e2 : n2 * n3 - r = -n2 * s3 - n3 * s2) (h3 : Shr l (n1 * n2 + s1 * s2)) (y1 : 0 ≤ l) (u1 : l < 2 ^ 24) (a3 : 0 ≤ n1 * n2 + s1 * s2) (b3 : n1 * n2 + s1 * s2 ≤ l) (z0 : @Ne Nat sh 97)
   (h : GoOn prog w e qual body scope b L fa cd Q E 18 m [] tabs s) :
   wpAny (model prog w) (callerA.deeper e) (execs (body.drop 17) (envOfC qual scope L fa cd)) Q E s := by
  obtain ⟨rfl, rfl, rfl⟩ := lawIs_eq hK
  unfold GoOn at h
  dsimp only [lawQual, lawBody, lawScope, pickQ, pickB, pickS, List.drop_succ_cons, List.drop_zero] at h ⊢
  replace h := Hold.mk @h
  refine execs_go ?_
  k_steps
  rotate_right
  · rename Fr _ _ _ _ => F9
    rename News _ _ _ _ => N9
    exact ⟨h.out _ _ _ _ _ _ K (fun q hq => hq) F9 (fun q hq => N9 q (by simp only [List.nil_append, List.mem_cons] at hq ⊢; simp only [hq, or_true]))⟩
  all_goals exact absurd e2 ‹_ ≠ _›
theorem law_18 (hK : LawIs (hd.heap_39 w.params) qual body scope) {sh : Addr} {n1 n2 n3 s1 s2 s3 l r : Int} {ta tb tc td te t1 t2 t3 : Tok} {k0 : Nat}
   (X : (hd.heap_39 w.params).In b) (T : Top p loose mean mg mb b) (C : Cds b) (K : Tabs b o34 o41 o97 tabs) (F : Fr b L s.heap m) (N : News b L s.heap ((sh, listOf #[.int s1 t1, .int s2 t2, .int s3 t3] k0) :: (34, o34) :: (41, o41) :: (97, o97) :: tabs))
   (hm : m (Str.ofString "shares") = some (.ref sh)) (m1 : m (Str.ofString "first") = some (.int n1 ta)) (m2 : m (Str.ofString "second") = some (.int n2 tb)) (m3 : m (Str.ofString "third") = some (.int n3 tc)) (m4 : m (Str.ofString "left") = some (.int l td)) (m5 : m (Str.ofString "right") = some (.int r te))
   (q1 : IntMulOk (-n1) n2) (q2 : IntMulOk n1 s2) (q3 : IntMulOk n2 s1) (q4 : IntMulOk n2 n3) (q5 : IntMulOk (-n2) s3) (q6 : IntMulOk n3 s2) (q7 : IntMulOk n1 n2) (q8 : IntMulOk s1 s2)
   (e1 : -n1 * n2 + l = n1 * s2 + n2 * s1) (e2 : n2 * n3 - r = -n2 * s3 - n3 * s2) (h3 : Shr l (n1 * n2 + s1 * s2)) (y1 : 0 ≤ l) (u1 : l < 2 ^ 24) (a3 : 0 ≤ n1 * n2 + s1 * s2) (b3 : n1 * n2 + s1 * s2 ≤ l) (z0 : @Ne Nat sh 97)
   (h : GoOn prog w e qual body scope b L fa cd Q E 19 m [] tabs s) :
   wpAny (model prog w) (callerA.deeper e) (execs (body.drop 18) (envOfC qual scope L fa cd)) Q E s := by
  obtain ⟨rfl, rfl, rfl⟩ := lawIs_eq hK
  unfold GoOn at h
  dsimp only [lawQual, lawBody, lawScope, pickQ, pickB, pickS, List.drop_succ_cons, List.drop_zero] at h ⊢
  replace h := Hold.mk @h
  refine execs_go ?_
  k_steps
  rotate_right
  · rename Fr _ _ _ _ => F9
    rename News _ _ _ _ => N9
    rename Tabs _ _ _ _ _ => K9
    exact ⟨h.out _ _ _ _ _ _ K9 (fun q hq => by repeat (first | exact hq | refine ‹∀ q ∈ (_ : List (Addr × Obj)), q ∈ (_ : List (Addr × Obj))› q ?_)) F9 (fun q hq => N9 q (by simp only [List.nil_append, List.mem_cons] at hq ⊢; simp only [hq, or_true]))⟩
  all_goals exact absurd rfl ‹_ ≠ _›
end
-- part A16
set_option maxRecDepth 100000
set_option linter.unusedVariables false
set_option maxHeartbeats 1000000

section
variable {prog : Program} {w : World} {s : Shared} {mg mb : Str → Option Value} {mean : ExcName → Option Value} {p : Program} {loose : List Str} {qual : Str} {body : List Stmt} {scope : Scope} {b : Heap} {L fa : Addr} {cd : Value} {m : Str → Option Value} {e : Env} {Q : Flow → Shared → Prop} {E : Value → Shared → Prop} {o34 o41 o97 : Obj} {tabs : List (Addr × Obj)}

theorem skip1 {h : Heap} {x y : Addr × Obj} {r : List (Addr × Obj)} (N : News b L h (x :: y :: r)) : News b L h (x :: r) := fun q hq => N q (by
  rcases List.mem_cons.mp hq with h | h
  · exact List.mem_cons.mpr (.inl h)
  · exact List.mem_cons_of_mem _ (List.mem_cons_of_mem _ h))
theorem law_6 (hK : LawIs (hd.heap_39 w.params) qual body scope)
   (X : (hd.heap_39 w.params).In b) (T : Top p loose mean mg mb b) (C : Cds b) (K : Tabs b o34 o41 o97 tabs) (F : Fr b L s.heap m) (N : News b L s.heap ((34, o34) :: (41, o41) :: (97, o97) :: tabs))
   (h : ∀ on h' tk', @Ne Nat on 34 → @Ne Nat on 41 → @Ne Nat on 97 → (∀ q ∈ tabs, @Ne Nat q.1 on) → Fr b L h' (fun y => if y = Str.ofString "ones" then some (.ref on) else m y) → News b L h' ((on, listOf #[] 0) :: (34, o34) :: (41, o41) :: (97, o97) :: tabs) →
     wpAny (model prog w) (callerA.deeper e) (execs (body.drop 7) (envOfC qual scope L fa cd)) Q E { s with heap := h', toks := tk' }) :
   wpAny (model prog w) (callerA.deeper e) (execs (body.drop 6) (envOfC qual scope L fa cd)) Q E s := by
  obtain ⟨rfl, rfl, rfl⟩ := lawIs_eq hK
  dsimp only [lawQual, lawBody, lawScope, pickQ, pickB, pickS, List.drop_succ_cons, List.drop_zero] at h ⊢
  replace h := Hold.mk @h
  generalize hT : (34, o34) :: (41, o41) :: (97, o97) :: tabs = tail at N
  refine execs_go ?_
  k_steps
  all_goals first | exact trivial | skip
  rename Fr _ _ _ _ => F9
  rename News _ _ _ _ => N9
  rename ∀ (p : Addr × Obj), p ∈ tail → _ < _ => l9
  subst hT
  have a1 : @LT.lt Nat _ 34 _ := l9 (34, o34) (by k_mem)
  have a2 : @LT.lt Nat _ 41 _ := l9 (41, o41) (by k_mem)
  have a3 : @LT.lt Nat _ 97 _ := l9 (97, o97) (by k_mem)
  exact ⟨h.out _ _ _ (Nat.ne_of_gt a1) (Nat.ne_of_gt a2) (Nat.ne_of_gt a3) (fun q hq => Nat.ne_of_lt (l9 q (List.mem_cons_of_mem _ (List.mem_cons_of_mem _ (List.mem_cons_of_mem _ hq))))) F9 N9⟩
theorem law_13 (hK : LawIs (hd.heap_39 w.params) qual body scope) {fi f1 f2 f3 la : Addr} {v1 v2 v3 us : List Value} {k1 k2 k3 n0 : Nat} {ms1 ms2 ms3 : List Int} {o3 : Obj}
   (X : (hd.heap_39 w.params).In b) (T : Top p loose mean mg mb b) (C : Cds b) (K : Tabs b o34 o41 o97 tabs) (F : Fr b L s.heap m) (N : News b L s.heap ((fi, listOf #[.ref f1, .ref f2, .ref f3] 3) :: (f1, listOf v1.toArray k1) :: (f2, listOf v2.toArray k2) :: (f3, listOf v3.toArray k3) :: (la, listOf us.toArray n0) :: (L + 1 + 1 + 1, o3) :: (34, o34) :: (41, o41) :: (97, o97) :: tabs)) (d3 : o3.data = .cell (some (.ref la))) (hin : IntsAre us FL)
   (hm2 : m (Str.ofString "figures") = some (.ref fi)) (i1 : IntsAre v1 ms1) (i2 : IntsAre v2 ms2) (i3 : IntsAre v3 ms3) (ln1 : ms1.length + 2 ≤ FL.length) (ln2 : ms2.length + 2 ≤ FL.length) (ln3 : ms3.length + 4 ≤ FL.length)
   (h : ∀ t1 t2 t3, GoOn prog w e qual body scope b L fa cd Q E 14 (fun y => if y = Str.ofString "whole" then some (.int (val 6 ms3) t3) else if y = Str.ofString "right" then some (.int (val 4 ms2) t2) else if y = Str.ofString "left" then some (.int (val 4 ms1) t1) else m y) [] tabs s) :
   wpAny (model prog w) (callerA.deeper e) (execs (body.drop 13) (envOfC qual scope L fa cd)) Q E s := by
  obtain ⟨rfl, rfl, rfl⟩ := lawIs_eq hK
  unfold GoOn at h
  dsimp only [lawQual, lawBody, lawScope, pickQ, pickB, pickS, List.drop_succ_cons, List.drop_zero] at h ⊢
  replace h := Hold.mk @h
  generalize hT : (34, o34) :: (41, o41) :: (97, o97) :: tabs = tail at N
  refine execs_go ?_
  repeat ((fail_if_success (with_reducible show wpAny _ _ (eval (Expr.ListComp _ _ _ _) _) _ _ _)); first | (k_unfold; (try dsimp only)) | walk1 | (dsimp only; walk1))
  refine ListComp_T (h₀ := b) (L := L) (m := m) rfl (by rfl) (by decide) (by rfl) (by decide) (by rfl) (by rfl) (by decide) ?_
  repeat ((fail_if_success (with_reducible show wpAny _ _ (call (Value.type "zip") _) _ _ _)); first | (k_unfold; (try dsimp only)) | walk1 | (dsimp only; walk1))
  rename Fr _ _ _ _ => F9
  rename News _ _ _ _ => N9
  refine zip_pairs (xs := [.ref f1, .ref f2, .ref f3]) (ys := [.int 2 _, .int 2 _, .int 4 _]) (G := fun i v => ∃ t, v = .int (if i = 0 then val 4 ms1 else if i = 1 then val 4 ms2 else val 6 ms3) t) rfl F9 N9 (by k_mem) rfl rfl (by k_mem) rfl rfl (by size_fits) ?_ ?_
  · clear F9 N9
    intro g i x y C oC m2 own h1 tk1 E1 hi hxy hC ha hb F N
    obtain ⟨hx, hy⟩ := hxy
    obtain rfl | rfl | rfl : i = 0 ∨ i = 1 ∨ i = 2 := by simp at hi; omega
    · cases hx
      cases hy
      simp only [List.cons_append] at N
      k_steps
      · assumption
      · assumption
      · exact congrArg (fun z => Value.int z _) (worth_val (FL_len ▸ ln1))
    · cases hx
      cases hy
      simp only [List.cons_append] at N
      k_steps
      · assumption
      · assumption
      · exact congrArg (fun z => Value.int z _) (worth_val (FL_len ▸ ln2))
    · cases hx
      cases hy
      simp only [List.cons_append] at N
      k_steps
      · assumption
      · assumption
      · exact congrArg (fun z => Value.int z _) (worth_val (FL_len ▸ ln3))
  intro g D zs hD hl hG
  obtain ⟨z0, z1, z2, rfl⟩ := len3 hl
  obtain ⟨t0, rfl⟩ := hG 0 z0 rfl
  obtain ⟨t1, rfl⟩ := hG 1 z1 rfl
  obtain ⟨t2, rfl⟩ := hG 2 z2 rfl
  clear hG F9 N9 hl
  intro h5 tk5 F5 N5
  dsimp only
  rw [if_pos rfl, if_neg (by decide : ¬ (1 = 0)), if_pos rfl, if_neg (by decide : ¬ (2 = 0)), if_neg (by decide : ¬ (2 = 1))] at N5
  k_steps
  all_goals first | exact trivial | skip
  rename Fr _ _ _ _ => F9
  rename News _ _ _ _ => N9
  subst hT
  exact ⟨h.out _ _ _ _ _ _ _ _ _ K (fun q hq => hq) F9 (fun q hq => N9 q (by simp only [List.nil_append, List.mem_cons] at hq ⊢; simp only [hq, or_true]))⟩
theorem law_1 (hK : LawIs (hd.heap_39 w.params) qual body scope) {tail : List (Addr × Obj)} {o1 : Obj} {sl : Addr} {vs : List Value} {ns : List Int}
   (X : (hd.heap_39 w.params).In b) (T : Top p loose mean mg mb b) (F : Fr b L s.heap m) (N : News b L s.heap ((L + 1, o1) :: tail)) (d1 : o1.data = .cell (some (.ref sl)))
   (hsl : b.IsList sl vs.toArray) (hin : IntsAre vs ns) (hlen : ns.length ≤ 63)
   (h : ∀ h' tk' ce c1 c2 c3 t1 t2 t3, Fr b L h' (fun z => if z = Str.ofString "cells" then some (.ref ce) else m z) → News b L h' ((ce, listOf #[.int c1 t1, .int c2 t2, .int c3 t3] 3) :: (L + 1, o1) :: tail) → (∀ q ∈ tail, @Ne Nat q.1 ce) → wpAny (model prog w) (callerA.deeper e) (execs (body.drop 2) (envOfC qual scope L fa cd)) Q E { s with heap := h', toks := tk' }) :
   wpAny (model prog w) (callerA.deeper e) (execs (body.drop 1) (envOfC qual scope L fa cd)) Q E s := by
  obtain ⟨rfl, rfl, rfl⟩ := lawIs_eq hK
  dsimp only [lawQual, lawBody, lawScope, pickQ, pickB, pickS, List.drop_succ_cons, List.drop_zero] at h ⊢
  replace h := Hold.mk @h
  refine execs_go ?_
  refine Assign_ListComp_T (h₀ := b) (L := L) (m := m) rfl rfl (by with_unfolding_all rfl) (by rfl) (by decide) (by rfl) (by decide) (by rfl) (by rfl) (by decide) (by rfl) (by rfl) ?_
  repeat ((fail_if_success (with_reducible show wpAny _ _ (call (Value.type "enumerate") _) _ _ _)); first | (k_unfold; (try dsimp only)) | walk1 | (dsimp only; walk1))
  rename Fr _ _ _ _ => F9
  rename News _ _ _ _ => N9
  refine enum_pairs (vs := [.int 12 _, .int 7 _, .int 4 _]) (G := fun i v => ∃ c t, v = .int c t) rfl F9 N9 (by k_mem) rfl rfl (by size_fits) ?_ ?_
  · clear F9 N9
    intro g i x y C oC m2 own h1 tk1 E1 hi hxy hC ha hb F N
    obtain ⟨⟨t, rfl⟩, hy⟩ := hxy
    obtain rfl | rfl | rfl : i = 0 ∨ i = 1 ∨ i = 2 := by simp at hi; omega
    · cases hy
      simp only [List.cons_append] at N
      repeat ((fail_if_success (with_reducible show wpAny _ _ (call (Value.builtin "sum") _) _ _ _)); first | (k_unfold; (try dsimp only)) | walk1 | (dsimp only; walk1))
      rename News _ _ _ _ => N7
      rename Fr _ _ _ _ => F7
      refine sumK (vs := (slicePick vs.toArray (some ((0 : Nat) : Int)) none (some 3)).toList) rfl F7 N7 ?_ (hin.pick (some ((0 : Nat) : Int)) none (some 3)) ?_
      · rw [Array.toArray_toList]
        exact ⟨_, (N7 _ List.mem_cons_self).1, rfl, _, rfl⟩
      clear F7
      intro h8 tk8 t8 F8 N8
      dsimp only
      k_steps
      all_goals first | assumption | exact ⟨_, _, rfl⟩ | (rename News _ _ _ _ => N9; exact fun q hq => N9 q (List.mem_cons_of_mem _ hq))
    · cases hy
      simp only [List.cons_append] at N
      repeat ((fail_if_success (with_reducible show wpAny _ _ (call (Value.builtin "sum") _) _ _ _)); first | (k_unfold; (try dsimp only)) | walk1 | (dsimp only; walk1))
      rename News _ _ _ _ => N7
      rename Fr _ _ _ _ => F7
      refine sumK (vs := (slicePick vs.toArray (some ((1 : Nat) : Int)) none (some 3)).toList) rfl F7 N7 ?_ (hin.pick (some ((1 : Nat) : Int)) none (some 3)) ?_
      · rw [Array.toArray_toList]
        exact ⟨_, (N7 _ List.mem_cons_self).1, rfl, _, rfl⟩
      clear F7
      intro h8 tk8 t8 F8 N8
      dsimp only
      k_steps
      all_goals first | assumption | exact ⟨_, _, rfl⟩ | (rename News _ _ _ _ => N9; exact fun q hq => N9 q (List.mem_cons_of_mem _ hq))
    · cases hy
      simp only [List.cons_append] at N
      repeat ((fail_if_success (with_reducible show wpAny _ _ (call (Value.builtin "sum") _) _ _ _)); first | (k_unfold; (try dsimp only)) | walk1 | (dsimp only; walk1))
      rename News _ _ _ _ => N7
      rename Fr _ _ _ _ => F7
      refine sumK (vs := (slicePick vs.toArray (some ((2 : Nat) : Int)) none (some 3)).toList) rfl F7 N7 ?_ (hin.pick (some ((2 : Nat) : Int)) none (some 3)) ?_
      · rw [Array.toArray_toList]
        exact ⟨_, (N7 _ List.mem_cons_self).1, rfl, _, rfl⟩
      clear F7
      intro h8 tk8 t8 F8 N8
      dsimp only
      k_steps
      all_goals first | assumption | exact ⟨_, _, rfl⟩ | (rename News _ _ _ _ => N9; exact fun q hq => N9 q (List.mem_cons_of_mem _ hq))
  intro g D zs hD hl hG
  obtain ⟨z0, z1, z2, rfl⟩ := len3 hl
  obtain ⟨c0, t0, rfl⟩ := hG 0 z0 rfl
  obtain ⟨c1, t1, rfl⟩ := hG 1 z1 rfl
  obtain ⟨c2, t2, rfl⟩ := hG 2 z2 rfl
  clear hG F9 N9 hl
  intro h5 tk5 F5 N5
  exact ⟨rfl, ⟨h.out _ _ _ _ _ _ _ _ _ F5 (skip1 N5) (fun q hq => hD q (List.mem_cons_of_mem _ (List.mem_cons_of_mem _ hq)))⟩⟩
end
-- part A17
set_option maxRecDepth 100000
set_option linter.unusedVariables false
set_option maxHeartbeats 1000000

section
variable {prog : Program} {w : World} {s : Shared} {mg mb : Str → Option Value} {mean : ExcName → Option Value} {p : Program} {loose : List Str} {qual : Str} {body : List Stmt} {scope : Scope} {b : Heap} {L fa : Addr} {cd : Value} {m : Str → Option Value} {e : Env} {Q : Flow → Shared → Prop} {E : Value → Shared → Prop} {o34 o41 o97 : Obj} {tabs : List (Addr × Obj)}

theorem rot9 {h : Heap} {x y1 y2 y3 y4 y5 a b' c : Addr × Obj} {r : List (Addr × Obj)} (N : News b L h (x :: y1 :: y2 :: y3 :: y4 :: y5 :: a :: b' :: c :: r)) : News b L h ([] ++ a :: b' :: c :: x :: r) := fun q hq => N q (by
  simp only [List.nil_append, List.mem_cons] at hq ⊢
  (rcases hq with h | h | h | h | h) <;> simp only [h, true_or, or_true])
theorem law_19 (hK : LawIs (hd.heap_39 w.params) qual body scope) {o2 o3 : Obj} {la : Addr} {us : List Value} {n0 : Nat} {W x1 x3 l r : Int} {tw t1 t3 tl tr : Tok}
   (X : (hd.heap_39 w.params).In b) (T : Top p loose mean mg mb b) (C : Cds b) (K : Tabs b o34 o41 o97 tabs) (F : Fr b L s.heap m) (N : News b L s.heap ((L + 1 + 1, o2) :: (L + 1 + 1 + 1, o3) :: (la, listOf us.toArray n0) :: (34, o34) :: (41, o41) :: (97, o97) :: tabs)) (d2 : o2.data = .cell (some (.int W tw))) (d3 : o3.data = .cell (some (.ref la))) (hin : IntsAre us FL)
   (m1 : m (Str.ofString "left") = some (.int l tl)) (m2 : m (Str.ofString "right") = some (.int r tr)) (m3 : m (Str.ofString "one") = some (.int x1 t1)) (m4 : m (Str.ofString "three") = some (.int x3 t3)) (y1 : 0 ≤ l) (y2 : 0 ≤ r)
   (w1 : 1 ≤ W) (w2 : W < 2000) (z0 : @Ne Nat la 41) (z4 : @LT.lt Nat _ 97 L)
   (hmL : ∀ ms, Grd l (List.replicate (cnt l) 0) ms → ms.length = cnt l → (∀ x ∈ ms, Small x W.toNat) ∧ ms.length < 100 ∧ IntMulOk (evalDig W.toNat ms) x3)
   (hmR : ∀ ms, Grd r (List.replicate (cnt r) 0) ms → ms.length = cnt r → (∀ x ∈ ms, Small x W.toNat) ∧ ms.length < 100 ∧ IntMulOk x1 (evalDig W.toNat ms))
   (h : ∀ an msL msR t1 t2, Grd l (List.replicate (cnt l) 0) msL → msL.length = cnt l → Grd r (List.replicate (cnt r) 0) msR → msR.length = cnt r → GoOn prog w e qual body scope b L fa cd Q E 20 (fun y => if y = Str.ofString "anew" then some (.ref an) else m y) [] ((an, listOf #[.int (evalDig W.toNat msL * x3) t1, .int (x1 * evalDig W.toNat msR) t2] 0) :: tabs) s) :
   wpAny (model prog w) (callerA.deeper e) (execs (body.drop 19) (envOfC qual scope L fa cd)) Q E s := by
  obtain ⟨rfl, rfl, rfl⟩ := lawIs_eq hK
  unfold GoOn at h
  dsimp only [lawQual, lawBody, lawScope, pickQ, pickB, pickS, List.drop_succ_cons, List.drop_zero] at h ⊢
  replace h := Hold.mk @h
  replace hmL := Hold.mk @hmL
  replace hmR := Hold.mk @hmR
  refine execs_go ?_
  repeat ((fail_if_success (with_reducible show wpAny _ _ (call (Value.ref 46) _) _ _ _)); first | (k_unfold; (try dsimp only)) | walk1 | (dsimp only; walk1))
  rename Grd l _ _ => g1
  rename _ = cnt l => e1
  obtain ⟨a1, a2, a3⟩ := hmL.out _ g1 e1
  clear hmL
  rename ∀ q ∈ (_ : List (Addr × Obj)), @Ne Nat q.1 _ => nr
  have z9 := nr (41, o41) (by k_mem)
  replace z9 := Ne.symm z9
  dsimp only at z9
  repeat ((fail_if_success (with_reducible show wpAny _ _ (call (Value.ref 88) _) _ _ _)); first | (k_unfold; (try dsimp only)) | walk1 | (dsimp only; walk1))
  clear nr
  walk1
  repeat ((fail_if_success (with_reducible show wpAny _ _ (call (Value.ref 46) _) _ _ _)); first | (k_unfold; (try dsimp only)) | walk1 | (dsimp only; walk1))
  rename Grd r _ _ => g2
  rename _ = cnt r => e2
  obtain ⟨b1, b2, b3⟩ := hmR.out _ g2 e2
  clear hmR
  rename ∀ q ∈ (_ : List (Addr × Obj)), @Ne Nat q.1 _ => nr
  have z8 := nr (41, _) (by k_mem)
  replace z8 := Ne.symm z8
  dsimp only at z8
  k_steps
  all_goals first | exact trivial | skip
  rename Tabs _ _ _ _ _ => K9
  rename Fr _ _ _ _ => F9
  rename News _ _ _ _ => N9
  rename _ ∧ _ ∧ _ ∧ _ ∧ _ ∧ _ ∧ _ ∧ _ ∧ _ => l9
  exact ⟨h.out _ _ _ _ _ g1 e1 g2 e2 _ _ _ _ _ _ (K9.add (Nat.ne_of_gt l9.2.2.2.2.2.1) (Nat.ne_of_gt l9.2.2.2.2.2.2.1) (Nat.ne_of_gt l9.2.2.2.2.2.2.2.1)) (sub_cons (fun q hq => by repeat (first | exact hq | refine ‹∀ q ∈ (_ : List (Addr × Obj)), q ∈ (_ : List (Addr × Obj))› q ?_))) F9 (rot9 N9)⟩

end
-- part A18
set_option maxRecDepth 100000
set_option linter.unusedVariables false
set_option maxHeartbeats 1000000

section
variable {prog : Program} {w : World} {s : Shared} {mg mb : Str → Option Value} {mean : ExcName → Option Value} {p : Program} {loose : List Str} {qual : Str} {body : List Stmt} {scope : Scope} {b : Heap} {L fa : Addr} {cd : Value} {m : Str → Option Value} {e : Env} {Q : Flow → Shared → Prop} {E : Value → Shared → Prop} {o34 o41 o97 : Obj} {tabs : List (Addr × Obj)}

theorem law_20 (hK : LawIs (hd.heap_39 w.params) qual body scope) {o2 o3 : Obj} {la an : Addr} {us : List Value} {n0 k0 : Nat} {W p1 p2 wh : Int} {tw t1 t2 th : Tok}
   (X : (hd.heap_39 w.params).In b) (T : Top p loose mean mg mb b) (C : Cds b) (K : Tabs b o34 o41 o97 tabs) (F : Fr b L s.heap m) (N : News b L s.heap ((an, listOf #[.int p1 t1, .int p2 t2] k0) :: (L + 1 + 1, o2) :: (L + 1 + 1 + 1, o3) :: (la, listOf us.toArray n0) :: (34, o34) :: (41, o41) :: (97, o97) :: tabs)) (d2 : o2.data = .cell (some (.int W tw))) (d3 : o3.data = .cell (some (.ref la))) (hin : IntsAre us FL)
   (m1 : m (Str.ofString "anew") = some (.ref an)) (m2 : m (Str.ofString "whole") = some (.int wh th)) (y1 : 0 ≤ p1) (y2 : 0 ≤ p2)
   (w1 : 1 ≤ W) (w2 : W < 2000) (nd1 : ndig p1 W.toNat < 100) (nd2 : ndig p2 W.toNat < 100) (ln1 : (digitsOf p1 W.toNat).length + 2 ≤ FL.length) (ln2 : (digitsOf p2 W.toNat).length + 2 ≤ FL.length)
   (e1 : wsum FL (digitsOf p1 W.toNat) 2 (digitsOf p1 W.toNat).length = wh) (e2 : wsum FL (digitsOf p2 W.toNat) 2 (digitsOf p2 W.toNat).length = wh)
   (z0 : @Ne Nat an 34) (z1 : @Ne Nat la 34) (z4 : @LT.lt Nat _ 97 L)
   (h : ∀ h' tk' o34 o41 o97 us, Tabs b o34 o41 o97 us → Fr b L h' m → News b L h' ((34, o34) :: (41, o41) :: (97, o97) :: us) → Q (.ret (.bool true)) { s with heap := h', toks := tk' }) :
   wpAny (model prog w) (callerA.deeper e) (execs (body.drop 20) (envOfC qual scope L fa cd)) Q E s := by
  obtain ⟨rfl, rfl, rfl⟩ := lawIs_eq hK
  dsimp only [lawQual, lawBody, lawScope, pickQ, pickB, pickS, List.drop_succ_cons, List.drop_zero] at h ⊢
  replace h := Hold.mk @h
  k_steps
  rename Tabs _ _ _ _ _ => K9
  rename Fr _ _ _ _ => F9
  rename News _ _ _ _ => N9
  rw [e1, e2, decide_eq_true rfl]
  exact h.out _ _ _ _ _ _ K9 F9 (fun q hq => N9 q (by simp only [List.mem_cons] at hq ⊢; (rcases hq with h | h | h | h) <;> simp only [h, true_or, or_true]))

end
-- part A19
set_option maxRecDepth 100000
set_option linter.unusedVariables false
set_option maxHeartbeats 1000000

section
variable {prog : Program} {w : World} {s : Shared} {mg mb : Str → Option Value} {mean : ExcName → Option Value} {p : Program} {loose : List Str} {qual : Str} {body lb : List Stmt} {scope : Scope} {b : Heap} {L fa : Addr} {cd : Value} {m : Str → Option Value} {e : Env} {Q : Flow → Shared → Prop} {E : Value → Shared → Prop} {o34 o41 o97 : Obj} {tabs : List (Addr × Obj)}

theorem item_list {prog : Program} {w : World} {A : Around} {E : Value → Shared → Prop} {s : Shared} {value slice : PySem.Expr} {l : Addr} {items : Array Value} {k : Int} {t : Tok} {x : Value} {Q : Value → Shared → Prop} (hl : s.heap.IsList l items)
    (h0 : 0 ≤ k) (hfit : k < 2 ^ 63) (hx : items[k.toNat]? = some x) (h : Q x s)
    (hs : subscripted slice false (.ref l) (.int k t) = operate [.ref l, .int k t] (getItem (.ref l) (.int k t)) := by with_unfolding_all rfl) :
    wpAny (model prog w) A (subscriptTail value slice (.ref l) (.int k t)) Q E s :=
  tail_any hl.typeIs slot_list_getitem.lookup (wpAny_getItem_list hl h0 hfit hx h) hs
/-- lb is the loop's body -/
def LoopIs (body lb : List Stmt) : Prop := ∃ tgt it oe pos, body[7]? = some (.For tgt it lb oe pos)
def pickL {body : List Stmt} {tgt it : PySem.Expr} {lb oe : List Stmt} {pos : Pos} (_ : body[7]? = some (.For tgt it lb oe pos)) : List Stmt := lb
noncomputable def loopBody (w : World) : List Stmt := by exact pickL (body := lawBody w) (by with_unfolding_all rfl)
theorem loopIs_eq {w : World} {lb : List Stmt} (hB : LoopIs (lawBody w) lb) : lb = loopBody w := by
  obtain ⟨tgt, it, oe, pos, e⟩ := hB
  simp only [lawBody, pickB, List.getElem?_cons_succ, List.getElem?_cons_zero] at e
  cases e
  rfl

/-- the loop's turn goes on at its k-th statement, the tables as they are -/
abbrev GoL (prog : Program) (w : World) (e : Env) (qual : Str) (lb : List Stmt) (scope : Scope) (b : Heap) (L fa : Addr) (cd : Value) (Q : Flow → Shared → Prop) (E : Value → Shared → Prop) (k : Nat) (m : Str → Option Value) (news : List (Addr × Obj)) (s : Shared) : Prop :=
  ∀ h' tk', Fr b L h' m → News b L h' news → wpAny (model prog w) (callerA.deeper e) (execs (lb.drop k) (envOfC qual scope L fa cd)) Q E { s with heap := h', toks := tk' }

theorem turn_0 (hK : LawIs (hd.heap_39 w.params) qual body scope) (hB : LoopIs body lb) {ro r I on : Addr} {oi oj oo : Obj} {rs vs : List Value} {k0 k1 i : Nat} {ti : Tok} {ms : List Int}
   (X : (hd.heap_39 w.params).In b) (T : Top p loose mean mg mb b) (C : Cds b) (K : Tabs b o34 o41 o97 tabs) (F : Fr b L s.heap m) (N : News b L s.heap ((I + 1, oi) :: (I, oj) :: (on, oo) :: (ro, listOf rs.toArray k0) :: (r, listOf vs.toArray k1) :: (34, o34) :: (41, o41) :: (97, o97) :: tabs))
   (m1 : m (Str.ofString "rows") = some (.ref ro)) (m2 : m (Str.ofString "spot") = some (.int (i : Nat) ti)) (hr : rs.toArray[i]? = some (.ref r)) (hi64 : ((i : Nat) : Int) < 2 ^ 63)
   (hin : IntsAre vs ms) (hs : ∀ x ∈ ms, Small x 1) (hl : ms.length < 100) (hd : ndig (evalDig 1 ms) 1 < 100) (ha : digitsOf (evalDig 1 ms) 1 = ms)
   (z1 : @LT.lt Nat _ 97 I) (z2 : @Ne Nat ro 34) (z3 : @Ne Nat ro 41) (z4 : @Ne Nat r 34) (z5 : @Ne Nat r 41) (z7 : @Ne Nat on 34) (z8 : @Ne Nat on 41) (z6 : @LT.lt Nat _ 97 L)
   (h : ∀ o34 o41 o97 us, Tabs b o34 o41 o97 us → (∀ q ∈ tabs, q ∈ us) → (∀ q ∈ us, q ∈ tabs ∨ (@Ne Nat q.1 I ∧ @Ne Nat q.1 (I + 1) ∧ @Ne Nat q.1 on)) → GoL prog w e qual lb scope b L fa cd Q E 1 m ((I + 1, oi) :: (I, oj) :: (on, oo) :: (ro, listOf rs.toArray k0) :: (r, listOf vs.toArray k1) :: (34, o34) :: (41, o41) :: (97, o97) :: us) s) :
   wpAny (model prog w) (callerA.deeper e) (execs (lb.drop 0) (envOfC qual scope L fa cd)) Q E s := by
  obtain ⟨rfl, rfl, rfl⟩ := lawIs_eq hK
  obtain rfl := loopIs_eq hB
  unfold GoL at h
  dsimp only [lawQual, lawScope, pickQ, pickS, loopBody, pickL, List.drop_succ_cons, List.drop_zero] at h ⊢
  replace h := Hold.mk @h
  have hd' : ndig (evalDig (Int.toNat 1) ms) (Int.toNat 1) < 100 := hd
  have h0' : 0 ≤ evalDig (Int.toNat 1) ms := (evalDig_small 1 ms hs).1
  clear hd
  refine execs_go ?_
  repeat ((fail_if_success (with_reducible show wpAny _ _ (subscriptTail _ _ (Value.ref ro) _) _ _ _)); first | (k_unfold; (try dsimp only)) | walk1 | (dsimp only; walk1))
  refine item_list ⟨_, (N (ro, listOf rs.toArray k0) (by k_mem)).1, rfl, _, rfl⟩ (Int.natCast_nonneg _) hi64 hr ?_
  repeat ((fail_if_success (with_reducible show wpAny _ _ (subscriptTail _ _ (Value.ref ro) _) _ _ _)); first | (k_unfold; (try dsimp only)) | walk1 | (dsimp only; walk1))
  rename News _ _ _ _ => N5
  refine item_list ⟨_, (N5 (ro, listOf rs.toArray k0) (by k_mem)).1, rfl, _, rfl⟩ (Int.natCast_nonneg _) hi64 hr ?_
  k_steps
  · rename Tabs _ _ _ _ _ => K9
    rename Fr _ _ _ _ => F9
    rename ∀ q ∈ (_ : List (Addr × Obj)), q ∈ (_ : List (Addr × Obj)) ∨ _ => nu2
    replace nu2 := Hold.mk nu2
    rename ∀ q ∈ (_ : List (Addr × Obj)), q ∈ (_ : List (Addr × Obj)) ∨ _ => nu1
    rename ∀ q ∈ (_ : List (Addr × Obj)), q ∈ (_ : List (Addr × Obj)) => sb2
    replace sb2 := Hold.mk sb2
    rename ∀ q ∈ (_ : List (Addr × Obj)), q ∈ (_ : List (Addr × Obj)) => sb1
    exact ⟨h.out _ _ _ _ K9 (fun q hq => sb2.out q (sb1 q hq)) (fun q hq => by
      rcases nu2.out q hq with h2 | h2
      · rcases nu1 q h2 with h1 | h1
        · exact .inl h1
        · exact .inr ⟨Ne.symm (h1 (I, oj) (by k_mem)), Ne.symm (h1 (I + 1, oi) (by k_mem)), Ne.symm (h1 (on, oo) (by k_mem))⟩
      · exact .inr ⟨Ne.symm (h2 (I, oj) (by k_mem)), Ne.symm (h2 (I + 1, oi) (by k_mem)), Ne.symm (h2 (on, oo) (by k_mem))⟩) _ _ F9 (fun q hq => N5 q (List.mem_cons_of_mem _ hq))⟩
  all_goals exact absurd ha ‹¬ (_ = _)›

end
-- part A20
set_option maxRecDepth 100000
set_option linter.unusedVariables false
set_option maxHeartbeats 1000000

section
variable {prog : Program} {w : World} {s : Shared} {mg mb : Str → Option Value} {mean : ExcName → Option Value} {p : Program} {loose : List Str} {qual : Str} {body lb : List Stmt} {scope : Scope} {b : Heap} {L fa : Addr} {cd : Value} {m : Str → Option Value} {e : Env} {Q : Flow → Shared → Prop} {E : Value → Shared → Prop} {o34 o41 o97 : Obj} {tabs tail : List (Addr × Obj)}

theorem two_sorted {vs : List Value} {ns : List Int} {a c : Nat} (hi : IntsAre vs ns) (p : ns.Perm [(a : Int), (c : Int)]) (o : ns.Pairwise (· ≤ ·)) :
    ∃ (lo hi : Nat) (t1 t2 : Tok), vs = [.int (lo : Nat) t1, .int (hi : Nat) t2] ∧ lo ≤ hi ∧ (lo = a ∨ lo = c) ∧ (hi = a ∨ hi = c) := by
  obtain ⟨x, y, rfl⟩ := len2 p.length_eq
  obtain ⟨t1, t2, rfl⟩ := ints2 hi
  have hx : x = a ∨ x = c := by have := p.mem_iff.mp (List.mem_cons_self (a := x) (l := [y])); simpa using this
  have hy : y = a ∨ y = c := by have := p.mem_iff.mp (List.mem_cons_of_mem x (List.mem_singleton.mpr rfl : y ∈ [y])); simpa using this
  have hxy : x ≤ y := (List.pairwise_cons.mp o).1 y (List.mem_singleton.mpr rfl)
  clear p o hi
  have nn : ∀ {v : Int} {a c : Nat}, v = a ∨ v = c → ∃ n : Nat, v = n ∧ (n = a ∨ n = c) := fun {v a c} h => by
    rcases h with h | h
    · exact ⟨a, h, .inl rfl⟩
    · exact ⟨c, h, .inr rfl⟩
  obtain ⟨lo, q1, b1⟩ := nn hx
  obtain ⟨hi, q2, b2⟩ := nn hy
  subst q1 q2
  exact ⟨lo, hi, t1, t2, rfl, Int.ofNat_le.mp hxy, b1, b2⟩
theorem turn_1_0 (hK : LawIs (hd.heap_39 w.params) qual body scope) (hB : LoopIs body lb) {ro r1 r2 r3 : Addr} {v1 v2 v3 : List Value} {k0 k1 k2 k3 : Nat} {ti : Tok} {ms1 ms2 ms3 : List Int} {B : Nat}
   (X : (hd.heap_39 w.params).In b) (T : Top p loose mean mg mb b) (F : Fr b L s.heap m) (N : News b L s.heap ((ro, listOf #[.ref r1, .ref r2, .ref r3] k0) :: (r1, listOf v1.toArray k1) :: (r2, listOf v2.toArray k2) :: (r3, listOf v3.toArray k3) :: tail))
   (m1 : m (Str.ofString "rows") = some (.ref ro)) (m2 : m (Str.ofString "spot") = some (.int 0 ti))
   (i1 : IntsAre v1 ms1) (i2 : IntsAre v2 ms2) (i3 : IntsAre v3 ms3) (l1 : ms1.length ≤ B) (l2 : ms2.length ≤ B) (l3 : ms3.length ≤ B) (h48 : B ≤ 48)
   (h : ∀ (lo hi : Nat) t1 t2, lo ≤ hi → hi ≤ B → GoL prog w e qual lb scope b L fa cd Q E 2 (fun y => if y = Str.ofString "high" then some (.int (hi : Nat) t2) else if y = Str.ofString "low" then some (.int (lo : Nat) t1) else m y) ((ro, listOf #[.ref r1, .ref r2, .ref r3] k0) :: (r1, listOf v1.toArray k1) :: (r2, listOf v2.toArray k2) :: (r3, listOf v3.toArray k3) :: tail) s) :
   wpAny (model prog w) (callerA.deeper e) (execs (lb.drop 1) (envOfC qual scope L fa cd)) Q E s := by
  obtain ⟨rfl, rfl, rfl⟩ := lawIs_eq hK
  obtain rfl := loopIs_eq hB
  unfold GoL at h
  dsimp only [lawQual, lawScope, pickQ, pickS, loopBody, pickL, List.drop_succ_cons, List.drop_zero] at h ⊢
  replace h := Hold.mk @h
  refine execs_go ?_
  repeat ((fail_if_success (with_reducible show wpAny _ _ (call (Value.builtin "sorted") _) _ _ _)); first | (k_unfold; (try dsimp only)) | walk1 | (dsimp only; walk1))
  rename Fr _ _ _ _ => F8
  rename News _ _ _ _ => N8
  refine kso_sorted (vs := [.int _ _, .int _ _]) (ns := [_, _]) F8 N8 ⟨_, (N8 _ List.mem_cons_self).1, rfl, _, rfl⟩ (.cons _ _ (.cons _ _ .nil)) (by simp) ?_
  intro D9 vs9 ns9 c9 h9 F9 N9 a1 a2 a3 a4 a5 a6
  obtain ⟨lo, hi, t1, t2, rfl, b1, b2, b3⟩ := two_sorted a2 a4 a5
  clear a2 a3 a4 a5 a6
  dsimp only
  k_steps
  all_goals first | exact trivial | skip
  rename Fr _ _ _ _ => F7
  rename News _ _ _ _ => N7
  exact ⟨h.out lo hi t1 t2 b1 (by clear h F7 N7; omega) _ _ F7 (fun q hq => N7 q (by (iterate 5 (refine List.mem_cons_of_mem _ ?_)); exact hq))⟩
theorem turn_1_1 (hK : LawIs (hd.heap_39 w.params) qual body scope) (hB : LoopIs body lb) {ro r1 r2 r3 : Addr} {v1 v2 v3 : List Value} {k0 k1 k2 k3 : Nat} {ti : Tok} {ms1 ms2 ms3 : List Int} {B : Nat}
   (X : (hd.heap_39 w.params).In b) (T : Top p loose mean mg mb b) (F : Fr b L s.heap m) (N : News b L s.heap ((ro, listOf #[.ref r1, .ref r2, .ref r3] k0) :: (r1, listOf v1.toArray k1) :: (r2, listOf v2.toArray k2) :: (r3, listOf v3.toArray k3) :: tail))
   (m1 : m (Str.ofString "rows") = some (.ref ro)) (m2 : m (Str.ofString "spot") = some (.int 1 ti))
   (i1 : IntsAre v1 ms1) (i2 : IntsAre v2 ms2) (i3 : IntsAre v3 ms3) (l1 : ms1.length ≤ B) (l2 : ms2.length ≤ B) (l3 : ms3.length ≤ B) (h48 : B ≤ 48)
   (h : ∀ (lo hi : Nat) t1 t2, lo ≤ hi → hi ≤ B → GoL prog w e qual lb scope b L fa cd Q E 2 (fun y => if y = Str.ofString "high" then some (.int (hi : Nat) t2) else if y = Str.ofString "low" then some (.int (lo : Nat) t1) else m y) ((ro, listOf #[.ref r1, .ref r2, .ref r3] k0) :: (r1, listOf v1.toArray k1) :: (r2, listOf v2.toArray k2) :: (r3, listOf v3.toArray k3) :: tail) s) :
   wpAny (model prog w) (callerA.deeper e) (execs (lb.drop 1) (envOfC qual scope L fa cd)) Q E s := by
  obtain ⟨rfl, rfl, rfl⟩ := lawIs_eq hK
  obtain rfl := loopIs_eq hB
  unfold GoL at h
  dsimp only [lawQual, lawScope, pickQ, pickS, loopBody, pickL, List.drop_succ_cons, List.drop_zero] at h ⊢
  replace h := Hold.mk @h
  refine execs_go ?_
  repeat ((fail_if_success (with_reducible show wpAny _ _ (call (Value.builtin "sorted") _) _ _ _)); first | (k_unfold; (try dsimp only)) | walk1 | (dsimp only; walk1))
  rename Fr _ _ _ _ => F8
  rename News _ _ _ _ => N8
  refine kso_sorted (vs := [.int _ _, .int _ _]) (ns := [_, _]) F8 N8 ⟨_, (N8 _ List.mem_cons_self).1, rfl, _, rfl⟩ (.cons _ _ (.cons _ _ .nil)) (by simp) ?_
  intro D9 vs9 ns9 c9 h9 F9 N9 a1 a2 a3 a4 a5 a6
  obtain ⟨lo, hi, t1, t2, rfl, b1, b2, b3⟩ := two_sorted a2 a4 a5
  clear a2 a3 a4 a5 a6
  dsimp only
  k_steps
  all_goals first | exact trivial | skip
  rename Fr _ _ _ _ => F7
  rename News _ _ _ _ => N7
  exact ⟨h.out lo hi t1 t2 b1 (by clear h F7 N7; omega) _ _ F7 (fun q hq => N7 q (by (iterate 5 (refine List.mem_cons_of_mem _ ?_)); exact hq))⟩
theorem turn_1_2 (hK : LawIs (hd.heap_39 w.params) qual body scope) (hB : LoopIs body lb) {ro r1 r2 r3 : Addr} {v1 v2 v3 : List Value} {k0 k1 k2 k3 : Nat} {ti : Tok} {ms1 ms2 ms3 : List Int} {B : Nat}
   (X : (hd.heap_39 w.params).In b) (T : Top p loose mean mg mb b) (F : Fr b L s.heap m) (N : News b L s.heap ((ro, listOf #[.ref r1, .ref r2, .ref r3] k0) :: (r1, listOf v1.toArray k1) :: (r2, listOf v2.toArray k2) :: (r3, listOf v3.toArray k3) :: tail))
   (m1 : m (Str.ofString "rows") = some (.ref ro)) (m2 : m (Str.ofString "spot") = some (.int 2 ti))
   (i1 : IntsAre v1 ms1) (i2 : IntsAre v2 ms2) (i3 : IntsAre v3 ms3) (l1 : ms1.length ≤ B) (l2 : ms2.length ≤ B) (l3 : ms3.length ≤ B) (h48 : B ≤ 48)
   (h : ∀ (lo hi : Nat) t1 t2, lo ≤ hi → hi ≤ B → GoL prog w e qual lb scope b L fa cd Q E 2 (fun y => if y = Str.ofString "high" then some (.int (hi : Nat) t2) else if y = Str.ofString "low" then some (.int (lo : Nat) t1) else m y) ((ro, listOf #[.ref r1, .ref r2, .ref r3] k0) :: (r1, listOf v1.toArray k1) :: (r2, listOf v2.toArray k2) :: (r3, listOf v3.toArray k3) :: tail) s) :
   wpAny (model prog w) (callerA.deeper e) (execs (lb.drop 1) (envOfC qual scope L fa cd)) Q E s := by
  obtain ⟨rfl, rfl, rfl⟩ := lawIs_eq hK
  obtain rfl := loopIs_eq hB
  unfold GoL at h
  dsimp only [lawQual, lawScope, pickQ, pickS, loopBody, pickL, List.drop_succ_cons, List.drop_zero] at h ⊢
  replace h := Hold.mk @h
  refine execs_go ?_
  repeat ((fail_if_success (with_reducible show wpAny _ _ (call (Value.builtin "sorted") _) _ _ _)); first | (k_unfold; (try dsimp only)) | walk1 | (dsimp only; walk1))
  rename Fr _ _ _ _ => F8
  rename News _ _ _ _ => N8
  refine kso_sorted (vs := [.int _ _, .int _ _]) (ns := [_, _]) F8 N8 ⟨_, (N8 _ List.mem_cons_self).1, rfl, _, rfl⟩ (.cons _ _ (.cons _ _ .nil)) (by simp) ?_
  intro D9 vs9 ns9 c9 h9 F9 N9 a1 a2 a3 a4 a5 a6
  obtain ⟨lo, hi, t1, t2, rfl, b1, b2, b3⟩ := two_sorted a2 a4 a5
  clear a2 a3 a4 a5 a6
  dsimp only
  k_steps
  all_goals first | exact trivial | skip
  rename Fr _ _ _ _ => F7
  rename News _ _ _ _ => N7
  exact ⟨h.out lo hi t1 t2 b1 (by clear h F7 N7; omega) _ _ F7 (fun q hq => N7 q (by (iterate 5 (refine List.mem_cons_of_mem _ ?_)); exact hq))⟩

end
-- part A21
set_option maxRecDepth 100000
set_option linter.unusedVariables false
set_option maxHeartbeats 1000000

section
variable {prog : Program} {w : World} {s : Shared} {mg mb : Str → Option Value} {mean : ExcName → Option Value} {p : Program} {loose : List Str} {qual : Str} {body lb : List Stmt} {scope : Scope} {b : Heap} {L fa : Addr} {cd : Value} {m : Str → Option Value} {e : Env} {Q : Flow → Shared → Prop} {E : Value → Shared → Prop} {o34 o41 o97 : Obj} {tabs tail : List (Addr × Obj)}

/-- c between lo and hi -/
def mid (lo c hi : Nat) : Nat := max lo (min c hi)
theorem mid_in {lo c hi : Nat} (h : lo ≤ hi) : lo ≤ mid lo c hi ∧ mid lo c hi ≤ hi := by unfold mid; omega
theorem mid_low {lo c hi i : Nat} (h : i < mid lo c hi) (h2 : lo ≤ i) : i < c := by unfold mid at h; omega
theorem mid_high {lo c hi i : Nat} (h : mid lo c hi ≤ i) (h2 : i < hi) : c ≤ i := by unfold mid at h; omega
theorem take_get {nn i : Nat} {y : Int} (e : (FL.take nn)[i]? = some y) : FL[i]? = some y := by
  rw [List.getElem?_take] at e
  split at e
  · exact e
  · cases e
section
variable {A : Around} {news : List (Addr × Obj)} {Q E : Value → Shared → Prop}
theorem bisR_F {l : Addr} {us : List Value} {k lo hi nn : Nat} {args : List Value} {x : Int} {tx tl : Tok} {hv : Value} (F : Fr b L s.heap m) (N : News b L s.heap news) (X : (hd.heap_39 w.params).In b) (T : Top p loose mean mg mb b) (hdp : A.depth < 900)
   (hm : (l, listOf us.toArray k) ∈ news) (hin : IntsAre us (FL.take nn)) (hvh : (hv = .none ∧ hi = nn) ∨ ∃ t, hv = .int (hi : Nat) t) (hlen : hi ≤ nn) (hlh : lo ≤ hi) (h48 : nn ≤ 48)
   (hb : (hd.heap_39 w.params).In s.heap → ∀ oc od fd osl, (hd.heap_39 w.params).lookup 23 = some ⟨oc, od, .func fd, osl⟩ → BindsTo s fd ⟨args, []⟩ [("a", .ref l), ("x", .int x tx), ("lo", .int (lo : Nat) tl), ("hi", hv), ("key", .none)])
   (h : ∀ t h' tk', Fr b L h' m → News b L h' news → Q (.int (mid lo (cnt x) hi : Nat) t) { s with heap := h', toks := tk' }) :
   wpAny (model prog w) A (call (.ref 23) args) Q E s := by
  have z := mid_in (c := cnt x) hlh
  have hln : (FL.take nn).length = nn := by rw [List.length_take, FL_len]; omega
  refine bisR_list2 (x := x) (tx := tx) (tl := tl) (lo := (lo : Nat)) (hi := (hi : Nat)) (hv := hv) (q := (mid lo (cnt x) hi : Nat)) (X.keeps F.keep) (T.keeps F.keep) hdp (hb (X.keeps F.keep)) ⟨_, (N _ hm).1, rfl, _, rfl⟩ hin (Int.natCast_nonneg _) ?_ (by rw [hln]; omega) (by rw [hln]; omega) (by omega) ?_ ?_ fun t h' tk' st => h t h' tk' (F.keeps st) (N.grown st)
  · rw [hln]
    rcases hvh with ⟨h1, h2⟩ | h1
    · exact .inl ⟨h1, by omega⟩
    · exact .inr h1
  · intro i h1 h2 y e
    exact cnt_low (mid_low (lo := lo) (c := cnt x) (hi := hi) (i := i) (by omega) (by omega)) (take_get e)
  · intro i h1 h2 y e
    exact cnt_high (mid_high (lo := lo) (c := cnt x) (i := i) (hi := hi) (by omega) (by omega)) (take_get e)
theorem bisL_F {l : Addr} {us : List Value} {k lo hi nn : Nat} {args : List Value} {x : Int} {tx tl : Tok} {hv : Value} (F : Fr b L s.heap m) (N : News b L s.heap news) (X : (hd.heap_39 w.params).In b) (T : Top p loose mean mg mb b) (hdp : A.depth < 900)
   (hm : (l, listOf us.toArray k) ∈ news) (hin : IntsAre us (FL.take nn)) (hvh : (hv = .none ∧ hi = nn) ∨ ∃ t, hv = .int (hi : Nat) t) (hlen : hi ≤ nn) (hlh : lo ≤ hi) (h48 : nn ≤ 48)
   (hb : (hd.heap_39 w.params).In s.heap → ∀ oc od fd osl, (hd.heap_39 w.params).lookup 32 = some ⟨oc, od, .func fd, osl⟩ → BindsTo s fd ⟨args, []⟩ [("a", .ref l), ("x", .int (x + 1) tx), ("lo", .int (lo : Nat) tl), ("hi", hv), ("key", .none)])
   (h : ∀ t h' tk', Fr b L h' m → News b L h' news → Q (.int (mid lo (cnt x) hi : Nat) t) { s with heap := h', toks := tk' }) :
   wpAny (model prog w) A (call (.ref 32) args) Q E s := by
  have z := mid_in (c := cnt x) hlh
  have hln : (FL.take nn).length = nn := by rw [List.length_take, FL_len]; omega
  refine bisL_list (x := x + 1) (tx := tx) (tl := tl) (lo := (lo : Nat)) (hi := (hi : Nat)) (hv := hv) (q := (mid lo (cnt x) hi : Nat)) (X.keeps F.keep) (T.keeps F.keep) hdp (hb (X.keeps F.keep)) ⟨_, (N _ hm).1, rfl, _, rfl⟩ hin (Int.natCast_nonneg _) ?_ (by rw [hln]; omega) (by rw [hln]; omega) (by omega) ?_ ?_ fun t h' tk' st => h t h' tk' (F.keeps st) (N.grown st)
  · rw [hln]
    rcases hvh with ⟨h1, h2⟩ | h1
    · exact .inl ⟨h1, by omega⟩
    · exact .inr h1
  · intro i h1 h2 y e
    have := cnt_low (mid_low (lo := lo) (c := cnt x) (hi := hi) (i := i) (by omega) (by omega)) (take_get e)
    omega
  · intro i h1 h2 y e
    have := cnt_high (mid_high (lo := lo) (c := cnt x) (i := i) (hi := hi) (by omega) (by omega)) (take_get e)
    omega
end
theorem FL_take : FL.take 48 = FL := by rw [← FL_len, List.take_length]
theorem turn_2 (hK : LawIs (hd.heap_39 w.params) qual body scope) (hB : LoopIs body lb) {o3 : Obj} {la : Addr} {us : List Value} {n0 lo hi : Nat} {n : Int} {t0 t1 t2 : Tok}
   (X : (hd.heap_39 w.params).In b) (T : Top p loose mean mg mb b) (F : Fr b L s.heap m) (N : News b L s.heap ((L + 1 + 1 + 1, o3) :: (la, listOf us.toArray n0) :: tail)) (d3 : o3.data = .cell (some (.ref la))) (hin : IntsAre us FL)
   (m1 : m (Str.ofString "number") = some (.int n t0)) (m2 : m (Str.ofString "low") = some (.int (lo : Nat) t1)) (m3 : m (Str.ofString "high") = some (.int (hi : Nat) t2)) (hlh : lo ≤ hi) (h48 : hi ≤ 48)
   (h : ∀ fo t3 t4 k, (∀ q ∈ tail, @Ne Nat q.1 fo) → GoL prog w e qual lb scope b L fa cd Q E 3 (fun y => if y = Str.ofString "found" then some (.ref fo) else m y) ((fo, listOf #[.int (mid lo (cnt n) hi : Nat) t3, .int (mid lo (cnt n) hi : Nat) t4] k) :: (L + 1 + 1 + 1, o3) :: (la, listOf us.toArray n0) :: tail) s) :
   wpAny (model prog w) (callerA.deeper e) (execs (lb.drop 2) (envOfC qual scope L fa cd)) Q E s := by
  obtain ⟨rfl, rfl, rfl⟩ := lawIs_eq hK
  obtain rfl := loopIs_eq hB
  unfold GoL at h
  dsimp only [lawQual, lawScope, pickQ, pickS, loopBody, pickL, List.drop_succ_cons, List.drop_zero] at h ⊢
  replace h := Hold.mk @h
  refine execs_go ?_
  repeat ((fail_if_success (with_reducible show wpAny _ _ (call (Value.ref 23) _) _ _ _)); first | (k_unfold; (try dsimp only)) | walk1 | (dsimp only; walk1))
  rename Fr _ _ _ _ => F8
  rename News _ _ _ _ => N8
  refine bisR_F (us := us) (nn := 48) (x := n) (tx := t0) (tl := t1) (lo := lo) (hi := hi) (hv := .int (hi : Nat) t2) F8 N8 X T (Nat.le_of_ble_eq_true rfl) (by k_mem) (FL_take.symm ▸ hin) (.inr ⟨_, rfl⟩) h48 hlh (Nat.le_refl _) ?_ ?_
  · intro X' oc od fd osl e
    cases e
    exact kp_binds X' (fun S => rfl)
  clear F8 N8
  intro t9 h9 tk9 F9 N9
  try dsimp only
  repeat ((fail_if_success (with_reducible show wpAny _ _ (call (Value.ref 23) _) _ _ _)); first | (k_unfold; (try dsimp only)) | walk1 | (dsimp only; walk1))
  rename Fr _ _ _ _ => F8
  rename News _ _ _ _ => N8
  rename IntsAre _ (List.take (Int.toNat _) FL) => i8
  rw [Int.toNat_natCast] at i8
  refine bisR_F (nn := hi) (x := n) (tx := t0) (tl := t1) (lo := lo) (hi := hi) (hv := .none) F8 N8 X T (Nat.le_of_ble_eq_true rfl) List.mem_cons_self i8 (.inl ⟨rfl, rfl⟩) (Nat.le_refl _) hlh h48 ?_ ?_
  · intro X' oc od fd osl e
    cases e
    exact kp_binds X' (fun S => rfl)
  clear F8
  intro t8 h8 tk8 F9 N9
  try dsimp only
  k_steps
  all_goals first | exact trivial | skip
  rename Fr _ _ _ _ => F7
  rename News _ _ _ _ => N7
  rename _ ∧ _ ∧ _ ∧ AllLt _ tail => l9
  exact ⟨h.out _ _ _ _ (fun q hq => Nat.ne_of_lt (tb_ltOf l9.2.2.2 q hq)) _ _ F7 (skip1 N7)⟩
theorem turn_3 (hK : LawIs (hd.heap_39 w.params) qual body scope) (hB : LoopIs body lb) {o3 : Obj} {fo la : Addr} {us : List Value} {n0 lo hi md k : Nat} {n : Int} {t0 t1 t2 t3 t4 : Tok}
   (X : (hd.heap_39 w.params).In b) (T : Top p loose mean mg mb b) (F : Fr b L s.heap m) (N : News b L s.heap ((fo, listOf #[.int (md : Nat) t3, .int (md : Nat) t4] k) :: (L + 1 + 1 + 1, o3) :: (la, listOf us.toArray n0) :: tail)) (d3 : o3.data = .cell (some (.ref la))) (hin : IntsAre us FL)
   (m0 : m (Str.ofString "found") = some (.ref fo)) (m1 : m (Str.ofString "number") = some (.int n t0)) (m2 : m (Str.ofString "low") = some (.int (lo : Nat) t1)) (m3 : m (Str.ofString "high") = some (.int (hi : Nat) t2)) (hlh : lo ≤ hi) (h48 : hi ≤ 48) (e0 : mid lo (cnt n) hi = md)
   (hfo : ∀ q ∈ tail, @Ne Nat q.1 fo) (hf1 : @Ne Nat (L + 1 + 1 + 1) fo) (hf2 : @Ne Nat la fo)
   (h : ∀ t3 t4 t5 t6 k, GoL prog w e qual lb scope b L fa cd Q E 4 m ((fo, listOf #[.int (md : Nat) t3, .int (md : Nat) t4, .int (md : Nat) t5, .int (md : Nat) t6] k) :: (L + 1 + 1 + 1, o3) :: (la, listOf us.toArray n0) :: tail) s) :
   wpAny (model prog w) (callerA.deeper e) (execs (lb.drop 3) (envOfC qual scope L fa cd)) Q E s := by
  obtain ⟨rfl, rfl, rfl⟩ := lawIs_eq hK
  obtain rfl := loopIs_eq hB
  unfold GoL at h
  dsimp only [lawQual, lawScope, pickQ, pickS, loopBody, pickL, List.drop_succ_cons, List.drop_zero] at h ⊢
  replace h := Hold.mk @h
  refine execs_go ?_
  repeat ((fail_if_success (with_reducible show wpAny _ _ (call (Value.ref 32) _) _ _ _)); first | (k_unfold; (try dsimp only)) | walk1 | (dsimp only; walk1))
  rename Fr _ _ _ _ => F8
  rename News _ _ _ _ => N8
  refine' bisL_F (us := us) (nn := 48) (x := n) (tl := t1) (lo := lo) (hi := hi) (hv := .int (hi : Nat) t2) F8 N8 X T (Nat.le_of_ble_eq_true rfl) (by k_mem) (FL_take.symm ▸ hin) (.inr ⟨_, rfl⟩) h48 hlh (Nat.le_refl _) ?hb ?h
  case hb =>
    intro X' oc od fd osl e
    cases e
    exact kp_binds X' (fun S => rfl)
  clear F8 N8
  rw [e0]
  intro t9 h9 tk9 F9 N9
  try dsimp only
  repeat ((fail_if_success (with_reducible show wpAny _ _ (call (Value.ref 32) _) _ _ _)); first | (k_unfold; (try dsimp only)) | walk1 | (dsimp only; walk1))
  rename Fr _ _ _ _ => F8
  rename News _ _ _ _ => N8
  rename IntsAre _ (List.take (Int.toNat _) FL) => i8
  rw [Int.toNat_natCast] at i8
  refine' bisL_F (nn := hi) (x := n) (tl := t1) (lo := lo) (hi := hi) (hv := .none) F8 N8 X T (Nat.le_of_ble_eq_true rfl) (by k_mem) i8 (.inl ⟨rfl, rfl⟩) (Nat.le_refl _) hlh h48 ?hb ?h
  case hb =>
    intro X' oc od fd osl e
    cases e
    exact kp_binds X' (fun S => rfl)
  clear F8
  rw [e0]
  intro t8 h8 tk8 F9 N9
  try dsimp only
  repeat ((fail_if_success (with_reducible show wpAny _ _ (call (Value.builtin "list.extend") _) _ _ _)); first | (k_unfold; (try dsimp only)) | walk1 | (dsimp only; walk1))
  rename Fr _ _ _ _ => F8
  rename News _ _ _ _ => N8
  rename _ ∧ _ ∧ _ ∧ _ ∧ AllLt _ tail => l9
  rename fo < _ ∧ _ ∧ _ ∧ AllLt _ tail => l8
  refine kl_extend (its := #[.int (md : Nat) t3, .int (md : Nat) t4]) (its2 := #[.int (md : Nat) t9, .int (md : Nat) t8]) (l := [.int (md : Nat) t3, .int (md : Nat) t4, .int (md : Nat) t9, .int (md : Nat) t8]) F8 N8 List.mem_cons_self rfl (Nat.succ_ne_zero _) (.tail (Nat.ne_of_gt l9.2.1) (.tail (Nat.ne_of_gt l8.1) (.head fun q hq => ?_))) (by kl_no) (Nat.le_of_ble_eq_true rfl) (Nat.le_of_ble_eq_true rfl) ?_
  · rcases List.mem_cons.mp hq with rfl | hq
    · exact hf1
    rcases List.mem_cons.mp hq with rfl | hq
    · exact hf2
    · exact hfo q hq
  clear F8 N8
  intro h7 F7 N7
  try dsimp only
  k_steps
  all_goals first | exact trivial | skip
  exact ⟨h.out _ _ _ _ _ _ _ F7 (fun q hq => N7 q (by (iterate 2 (refine List.mem_cons_of_mem _ ?_)); exact hq))⟩

end
-- part A22
set_option maxRecDepth 100000
set_option linter.unusedVariables false
set_option maxHeartbeats 1000000

section
variable {prog : Program} {w : World} {s : Shared} {mg mb : Str → Option Value} {mean : ExcName → Option Value} {p : Program} {loose : List Str} {qual : Str} {body lb : List Stmt} {scope : Scope} {b : Heap} {L fa : Addr} {cd : Value} {m : Str → Option Value} {e : Env} {Q : Flow → Shared → Prop} {E : Value → Shared → Prop} {o34 o41 o97 : Obj} {tabs tail : List (Addr × Obj)}

theorem perm_sum {l1 l2 : List Int} (p : l1.Perm l2) : l1.sum = l2.sum := by
  induction p with
  | nil => rfl
  | cons x _ ih => simp only [List.sum_cons, ih]
  | swap x y l => simp only [List.sum_cons]; omega
  | trans _ _ a b => exact a.trans b
theorem mid_sorted {vs : List Value} {ns : List Int} {lo c hi : Nat} (hl : lo ≤ hi) (hi' : IntsAre vs ns) (p : ns.Perm [(lo : Int), (c : Int), (hi : Int)]) (o : ns.Pairwise (· ≤ ·)) :
    ∃ (x z : Int) (t1 t2 t3 : Tok), vs = [.int x t1, .int (mid lo c hi : Nat) t2, .int z t3] := by
  obtain ⟨x, y, z, rfl⟩ := len3 p.length_eq
  obtain ⟨t1, t2, t3, rfl⟩ := ints3 hi'
  refine ⟨x, z, t1, t2, t3, ?_⟩
  have sm := perm_sum p
  simp only [List.sum_cons, List.sum_nil, Int.add_zero] at sm
  obtain ⟨ox, o⟩ := List.pairwise_cons.mp o
  obtain ⟨oy, _⟩ := List.pairwise_cons.mp o
  have xy := ox y List.mem_cons_self
  have yz := oy z List.mem_cons_self
  have low : ∀ v ∈ [x, y, z], x ≤ v ∧ v ≤ z := fun v hv => by
    rcases List.mem_cons.mp hv with rfl | hv
    · exact ⟨Int.le_refl _, Int.le_trans xy yz⟩
    rcases List.mem_cons.mp hv with rfl | hv
    · exact ⟨xy, yz⟩
    · rw [List.mem_singleton.mp hv]
      exact ⟨Int.le_trans xy yz, Int.le_refl _⟩
  have mem3 : ∀ {v : Int}, v ∈ [(lo : Int), (c : Int), (hi : Int)] → v = lo ∨ v = c ∨ v = hi := fun {v} h => by simpa only [List.mem_cons, List.not_mem_nil, or_false] using h
  have a1 := low lo (p.mem_iff.mpr List.mem_cons_self)
  have a2 := low c (p.mem_iff.mpr (.tail _ (.head _)))
  have a3 := low hi (p.mem_iff.mpr (.tail _ (.tail _ (.head _))))
  have hx : x = lo ∨ x = c := by
    rcases mem3 (p.mem_iff.mp List.mem_cons_self) with h | h | h
    · exact .inl h
    · exact .inr h
    · exact .inl (Int.le_antisymm a1.1 (h ▸ Int.ofNat_le.mpr hl))
  have hz : z = c ∨ z = hi := by
    rcases mem3 (p.mem_iff.mp (.tail _ (.tail _ (.head _)))) with h | h | h
    · exact .inr (Int.le_antisymm (h ▸ Int.ofNat_le.mpr hl) a3.2)
    · exact .inl h
    · exact .inr h
  have e := mid_lin a1.1 a2.1 a2.2 a3.2 (Int.ofNat_le.mpr hl) (by rw [Int.add_assoc, sm, Int.add_assoc]) hx hz
  have em : y = (mid lo c hi : Nat) := by
    rw [e, mid_cast]
    rfl
  rw [em]
theorem turn_4 (hK : LawIs (hd.heap_39 w.params) qual body scope) (hB : LoopIs body lb) {ro r fo : Addr} {rs vs : List Value} {k k0 k1 lo hi md i : Nat} {ti t1 t2 t3 t4 t5 t6 : Tok} {ms : List Int}
   (X : (hd.heap_39 w.params).In b) (T : Top p loose mean mg mb b) (F : Fr b L s.heap m) (N : News b L s.heap ((fo, listOf #[.int (md : Nat) t3, .int (md : Nat) t4, .int (md : Nat) t5, .int (md : Nat) t6] k) :: (ro, listOf rs.toArray k0) :: (r, listOf vs.toArray k1) :: tail))
   (m0 : m (Str.ofString "found") = some (.ref fo)) (m1 : m (Str.ofString "rows") = some (.ref ro)) (m2 : m (Str.ofString "spot") = some (.int (i : Nat) ti)) (m3 : m (Str.ofString "low") = some (.int (lo : Nat) t1)) (m4 : m (Str.ofString "high") = some (.int (hi : Nat) t2)) (hr : rs.toArray[i]? = some (.ref r)) (hi64 : ((i : Nat) : Int) < 2 ^ 63)
   (hin : IntsAre vs ms) (hl : ms.length ≤ 48) (hlh : lo ≤ hi) (e0 : mid lo ms.length hi = md)
   (h : GoL prog w e qual lb scope b L fa cd Q E 5 m ((ro, listOf rs.toArray k0) :: (r, listOf vs.toArray k1) :: tail) s) :
   wpAny (model prog w) (callerA.deeper e) (execs (lb.drop 4) (envOfC qual scope L fa cd)) Q E s := by
  obtain ⟨rfl, rfl, rfl⟩ := lawIs_eq hK
  obtain rfl := loopIs_eq hB
  unfold GoL at h
  dsimp only [lawQual, lawScope, pickQ, pickS, loopBody, pickL, List.drop_succ_cons, List.drop_zero] at h ⊢
  replace h := Hold.mk @h
  refine execs_go ?_
  repeat ((fail_if_success (with_reducible show wpAny _ _ (subscriptTail _ _ (Value.ref ro) _) _ _ _)); first | (k_unfold; (try dsimp only)) | walk1 | (dsimp only; walk1))
  rename News _ _ _ _ => N5
  refine item_list ⟨_, (N5 (ro, listOf rs.toArray k0) (by k_mem)).1, rfl, _, rfl⟩ (Int.natCast_nonneg _) hi64 hr ?_
  repeat ((fail_if_success (with_reducible show wpAny _ _ (call (Value.builtin "sorted") _) _ _ _)); first | (k_unfold; (try dsimp only)) | walk1 | (dsimp only; walk1))
  rename Fr _ _ _ _ => F8
  rename News _ _ _ _ => N8
  refine kso_sorted (vs := [.int _ _, .int _ _, .int _ _]) (ns := [(lo : Int), (ms.length : Int), (hi : Int)]) F8 N8 ⟨_, (N8 _ List.mem_cons_self).1, rfl, _, rfl⟩ (.cons _ _ (.cons _ _ (.cons _ _ .nil))) (by simp) ?_
  intro D9 vs9 ns9 c9 h9 F9 N9 a1 a2 a3 a4 a5 a6
  obtain ⟨lo9, hi9, t7, t8, t9, rfl⟩ := mid_sorted hlh a2 a4 a5
  rw [e0] at N9
  clear a2 a3 a4 a5 a6 F8 N8
  try dsimp only
  k_steps
  · rename Fr _ _ _ _ => F7
    rename News _ _ _ _ => N7
    exact ⟨h.out _ _ F7 (fun q hq => N7 q (by (iterate 5 (refine List.mem_cons_of_mem _ ?_)); exact hq))⟩
  all_goals exact absurd rfl ‹¬ (_ = _)›
theorem turn_5 (hK : LawIs (hd.heap_39 w.params) qual body scope) (hB : LoopIs body lb) {ro r : Addr} {rs vs : List Value} {k0 k1 i : Nat} {ti : Tok} {ms : List Int}
   (X : (hd.heap_39 w.params).In b) (T : Top p loose mean mg mb b) (F : Fr b L s.heap m) (N : News b L s.heap ((ro, listOf rs.toArray k0) :: (r, listOf vs.toArray k1) :: tail))
   (m1 : m (Str.ofString "rows") = some (.ref ro)) (m2 : m (Str.ofString "spot") = some (.int (i : Nat) ti)) (hr : rs.toArray[i]? = some (.ref r)) (hi64 : ((i : Nat) : Int) < 2 ^ 63)
   (hin : IntsAre vs ms) (hl : ms.length ≤ 48)
   (h : ∀ od us ns c, IntsAre us ns → ns.Perm ms → ns.Pairwise (· ≤ ·) → @Ne Nat ro od → @Ne Nat r od → (∀ q ∈ tail, @Ne Nat q.1 od) → GoL prog w e qual lb scope b L fa cd Q E 6 (fun y => if y = Str.ofString "order" then some (.ref od) else m y) ((od, listOf us.toArray c) :: (ro, listOf rs.toArray k0) :: (r, listOf vs.toArray k1) :: tail) s) :
   wpAny (model prog w) (callerA.deeper e) (execs (lb.drop 5) (envOfC qual scope L fa cd)) Q E s := by
  obtain ⟨rfl, rfl, rfl⟩ := lawIs_eq hK
  obtain rfl := loopIs_eq hB
  unfold GoL at h
  dsimp only [lawQual, lawScope, pickQ, pickS, loopBody, pickL, List.drop_succ_cons, List.drop_zero] at h ⊢
  replace h := Hold.mk @h
  refine execs_go ?_
  repeat ((fail_if_success (with_reducible show wpAny _ _ (subscriptTail _ _ (Value.ref ro) _) _ _ _)); first | (k_unfold; (try dsimp only)) | walk1 | (dsimp only; walk1))
  rename News _ _ _ _ => N5
  refine item_list ⟨_, (N5 (ro, listOf rs.toArray k0) (by k_mem)).1, rfl, _, rfl⟩ (Int.natCast_nonneg _) hi64 hr ?_
  repeat ((fail_if_success (with_reducible show wpAny _ _ (call (Value.builtin "sorted") _) _ _ _)); first | (k_unfold; (try dsimp only)) | walk1 | (dsimp only; walk1))
  rename Fr _ _ _ _ => F8
  rename News _ _ _ _ => N8
  refine kso_sorted (vs := vs) (ns := ms) F8 N8 ⟨_, (N8 (r, listOf vs.toArray k1) (by k_mem)).1, rfl, _, rfl⟩ hin (by omega) ?_
  intro D9 vs9 ns9 c9 h9 F9 N9 a1 a2 a3 a4 a5 a6
  clear a6 F8 N8
  replace a1 := Hold.mk a1
  try dsimp only
  k_steps
  all_goals first | exact trivial | skip
  rename Fr _ _ _ _ => F7
  rename News _ _ _ _ => N7
  exact ⟨h.out _ _ _ _ a2 a4 a5 (Nat.ne_of_lt (a1.out (ro, _) (by k_mem))) (Nat.ne_of_lt (a1.out (r, _) (by k_mem))) (fun q hq => Nat.ne_of_lt (a1.out q (List.mem_cons_of_mem _ (List.mem_cons_of_mem _ hq)))) _ _ F7 N7⟩

end
-- part A23
set_option maxRecDepth 100000
set_option linter.unusedVariables false
set_option maxHeartbeats 1000000

section
variable {prog : Program} {w : World} {s : Shared} {mg mb : Str → Option Value} {mean : ExcName → Option Value} {p : Program} {loose : List Str} {qual : Str} {body lb : List Stmt} {scope : Scope} {b : Heap} {L fa : Addr} {cd : Value} {m : Str → Option Value} {e : Env} {Q : Flow → Shared → Prop} {E : Value → Shared → Prop} {o34 o41 o97 : Obj} {tabs tail : List (Addr × Obj)}

theorem bits_sorted : ∀ (ns : List Int), Bits ns → ns.Pairwise (· ≤ ·) → ∃ a c : Nat, ns = List.replicate a 0 ++ List.replicate c 1
  | [], _, _ => ⟨0, 0, rfl⟩
  | x :: ns, hb, ho => by
    obtain ⟨h1, h2⟩ := List.pairwise_cons.mp ho
    obtain ⟨a, c, e⟩ := bits_sorted ns (fun z hz => hb z (List.mem_cons_of_mem _ hz)) h2
    rcases hb x List.mem_cons_self with rfl | rfl
    · exact ⟨a + 1, c, by rw [e]; rfl⟩
    · refine ⟨0, c + 1, ?_⟩
      cases a with
      | zero => rw [e]; rfl
      | succ a =>
        have := h1 0 (by rw [e]; simp [List.replicate_succ])
        omega
theorem sum_ones : ∀ c : Nat, (List.replicate c (1 : Int)).sum = c
  | 0 => rfl
  | c + 1 => by rw [List.replicate_succ, List.sum_cons, sum_ones c]; omega
theorem turn_6 (hK : LawIs (hd.heap_39 w.params) qual body scope) (hB : LoopIs body lb) {on od : Addr} {os us : List Value} {k0 k1 a c : Nat}
   (X : (hd.heap_39 w.params).In b) (T : Top p loose mean mg mb b) (F : Fr b L s.heap m) (N : News b L s.heap ((od, listOf us.toArray k1) :: (on, listOf os.toArray k0) :: tail))
   (m1 : m (Str.ofString "order") = some (.ref od)) (m2 : m (Str.ofString "ones") = some (.ref on))
   (hin : IntsAre us (List.replicate a 0 ++ List.replicate c 1)) (hl : a + c ≤ 48) (hos : os.length ≤ 3) (z1 : @Ne Nat od on) (z2 : ∀ q ∈ tail, @Ne Nat q.1 on)
   (h : ∀ t k, GoL prog w e qual lb scope b L fa cd Q E 7 m ((on, listOf (os ++ [Value.int (c : Nat) t]).toArray k) :: tail) s) :
   wpAny (model prog w) (callerA.deeper e) (execs (lb.drop 6) (envOfC qual scope L fa cd)) Q E s := by
  obtain ⟨rfl, rfl, rfl⟩ := lawIs_eq hK
  obtain rfl := loopIs_eq hB
  unfold GoL at h
  dsimp only [lawQual, lawScope, pickQ, pickS, loopBody, pickL, List.drop_succ_cons, List.drop_zero] at h ⊢
  replace h := Hold.mk @h
  have hln : (List.replicate a (0 : Int) ++ List.replicate c 1).length = a + c := by simp
  have hget : ∀ (i : Nat) y, (List.replicate a (0 : Int) ++ List.replicate c 1)[i]? = some y → (i < a ∧ y = 0) ∨ (a ≤ i ∧ y = 1) := fun i y e => by
    by_cases hi : i < a
    · rw [List.getElem?_append_left (by simpa using hi), List.getElem?_replicate, if_pos hi] at e
      exact .inl ⟨hi, (Option.some.inj e).symm⟩
    · rw [List.getElem?_append_right (by simpa using hi), List.getElem?_replicate] at e
      split at e
      · exact .inr ⟨by omega, (Option.some.inj e).symm⟩
      · cases e
  replace hget := Hold.mk hget
  refine execs_go ?_
  repeat ((fail_if_success (with_reducible show wpAny _ _ (call (Value.ref 32) _) _ _ _)); first | (k_unfold; (try dsimp only)) | walk1 | (dsimp only; walk1))
  rename Fr _ _ _ _ => F8
  rename News _ _ _ _ => N8
  refine' bisL_list (x := 1) (lo := 0) (hi := ((a + c : Nat) : Int)) (hv := .none) (q := (a : Nat)) (X.keeps F8.keep) (T.keeps F8.keep) (Nat.le_of_ble_eq_true rfl) ?hb ⟨_, (N8 (od, listOf us.toArray k1) (by k_mem)).1, rfl, _, rfl⟩ hin (Int.le_refl _) (.inl ⟨rfl, by rw [hln]⟩) (by rw [hln]; exact Int.le_refl _) (by rw [hln]; omega) ⟨by omega, by omega⟩ ?h1 ?h2 ?h3
  case hb =>
    intro oc od fd osl e
    cases e
    exact kp_binds (X.keeps F8.keep) (fun S => rfl)
  case h1 =>
    intro i h1 h2 y e
    have := hget.out i y e
    omega
  case h2 =>
    intro i h1 h2 y e
    have := hget.out i y e
    omega
  intro t9 h9 tk9 st9
  have F9 := F8.keeps st9
  have N9 := N8.grown st9
  clear F8 N8 st9
  try dsimp only
  repeat ((fail_if_success (with_reducible show wpAny _ _ (call (Value.ref 23) _) _ _ _)); first | (k_unfold; (try dsimp only)) | walk1 | (dsimp only; walk1))
  rename Fr _ _ _ _ => F8
  rename News _ _ _ _ => N8
  refine' bisR_list2 (x := 1) (lo := 0) (hi := ((a + c : Nat) : Int)) (hv := .none) (q := ((a + c : Nat) : Int)) (X.keeps F8.keep) (T.keeps F8.keep) (Nat.le_of_ble_eq_true rfl) ?gb ⟨_, (N8 (od, listOf us.toArray k1) (by k_mem)).1, rfl, _, rfl⟩ hin (Int.le_refl _) (.inl ⟨rfl, by rw [hln]⟩) (by rw [hln]; exact Int.le_refl _) (by rw [hln]; omega) ⟨by omega, by omega⟩ ?g1 ?g2 ?g3
  case gb =>
    intro oc od fd osl e
    cases e
    exact kp_binds (X.keeps F8.keep) (fun S => rfl)
  case g1 =>
    intro i h1 h2 y e
    have := hget.out i y e
    omega
  case g2 =>
    intro i h1 h2 y e
    omega
  intro t8 h8 tk8 st8
  have F7 := F8.keeps st8
  have N7 := N8.grown st8
  clear F8 N8 st8
  try dsimp only
  repeat ((fail_if_success (with_reducible show wpAny _ _ (call (Value.builtin "len") _) _ _ _)); first | (k_unfold; (try dsimp only)) | walk1 | (dsimp only; walk1))
  rename IntsAre _ (List.take _ (List.drop _ _)) => i7
  generalize hJ : List.take _ (List.drop _ _) = js at i7
  have hj : js.length = c := by rw [← hJ, List.length_take, List.length_drop, hln, Int.toNat_natCast, Int.toNat_natCast, Nat.min_self, Nat.add_sub_cancel_left, Nat.min_self]
  clear hJ
  repeat ((fail_if_success (with_reducible show wpAny _ _ (call (Value.builtin "list.append") _) _ _ _)); first | (k_unfold; (try dsimp only)) | walk1 | (dsimp only; walk1))
  rename Fr _ _ _ _ => F8
  rename News _ _ _ _ => N8
  rename _ ∧ _ ∧ AllLt _ tail => l9
  rw [hj]
  refine append_K (its := os.toArray) F8 N8 (.tail (Nat.ne_of_gt l9.2.1) (.tail z1 (.head z2))) ?_ (by rw [List.size_toArray, sizeLine_eq]; omega)
  clear F8 N8
  intro h7 F7 N7
  try dsimp only
  k_steps
  all_goals first | exact trivial | skip
  rw [List.push_toArray] at N7
  exact ⟨h.out _ _ _ _ F7 (fun q hq => N7 q (by (iterate 2 (refine List.mem_cons_of_mem _ ?_)); exact hq))⟩

end
-- part A24
set_option maxRecDepth 100000
set_option linter.unusedVariables false
set_option maxHeartbeats 1000000

section
variable {prog : Program} {w : World} {s : Shared} {mg mb : Str → Option Value} {mean : ExcName → Option Value} {p : Program} {loose : List Str} {qual : Str} {body lb : List Stmt} {scope : Scope} {b : Heap} {L fa : Addr} {cd : Value} {m : Str → Option Value} {e : Env} {Q : Flow → Shared → Prop} {E : Value → Shared → Prop} {o34 o41 o97 : Obj} {tabs tail : List (Addr × Obj)}

/-- what the loop finds in the tables' tail -/
structure Laid (L : Addr) (ro r1 r2 r3 la nu : Addr) (v1 v2 v3 us : List Value) (k0 k1 k2 k3 n0 : Nat) (o3 lo : Obj) (tabs : List (Addr × Obj)) : Prop where
  ro : (ro, listOf #[.ref r1, .ref r2, .ref r3] k0) ∈ tabs
  r1 : (r1, listOf v1.toArray k1) ∈ tabs
  r2 : (r2, listOf v2.toArray k2) ∈ tabs
  r3 : (r3, listOf v3.toArray k3) ∈ tabs
  o3 : (L + 1 + 1 + 1, o3) ∈ tabs
  la : (la, listOf us.toArray n0) ∈ tabs
  nu : (nu, lo) ∈ tabs
theorem Laid.more {L ro r1 r2 r3 la nu : Addr} {v1 v2 v3 us : List Value} {k0 k1 k2 k3 n0 : Nat} {o3 lo : Obj} {t u : List (Addr × Obj)} (h : Laid L ro r1 r2 r3 la nu v1 v2 v3 us k0 k1 k2 k3 n0 o3 lo t) (k : ∀ q ∈ t, q ∈ u) : Laid L ro r1 r2 r3 la nu v1 v2 v3 us k0 k1 k2 k3 n0 o3 lo u :=
  ⟨k _ h.ro, k _ h.r1, k _ h.r2, k _ h.r3, k _ h.o3, k _ h.la, k _ h.nu⟩
theorem news_sub {h : Heap} {l l' : List (Addr × Obj)} (N : News b L h l) (k : ∀ q ∈ l', q ∈ l) : News b L h l' := fun q hq => N q (k q hq)
theorem sub_nil {l : List (Addr × Obj)} : ∀ q ∈ ([] : List (Addr × Obj)), q ∈ l := fun _ h => nomatch h
theorem sub_in {x : Addr × Obj} {l r : List (Addr × Obj)} (hx : x ∈ r) (h : ∀ q ∈ l, q ∈ r) : ∀ q ∈ x :: l, q ∈ r := fun q hq => by
  rcases List.mem_cons.mp hq with rfl | hq
  · exact hx
  · exact h q hq
theorem digs_one {n : Int} {ms : List Int} (h : Mk n ms) (hl : ms.length < 100) : ndig (evalDig 1 ms) 1 < 100 :=
  Nat.lt_of_le_of_lt (ndig_le (Nat.le_refl _) (bits_small (Nat.le_refl _) h.na.bits)) hl

theorem turn_all (hK : LawIs (hd.heap_39 w.params) qual body scope) (hB : LoopIs body lb) {ro r1 r2 r3 la nu r I on : Addr} {oi oj o3 lo : Obj} {v1 v2 v3 us vs os : List Value} {k k0 k1 k2 k3 n0 kr i : Nat} {ti tn : Tok} {n : Int} {ms ms1 ms2 ms3 : List Int}
   (X : (hd.heap_39 w.params).In b) (T : Top p loose mean mg mb b) (C : Cds b) (K : Tabs b o34 o41 o97 tabs) (Y : Laid L ro r1 r2 r3 la nu v1 v2 v3 us k0 k1 k2 k3 n0 o3 lo tabs) (F : Fr b L s.heap m) (N : News b L s.heap ((I + 1, oi) :: (I, oj) :: (on, listOf os.toArray k) :: (34, o34) :: (41, o41) :: (97, o97) :: tabs))
   (m1 : m (Str.ofString "rows") = some (.ref ro)) (m2 : m (Str.ofString "spot") = some (.int (i : Nat) ti)) (m3 : m (Str.ofString "ones") = some (.ref on)) (m4 : m (Str.ofString "number") = some (.int n tn)) (m5 : m (Str.ofString "numbers") = some (.ref nu))
   (d3 : o3.data = .cell (some (.ref la))) (hus : IntsAre us FL) (hi : i = 0 ∨ i = 1 ∨ i = 2) (hr : [Value.ref r1, Value.ref r2, Value.ref r3].toArray[i]? = some (.ref r)) (hrm : (r, listOf vs.toArray kr) ∈ tabs)
   (i1 : IntsAre v1 ms1) (i2 : IntsAre v2 ms2) (i3 : IntsAre v3 ms3) (l1 : ms1.length ≤ 48) (l2 : ms2.length ≤ 48) (l3 : ms3.length ≤ 48) (hin : IntsAre vs ms) (hmk : Mk n ms) (hos : os.length ≤ 3)
   (z1 : @LT.lt Nat _ 97 I) (z2 : @LT.lt Nat _ 97 L) (z3 : @Ne Nat on 34) (z4 : @Ne Nat on 41) (z5 : @Ne Nat on 97) (z6 : @Ne Nat on I) (z7 : @Ne Nat on (I + 1)) (off : ∀ q ∈ tabs, @Ne Nat q.1 I ∧ @Ne Nat q.1 (I + 1) ∧ @Ne Nat q.1 on)
   (h : ∀ m' o34 o41 o97 us t k h' tk', Tabs b o34 o41 o97 us → (∀ q ∈ tabs, q ∈ us) → (∀ q ∈ us, @Ne Nat q.1 I ∧ @Ne Nat q.1 (I + 1) ∧ @Ne Nat q.1 on) → m' (Str.ofString "rows") = some (.ref ro) → m' (Str.ofString "ones") = some (.ref on) → m' (Str.ofString "numbers") = some (.ref nu) →
     Fr b L h' m' → News b L h' ((on, listOf (os ++ [Value.int ms.sum t]).toArray k) :: (I + 1, oi) :: (I, oj) :: (34, o34) :: (41, o41) :: (97, o97) :: us) → Q .next { s with heap := h', toks := tk' }) :
   wpAny (model prog w) (callerA.deeper e) (execs lb (envOfC qual scope L fa cd)) Q E s := by
  have hlb : lb.drop 7 = [] := by
    obtain ⟨rfl, rfl, rfl⟩ := lawIs_eq hK
    obtain rfl := loopIs_eq hB
    rfl
  have hmsl : ms.length ≤ 48 := by rw [hmk.len]; exact cnt_le _
  have hi64 : ((i : Nat) : Int) < 2 ^ 63 := by rcases hi with rfl | rfl | rfl <;> decide
  have nro := K.off _ Y.ro
  have nr := K.off _ hrm
  show wpAny _ _ (execs (lb.drop 0) _) _ _ _
  refine turn_0 (on := on) (I := I) (oo := listOf os.toArray k) (oi := oi) (oj := oj) (rs := [.ref r1, .ref r2, .ref r3]) (k0 := k0) (k1 := kr) (r := r) hK hB X T C K F (news_sub N ?_) m1 m2 hr hi64 hin (bits_small (Nat.le_refl _) hmk.na.bits) (by omega) (digs_one hmk (by omega)) hmk.again z1 nro.1 nro.2.1 nr.1 nr.2.1 z3 z4 z2 ?_
  · refine sub_cons (sub_cons (sub_cons (sub_in ?_ (sub_in ?_ fun q hq => hq))))
    · exact .tail _ (.tail _ (.tail _ Y.ro))
    · exact .tail _ (.tail _ (.tail _ hrm))
  intro p34 p41 p97 u K1 sb ofs h1 tk1 F1 N1
  have Y1 := Y.more sb
  have hrm1 := sb _ hrm
  have off1 : ∀ q ∈ u, @Ne Nat q.1 I ∧ @Ne Nat q.1 (I + 1) ∧ @Ne Nat q.1 on := fun q hq => (ofs q hq).elim (fun h => off q h) fun h => h
  have A1 : News b L h1 ((I + 1, oi) :: (I, oj) :: (on, listOf os.toArray k) :: (34, p34) :: (41, p41) :: (97, p97) :: u) := news_sub N1 (sub_cons (sub_cons (sub_cons fun q hq => .tail _ (.tail _ hq))))
  clear N1 N F K ofs off Y hrm
  generalize hT : (I + 1, oi) :: (I, oj) :: (on, listOf os.toArray k) :: (34, p34) :: (41, p41) :: (97, p97) :: u = all at A1
  have up : ∀ q ∈ u, q ∈ all := fun q hq => by subst hT; exact .tail _ (.tail _ (.tail _ (.tail _ (.tail _ (.tail _ hq)))))
  have N2 : News b L h1 ((ro, listOf #[.ref r1, .ref r2, .ref r3] k0) :: (r1, listOf v1.toArray k1) :: (r2, listOf v2.toArray k2) :: (r3, listOf v3.toArray k3) :: all) :=
    news_sub A1 (sub_in (up _ Y1.ro) (sub_in (up _ Y1.r1) (sub_in (up _ Y1.r2) (sub_in (up _ Y1.r3) fun q hq => hq))))
  have next : ∀ (lo hi : Nat) t1 t2, lo ≤ hi → hi ≤ 48 → GoL prog w e qual lb scope b L fa cd Q E 2 (fun y => if y = Str.ofString "high" then some (.int (hi : Nat) t2) else if y = Str.ofString "low" then some (.int (lo : Nat) t1) else m y) ((ro, listOf #[.ref r1, .ref r2, .ref r3] k0) :: (r1, listOf v1.toArray k1) :: (r2, listOf v2.toArray k2) :: (r3, listOf v3.toArray k3) :: all) { s with heap := h1, toks := tk1 } := by
    intro lo hi t1 t2 hlh h48 h2 tk2 F2 N3
    have A2 : News b L h2 all := news_sub N3 fun q hq => .tail _ (.tail _ (.tail _ (.tail _ hq)))
    refine turn_2 (la := la) (us := us) (n0 := n0) (o3 := o3) hK hB X T F2 (news_sub A2 (sub_in (up _ Y1.o3) (sub_in (up _ Y1.la) fun q hq => hq))) d3 hus (n := n) (t0 := tn) (lo := lo) (hi := hi) (t1 := t1) (t2 := t2) ?_ ?_ ?_ hlh h48 ?_
    · exact m4
    · rfl
    · rfl
    intro fo t3 t4 k4 hfo h3 tk3 F3 N4
    refine turn_3 (md := mid lo (cnt n) hi) (n := n) (t0 := tn) (lo := lo) (hi := hi) (t1 := t1) (t2 := t2) hK hB X T F3 N4 d3 hus rfl ?_ ?_ ?_ hlh h48 rfl hfo (hfo _ (up _ Y1.o3)) (hfo _ (up _ Y1.la)) ?_
    · exact m4
    · rfl
    · rfl
    intro t3 t4 t5 t6 k5 h4 tk4 F4 N5
    refine turn_4 (ro := ro) (r := r) (rs := [.ref r1, .ref r2, .ref r3]) (vs := vs) (k0 := k0) (k1 := kr) (i := i) (ti := ti) (ms := ms) (md := mid lo (cnt n) hi) (lo := lo) (hi := hi) (t1 := t1) (t2 := t2) (tail := all) hK hB X T F4 (news_sub N5 (sub_cons (sub_in (.tail _ (.tail _ (up _ Y1.ro))) (sub_in (.tail _ (.tail _ (up _ hrm1))) fun q hq => .tail _ (.tail _ hq))))) rfl ?_ ?_ rfl rfl hr hi64 hin hmsl hlh (by rw [hmk.len]) ?_
    · exact m1
    · exact m2
    intro h5 tk5 F5 N6
    refine turn_5 (i := i) (ti := ti) (ms := ms) hK hB X T F5 N6 ?_ ?_ hr hi64 hin hmsl ?_
    · exact m1
    · exact m2
    intro od us9 ns9 c9 hin9 pm9 or9 _ _ hod h6 tk6 F6 N7
    obtain ⟨a, c, e9⟩ := bits_sorted ns9 (fun z hz => hmk.na.bits z (pm9.mem_iff.mp hz)) or9
    subst e9
    have hsum : ms.sum = (c : Nat) := by rw [← perm_sum pm9, List.sum_append, sum_zeros, sum_ones]; omega
    have hlen9 : a + c ≤ 48 := by
      have := pm9.length_eq
      simp only [List.length_append, List.length_replicate] at this
      omega
    subst hT
    refine turn_6 (on := on) (od := od) (os := os) (k0 := k) (a := a) (c := c) (tail := (I + 1, oi) :: (I, oj) :: (34, p34) :: (41, p41) :: (97, p97) :: u) hK hB X T F6 (news_sub N7 (sub_cons (sub_in (.tail _ (.tail _ (.tail _ (.tail _ (.head _)))))  ?_))) rfl ?_ hin9 hlen9 hos (Ne.symm (hod _ (.tail _ (.tail _ (.head _))))) ?_ ?_
    · exact sub_in (.tail _ (.tail _ (.head _))) (sub_in (.tail _ (.tail _ (.tail _ (.head _)))) fun q hq => (.tail _ (.tail _ (.tail _ (.tail _ (.tail _ hq))))))
    · exact m3
    · intro q hq
      rcases List.mem_cons.mp hq with rfl | hq
      · exact Ne.symm z7
      rcases List.mem_cons.mp hq with rfl | hq
      · exact Ne.symm z6
      rcases List.mem_cons.mp hq with rfl | hq
      · exact Ne.symm z3
      rcases List.mem_cons.mp hq with rfl | hq
      · exact Ne.symm z4
      rcases List.mem_cons.mp hq with rfl | hq
      · exact Ne.symm z5
      · exact (off1 q hq).2.2
    intro t7 k7 h7 tk7 F7 N8
    rw [hlb]
    refine wpAny_execs_nil ?_
    rw [← hsum] at N8
    refine h _ p34 p41 p97 u _ _ _ _ K1 sb off1 ?_ ?_ ?_ F7 N8
    · exact m1
    · exact m3
    · exact m5
  rcases hi with rfl | rfl | rfl
  · exact turn_1_0 (B := 48) hK hB X T F1 N2 m1 m2 i1 i2 i3 l1 l2 l3 (Nat.le_refl _) next
  · exact turn_1_1 (B := 48) hK hB X T F1 N2 m1 m2 i1 i2 i3 l1 l2 l3 (Nat.le_refl _) next
  · exact turn_1_2 (B := 48) hK hB X T F1 N2 m1 m2 i1 i2 i3 l1 l2 l3 (Nat.le_refl _) next

end
-- part A26
set_option maxRecDepth 100000
set_option linter.unusedVariables false
set_option maxHeartbeats 1000000

section
variable {prog : Program} {w : World} {s : Shared} {mg mb : Str → Option Value} {mean : ExcName → Option Value} {p : Program} {loose : List Str} {qual : Str} {body lb : List Stmt} {scope : Scope} {b : Heap} {L fa : Addr} {cd : Value} {m : Str → Option Value} {e : Env} {Q : Flow → Shared → Prop} {E : Value → Shared → Prop} {o34 o41 o97 : Obj} {tabs tail : List (Addr × Obj)}

theorem loop_step (hK : LawIs (hd.heap_39 w.params) qual body scope) {tgt it : PySem.Expr} {oe : List Stmt} {pos : Pos} (hB : body[7]? = some (.For tgt it lb oe pos)) {ro r1 r2 r3 la nu r I on : Addr} {o3 lo : Obj} {v1 v2 v3 us vs os : List Value} {k k0 k1 k2 k3 n0 kr i : Nat} {tn : Tok} {n : Int} {ms ms1 ms2 ms3 : List Int} {rest : List Itm}
   (X : (hd.heap_39 w.params).In b) (T : Top p loose mean mg mb b) (C : Cds b) (K : Tabs b o34 o41 o97 tabs) (Y : Laid L ro r1 r2 r3 la nu v1 v2 v3 us k0 k1 k2 k3 n0 o3 lo tabs)
   (m1 : m (Str.ofString "rows") = some (.ref ro)) (m3 : m (Str.ofString "ones") = some (.ref on)) (m5 : m (Str.ofString "numbers") = some (.ref nu))
   (d3 : o3.data = .cell (some (.ref la))) (hus : IntsAre us FL) (hi : i = 0 ∨ i = 1 ∨ i = 2) (hr : [Value.ref r1, Value.ref r2, Value.ref r3].toArray[i]? = some (.ref r)) (hrm : (r, listOf vs.toArray kr) ∈ tabs)
   (i1 : IntsAre v1 ms1) (i2 : IntsAre v2 ms2) (i3 : IntsAre v3 ms3) (l1 : ms1.length ≤ 48) (l2 : ms2.length ≤ 48) (l3 : ms3.length ≤ 48) (hin : IntsAre vs ms) (hmk : Mk n ms) (hos : os.length ≤ 3)
   (z1 : @LT.lt Nat _ 97 I) (z2 : @LT.lt Nat _ 97 L) (z3 : @Ne Nat on 34) (z4 : @Ne Nat on 41) (z5 : @Ne Nat on 97) (z6 : @Ne Nat on I) (z7 : @Ne Nat on (I + 1)) (off : ∀ q ∈ tabs, @Ne Nat q.1 I ∧ @Ne Nat q.1 (I + 1) ∧ @Ne Nat q.1 on)
   (next : ∀ m' o34 o41 o97 us t k, Tabs b o34 o41 o97 us → (∀ q ∈ tabs, q ∈ us) → (∀ q ∈ us, @Ne Nat q.1 I ∧ @Ne Nat q.1 (I + 1) ∧ @Ne Nat q.1 on) → m' (Str.ofString "rows") = some (.ref ro) → m' (Str.ofString "ones") = some (.ref on) → m' (Str.ofString "numbers") = some (.ref nu) →
     ItemsRest prog w (callerA.deeper e) E b (envOfC qual scope L fa cd) tgt lb Q s [(I + 1, "enumerate"), (I, "list_iterator")] [(nu, lo)] rest m' ((on, listOf (os ++ [Value.int ms.sum t]).toArray k) :: (34, o34) :: (41, o41) :: (97, o97) :: us)) :
   ItemsRest prog w (callerA.deeper e) E b (envOfC qual scope L fa cd) tgt lb Q s [(I + 1, "enumerate"), (I, "list_iterator")] [(nu, lo)] (.pair (fun t => .int (i : Nat) t) (.int n tn) :: rest) m ((on, listOf os.toArray k) :: (34, o34) :: (41, o41) :: (97, o97) :: tabs) := by
  refine ItemsRest.pair fun Tu ti h1 tk1 hTu F1 => AllObj.cons fun oi hci => AllObj.cons fun oj hcj => AllObj.nil fun N1 => ?_
  replace next := Hold.mk @next
  have step : ∀ h2 tk2, Fr b L h2 (fun y => if y = Str.ofString "number" then some (.int n tn) else if y = Str.ofString "spot" then some (.int (i : Nat) ti) else m y) → News b L h2 ((I + 1, oi) :: (I, oj) :: (on, listOf os.toArray k) :: (34, o34) :: (41, o41) :: (97, o97) :: tabs) →
      wpAny (model prog w) (callerA.deeper e) (execs lb (envOfC qual scope L fa cd)) (UnrPostW b L { s with heap := h1, toks := tk1 } [(I + 1, oi), (I, oj)] (fun m' n' => SubL [(nu, lo)] n' ∧ ItemsRest prog w (callerA.deeper e) E b (envOfC qual scope L fa cd) tgt lb Q s [(I + 1, "enumerate"), (I, "list_iterator")] [(nu, lo)] rest m' n') Q) E { s with heap := h2, toks := tk2 } := by
    intro h2 tk2 F2 N2
    refine turn_all (s := { s with heap := h2, toks := tk2 }) (ti := ti) (tn := tn) hK ⟨tgt, it, oe, pos, hB⟩ X T C K Y F2 N2 ?_ ?_ ?_ rfl ?_ d3 hus hi hr hrm i1 i2 i3 l1 l2 l3 hin hmk hos z1 z2 z3 z4 z5 z6 z7 off ?_
    · exact m1
    · rfl
    · exact m3
    · exact m5
    intro m' p34 p41 p97 u t k' h3 tk3 K3 sb off3 a1 a2 a3 F3 N3
    refine ⟨h3, tk3, m', (on, listOf (os ++ [Value.int ms.sum t]).toArray k') :: (34, p34) :: (41, p41) :: (97, p97) :: u, rfl, F3, news_sub N3 ?_, ?_, ⟨.tail _ (.tail _ (.tail _ (.tail _ (sb _ Y.nu)))), trivial⟩, next.out m' p34 p41 p97 u t k' K3 sb off3 a1 a2 a3⟩
    · exact sub_in (.tail _ (.head _)) (sub_in (.tail _ (.tail _ (.head _))) (sub_cons fun q hq => .tail _ (.tail _ hq)))
    · have ap : ∀ a : Nat, a ≠ I → a ≠ I + 1 → ∀ q ∈ [((I + 1 : Nat), oi), (I, oj)], a ≠ q.1 := fun a x1 x2 q hq => by
        rcases List.mem_cons.mp hq with rfl | hq
        · exact x2
        rcases List.mem_cons.mp hq with rfl | hq
        · exact x1
        · exact absurd hq List.not_mem_nil
      have zI : @LT.lt Nat _ 97 I := z1
      intro q hq
      rcases List.mem_cons.mp hq with rfl | hq
      · exact ap _ z6 z7
      rcases List.mem_cons.mp hq with rfl | hq
      · exact ap 34 (by omega) (by omega)
      rcases List.mem_cons.mp hq with rfl | hq
      · exact ap 41 (by omega) (by omega)
      rcases List.mem_cons.mp hq with rfl | hq
      · exact ap 97 (by omega) (by omega)
      · exact ap _ (off3 q hq).1 (off3 q hq).2.1
  replace step := Hold.mk @step
  clear next
  obtain ⟨rfl, rfl, rfl⟩ := lawIs_eq hK
  simp only [lawBody, pickB, List.getElem?_cons_succ, List.getElem?_cons_zero] at hB
  cases hB
  simp only [lawQual, lawScope, pickQ, pickS] at step ⊢
  try simp only [List.cons_append, List.nil_append] at N1
  try dsimp only at hTu
  repeat ((fail_if_success (with_reducible show wpAny _ _ (execs _ _) _ _ _)); first | (k_unfold; (try dsimp only)) | walk1 | (dsimp only; walk1))
  rename Fr _ _ _ _ => F7
  rename News _ _ _ _ => N7
  exact step.out _ _ F7 N7
theorem law_7 (hK : LawIs (hd.heap_39 w.params) qual body scope) (hE : PassesOwn (model prog w) (callerA.deeper e) (envOfC qual scope L fa cd) E) {ro r1 r2 r3 la nu on : Addr} {o3 : Obj} {v1 v2 v3 us : List Value} {k k0 k1 k2 k3 kn n0 : Nat} {t1 t2 t3 : Tok} {n1 n2 n3 : Int} {ms1 ms2 ms3 : List Int}
   (X : (hd.heap_39 w.params).In b) (T : Top p loose mean mg mb b) (C : Cds b) (K : Tabs b o34 o41 o97 tabs) (Y : Laid L ro r1 r2 r3 la nu v1 v2 v3 us k0 k1 k2 k3 n0 o3 (listOf #[.int n1 t1, .int n2 t2, .int n3 t3] kn) tabs) (F : Fr b L s.heap m) (N : News b L s.heap ((on, listOf #[] k) :: (34, o34) :: (41, o41) :: (97, o97) :: tabs))
   (m1 : m (Str.ofString "rows") = some (.ref ro)) (m3 : m (Str.ofString "ones") = some (.ref on)) (m5 : m (Str.ofString "numbers") = some (.ref nu))
   (d3 : o3.data = .cell (some (.ref la))) (hus : IntsAre us FL)
   (i1 : IntsAre v1 ms1) (i2 : IntsAre v2 ms2) (i3 : IntsAre v3 ms3) (l1 : ms1.length ≤ 48) (l2 : ms2.length ≤ 48) (l3 : ms3.length ≤ 48) (hm1 : Mk n1 ms1) (hm2 : Mk n2 ms2) (hm3 : Mk n3 ms3)
   (z2 : @LT.lt Nat _ 97 L) (z3 : @Ne Nat on 34) (z4 : @Ne Nat on 41) (z5 : @Ne Nat on 97) (off : ∀ q ∈ tabs, @Ne Nat q.1 on)
   (h : ∀ m' o34 o41 o97 us t1 t2 t3 k h' tk', Tabs b o34 o41 o97 us → (∀ q ∈ tabs, q ∈ us) → (∀ q ∈ us, @Ne Nat q.1 on) → m' (Str.ofString "rows") = some (.ref ro) → m' (Str.ofString "ones") = some (.ref on) → m' (Str.ofString "numbers") = some (.ref nu) →
     Fr b L h' m' → News b L h' ((on, listOf #[.int ms1.sum t1, .int ms2.sum t2, .int ms3.sum t3] k) :: (34, o34) :: (41, o41) :: (97, o97) :: us) → wpAny (model prog w) (callerA.deeper e) (execs (body.drop 8) (envOfC qual scope L fa cd)) Q E { s with heap := h', toks := tk' }) :
   wpAny (model prog w) (callerA.deeper e) (execs (body.drop 7) (envOfC qual scope L fa cd)) Q E s := by
  have hK' := hK
  obtain ⟨rfl, rfl, rfl⟩ := lawIs_eq hK
  dsimp only [lawQual, lawBody, lawScope, pickQ, pickB, pickS, List.drop_succ_cons, List.drop_zero] at h ⊢
  replace h := Hold.mk @h
  refine execs_go ?_
  refine For_turns (h₀ := b) F ?_ (by intro _; rfl) hE
  repeat ((fail_if_success (with_reducible show wpAny _ _ (call (Value.type "enumerate") _) _ _ _)); first | (k_unfold; (try dsimp only)) | walk1 | (dsimp only; walk1))
  refine ktu_enum (lo := listOf #[.int n1 t1, .int n2 t2, .int n3 t3] kn) (vs := [.int n1 t1, .int n2 t2, .int n3 t3]) (xs := [.pair (fun t => .int ((0 : Nat) : Int) t) (.int n1 t1), .pair (fun t => .int ((1 : Nat) : Int) t) (.int n2 t2), .pair (fun t => .int ((2 : Nat) : Int) t) (.int n3 t3)]) rfl F N (.tail _ (.tail _ (.tail _ (.tail _ Y.nu)))) rfl rfl rfl ?_
  intro I hI
  have zI : @LT.lt Nat _ 97 I := hI (97, o97) (.tail _ (.tail _ (.tail _ (.head _))))
  have zon : @LT.lt Nat _ on I := hI _ (.head _)
  have off0 : ∀ q ∈ tabs, @Ne Nat q.1 I ∧ @Ne Nat q.1 (I + 1) ∧ @Ne Nat q.1 on := fun q hq => by
    have zq : @LT.lt Nat _ q.1 I := hI q (.tail _ (.tail _ (.tail _ (.tail _ hq))))
    exact ⟨Nat.ne_of_lt zq, Nat.ne_of_lt (Nat.lt_succ_of_lt zq), off q hq⟩
  clear hI
  refine loop_step (i := 0) (os := []) (ms := ms1) hK' rfl X T C K Y m1 m3 m5 d3 hus (.inl rfl) rfl Y.r1 i1 i2 i3 l1 l2 l3 i1 hm1 (Nat.zero_le _) zI z2 z3 z4 z5 (Nat.ne_of_lt zon) (Nat.ne_of_lt (Nat.lt_succ_of_lt zon)) off0 ?_
  intro ma a34 a41 a97 ua ta ka Ka sba offa a1 a2 a3
  refine loop_step (i := 1) (os := [Value.int ms1.sum ta]) (ms := ms2) hK' rfl X T C Ka (Y.more sba) a1 a2 a3 d3 hus (.inr (.inl rfl)) rfl (sba _ Y.r2) i1 i2 i3 l1 l2 l3 i2 hm2 (Nat.le_of_ble_eq_true rfl) zI z2 z3 z4 z5 (Nat.ne_of_lt zon) (Nat.ne_of_lt (Nat.lt_succ_of_lt zon)) offa ?_
  intro mb' b34 b41 b97 ub tb kb Kb sbb offb b1 b2 b3
  refine loop_step (i := 2) (os := [Value.int ms1.sum ta, Value.int ms2.sum tb]) (ms := ms3) hK' rfl X T C Kb ((Y.more sba).more sbb) b1 b2 b3 d3 hus (.inr (.inr rfl)) rfl (sbb _ (sba _ Y.r3)) i1 i2 i3 l1 l2 l3 i3 hm3 (Nat.le_of_ble_eq_true rfl) zI z2 z3 z4 z5 (Nat.ne_of_lt zon) (Nat.ne_of_lt (Nat.lt_succ_of_lt zon)) offb ?_
  intro mc c34 c41 c97 uc tc kc Kc sbc offc c1 c2 c3
  refine ItemsRest.zero fun h9 tk9 F9 N9 => ?_
  exact ⟨rfl, ⟨h.out mc c34 c41 c97 uc ta tb tc kc _ _ Kc (fun q hq => sbc q (sbb q (sba q hq))) (fun q hq => (offc q hq).2.2) c1 c2 c3 F9 N9⟩⟩

end
-- part A27
set_option maxRecDepth 100000
set_option linter.unusedVariables false
set_option maxHeartbeats 1000000
theorem up3 {x a b c : Addr × Obj} {us : List (Addr × Obj)} (h : x ∈ us) : x ∈ a :: b :: c :: us := .tail _ (.tail _ (.tail _ h))
theorem mul3Ok {w : Nat} {n1 n2 n3 : Int} {ms1 ms2 ms3 : List Int} (a : Num n1 ms1) (c : Num n2 ms2) (d : Num n3 ms3) (hw : 6 ≤ w) (hw2 : w ≤ 2000) : IntMulOk (evalDig w ms1 * evalDig w ms2) (evalDig w ms3) := by
  have P := prod2 a c hw
  rw [P.eq]
  refine ev_mulOk hw2 P.small (d.small hw) ?_ (by have := d.len; omega)
  have := len_conv ms2 ms1
  have := a.len
  have := c.len
  omega
theorem mulOk_pos {a b : Int} (h0 : 0 ≤ a) (h1 : a ≤ 999) : IntMulOk a b := mulOk_small (Int.lt_of_lt_of_le (by decide) h0) (Int.lt_of_le_of_lt h1 (by decide))
theorem mulOk_neg {a b : Int} (h0 : 0 ≤ a) (h1 : a ≤ 999) : IntMulOk (-a) b := mulOk_small (by omega) (by omega)
theorem lt_24 {a : Int} (h : a ≤ 3000000) : a < 2 ^ 24 := Int.lt_of_le_of_lt h (by decide)
theorem lt100 {a b : Nat} (h : a ≤ b) (hb : b < 100) : a < 100 := Nat.lt_of_le_of_lt h hb
theorem le48 {a b c : Nat} (h : a ≤ b) (hb : b + c ≤ 48) : a + c ≤ FL.length := by rw [FL_len]; exact Nat.le_trans (Nat.add_le_add_right h c) hb
theorem cross {a b c d : Int} : -a * b + (a * b + a * c + d * b) = a * c + b * d := by
  rw [Int.neg_mul, Int.mul_comm d b]
  omega
theorem cross2 {a b c d : Int} : a * b - (a * b + a * c + d * b) = -a * c - b * d := by
  rw [Int.neg_mul, Int.mul_comm d b]
  omega
/-- the two products' worth is the whole -/
theorem again_left {n1 n2 n3 s1 s2 s3 : Int} : n3 * (n1 * n2 + n1 * s2 + s1 * n2) + n3 * (n1 * n2 + s1 * s2) + s3 * (n1 * n2 + n1 * s2 + s1 * n2) = 2 * (n1 * n2 * n3) + n1 * s2 * n3 + s1 * n2 * n3 + s1 * s2 * n3 + n1 * n2 * s3 + n1 * s2 * s3 + s1 * n2 * s3 := by
  simp only [Int.mul_add, Int.mul_comm, Int.mul_left_comm]
  omega
theorem again_right {n1 n2 n3 s1 s2 s3 : Int} : n1 * (n2 * n3 + n2 * s3 + s2 * n3) + n1 * (n2 * n3 + s2 * s3) + s1 * (n2 * n3 + n2 * s3 + s2 * n3) = 2 * (n1 * n2 * n3) + n1 * s2 * n3 + s1 * n2 * n3 + s1 * s2 * n3 + n1 * n2 * s3 + n1 * s2 * s3 + s1 * n2 * s3 := by
  simp only [Int.mul_add, Int.mul_comm, Int.mul_left_comm]
  omega
section
variable {prog : Program} {w : World} {s : Shared} {mg mb : Str → Option Value} {mean : ExcName → Option Value} {p : Program} {loose : List Str} {qual : Str} {body lb : List Stmt} {scope : Scope} {b : Heap} {L fa : Addr} {cd : Value} {m : Str → Option Value} {e : Env} {Q : Flow → Shared → Prop} {E : Value → Shared → Prop} {o34 o41 o97 : Obj} {tabs tail : List (Addr × Obj)}

theorem law_back (hK : LawIs (hd.heap_39 w.params) qual body scope) {ro r1 r2 r3 la nu on : Addr} {o2 o3 : Obj} {v1 v2 v3 us : List Value} {k1 k2 k3 kn kk n0 : Nat} {ta tb tc t1 t2 t3 tw : Tok} {W n1 n2 n3 : Int} {ms1 ms2 ms3 : List Int}
   (X : (hd.heap_39 w.params).In b) (T : Top p loose mean mg mb b) (C : Cds b) (K : Tabs b o34 o41 o97 tabs) (F : Fr b L s.heap m) (N : News b L s.heap ((34, o34) :: (41, o41) :: (97, o97) :: tabs))
   (eo : (ro, listOf #[.ref r1, .ref r2, .ref r3] 3) ∈ tabs) (e1 : (r1, listOf v1.toArray k1) ∈ tabs) (e2 : (r2, listOf v2.toArray k2) ∈ tabs) (e3 : (r3, listOf v3.toArray k3) ∈ tabs) (eon : (on, listOf #[.int ms1.sum ta, .int ms2.sum tb, .int ms3.sum tc] kn) ∈ tabs) (ew : (L + 1 + 1, o2) ∈ tabs) (el : (L + 1 + 1 + 1, o3) ∈ tabs) (ela : (la, listOf us.toArray n0) ∈ tabs) (enu : (nu, listOf #[.int n1 t1, .int n2 t2, .int n3 t3] kk) ∈ tabs)
   (d2 : o2.data = .cell (some (.int W tw))) (d3 : o3.data = .cell (some (.ref la))) (hus : IntsAre us FL) (i1 : IntsAre v1 ms1) (i2 : IntsAre v2 ms2) (i3 : IntsAre v3 ms3) (N1 : Num n1 ms1) (N2 : Num n2 ms2) (N3 : Num n3 ms3)
   (m1 : m (Str.ofString "rows") = some (.ref ro)) (m2 : m (Str.ofString "ones") = some (.ref on)) (m3 : m (Str.ofString "numbers") = some (.ref nu)) (hW : 6 ≤ W) (hW2 : W ≤ 1005) (z97 : @LT.lt Nat _ 97 L)
   (fin : ∀ h' tk' m' o34 o41 o97 us, Tabs b o34 o41 o97 us → Fr b L h' m' → News b L h' ((34, o34) :: (41, o41) :: (97, o97) :: us) → Q (.ret (.bool true)) { s with heap := h', toks := tk' }) :
   wpAny (model prog w) (callerA.deeper e) (execs (body.drop 8) (envOfC qual scope L fa cd)) Q E s := by
  have hw : 6 ≤ W.toNat := by omega
  have hw2 : W.toNat ≤ 2000 := by omega
  have g1 : 1 ≤ W := Int.le_trans (by decide) hW
  have g2 : W < 2000 := Int.lt_of_le_of_lt hW2 (by decide)
  have l1 := N1.len
  have l2 := N2.len
  have l3 := N3.len
  have P12 := prod2 N1 N2 hw
  have P23 := prod2 N2 N3 hw
  have P123 := prod3 N1 N2 N3 hw
  have b1 : ms1.length < 100 := lt100 l1 (by decide)
  have b2 : ms2.length < 100 := lt100 l2 (by decide)
  have b3 : ms3.length < 100 := lt100 l3 (by decide)
  have q12 := ev_mulOk hw2 (N1.small hw) (N2.small hw) (Nat.le_of_lt b1) (Nat.le_of_lt b2)
  have q23 := ev_mulOk hw2 (N2.small hw) (N3.small hw) (Nat.le_of_lt b2) (Nat.le_of_lt b3)
  have q123 := mul3Ok N1 N2 N3 hw hw2
  refine law_8 hK X T C K F (news_sub N (sub_in (up3 eo) (sub_in (up3 e1) (sub_in (up3 e2) (sub_in (up3 e3) (sub_in (up3 ew) fun q hq => hq)))))) d2 m1 i1 i2 i3 (N1.small hw) (N2.small hw) (N3.small hw) b1 b2 b3 g1 g2 (K.off _ eo).2.1 (K.off _ e1).2.1 (K.off _ e2).2.1 (K.off _ e3).2.1 z97 ?_
  intro t81 t82 t83 h8 tk8 a34 a41 a97 u8 K8 k8 F8 N8
  refine law_9 hK X T C K8 F8 N8 rfl rfl rfl q12 q23 q123 ?_
  intro pr t91 t92 t93 h9 tk9 b34 b41 b97 u9 K9 k9 F9 N9
  have epr := k9 _ (.head _)
  have up9 : ∀ q ∈ tabs, q ∈ u9 := fun q hq => k9 q (.tail _ (k8 q hq))
  clear k9 k8 K8 F8 N8 N K F
  refine law_10 hK X T C K9 F9 (news_sub N9 (sub_in (up3 epr) (sub_in (up3 (up9 _ ew)) fun q hq => hq))) d2 rfl P12.pos P23.pos P123.pos (lt100 P12.nd (by decide)) (lt100 P23.nd (by decide)) (lt100 P123.nd (by decide)) g1 g2 (K9.off _ epr).1 z97 ?_
  intro fi f1 f2 f3 w1 w2 w3 c1 c2 c3 j1 j2 j3 h10 tk10 c34 c41 c97 u10 K10 k10 F10 N10
  have efi := k10 _ (.head _)
  have ef1 := k10 _ (.tail _ (.head _))
  have ef2 := k10 _ (.tail _ (.tail _ (.head _)))
  have ef3 := k10 _ (.tail _ (.tail _ (.tail _ (.head _))))
  have epr' := k10 _ (.tail _ (.tail _ (.tail _ (.tail _ epr))))
  have up10 : ∀ q ∈ tabs, q ∈ u10 := fun q hq => k10 q (.tail _ (.tail _ (.tail _ (.tail _ (up9 q hq)))))
  have ln12 := P12.len
  have ln23 := P23.len
  have ln123 := P123.len
  refine law_11 hK X T C K10 F10 (news_sub N10 (sub_in (up3 efi) (sub_in (up3 ef1) (sub_in (up3 ef2) (sub_in (up3 ef3) (sub_in (up3 epr') (sub_in (up3 (up10 _ ew)) fun q hq => hq))))))) d2 rfl rfl j1 j2 j3 digits_small digits_small digits_small (lt100 ln12 (by decide)) (lt100 ln23 (by decide)) (lt100 ln123 (by decide)) P12.ev P23.ev P123.ev g1 g2 (K10.off _ efi).2.1 (K10.off _ ef1).2.1 (K10.off _ ef2).2.1 (K10.off _ ef3).2.1 (K10.off _ epr').2.1 z97 ?_
  intro h11 tk11 d34 d41 d97 u11 K11 k11 F11 N11
  replace efi := k11 _ efi
  replace ef1 := k11 _ ef1
  replace ef2 := k11 _ ef2
  replace ef3 := k11 _ ef3
  have up11 : ∀ q ∈ tabs, q ∈ u11 := fun q hq => k11 q (up10 q hq)
  clear epr epr' up9 up10 k10 k11 K9 K10 F9 F10 N9 N10
  have su1 := N1.mark.ones N1.top
  have su2 := N2.mark.ones N2.top
  have su3 := N3.mark.ones N3.top
  have su12 := sum2 N1 N2
  refine law_12 hK X T C K11 F11 (news_sub N11 (sub_in (up3 efi) (sub_in (up3 ef1) (sub_in (up3 ef2) (sub_in (up3 ef3) (sub_in (up3 (up11 _ eon)) fun q hq => hq)))))) ?_ rfl j1 j2 j3 (lt100 ln12 (by decide)) (lt100 ln23 (by decide)) (lt100 ln123 (by decide)) P12.sum P23.sum (by rw [P123.sum, sum_conv]) (mulOk_pos su1.1 (Int.le_trans su1.2 (by decide))) (mulOk_pos su2.1 (Int.le_trans su2.2 (by decide))) (mulOk_pos su12.1 (Int.le_trans su12.2 (by decide))) ?_
  · exact m2
  intro h12 tk12 e34 e41 e97 u12 K12 k12 F12 N12
  replace efi := k12 _ efi
  replace ef1 := k12 _ ef1
  replace ef2 := k12 _ ef2
  replace ef3 := k12 _ ef3
  have up12 : ∀ q ∈ tabs, q ∈ u12 := fun q hq => k12 q (up11 q hq)
  clear up11 k12 K11 F11 N11
  refine law_13 hK X T C K12 F12 (news_sub N12 (sub_in (up3 efi) (sub_in (up3 ef1) (sub_in (up3 ef2) (sub_in (up3 ef3) (sub_in (up3 (up12 _ ela)) (sub_in (up3 (up12 _ el)) fun q hq => hq))))))) d3 hus rfl j1 j2 j3 (le48 ln12 (by decide)) (le48 ln23 (by decide)) (le48 ln123 (by decide)) ?_
  intro t131 t132 t133 h13 tk13 f34 f41 f97 u13 K13 k13 F13 N13
  have up13 : ∀ q ∈ tabs, q ∈ u13 := fun q hq => k13 q (up12 q hq)
  clear efi ef1 ef2 ef3 up12 k13 K12 F12 N12 j1 j2 j3
  refine law_14 hK X T C K13 F13 (news_sub N13 (sub_in (up3 (up13 _ enu)) fun q hq => hq)) ?_ ?_
  · exact m3
  intro h14 tk14 g34 g41 g97 u14 K14 k14 F14 N14
  have up14 : ∀ q ∈ tabs, q ∈ u14 := fun q hq => k14 q (up13 q hq)
  have sh1 := N1.sh
  have sh2 := N2.sh
  have sh3 := N3.sh
  have p1 := N1.pos
  have p2 := N2.pos
  have p3 := N3.pos
  have x1 := N1.top
  have x2 := N2.top
  have x3 := N3.top
  clear up13 k14 K13 F13 N13
  refine law_15 hK X T C K14 F14 (news_sub N14 (sub_in (up3 (up14 _ enu)) fun q hq => hq)) ?_ p1 p2 p3 (lt_24 (Int.le_trans x1 (by decide))) (lt_24 (Int.le_trans x2 (by decide))) (lt_24 (Int.le_trans x3 (by decide))) sh1.2.2 sh2.2.2 sh3.2.2 sh1.1 sh2.1 sh3.1 sh1.2.1 sh2.2.1 sh3.2.1 (K14.off _ (up14 _ enu)).2.2 ?_
  · exact m3
  intro sh t151 t152 t153 h15 tk15 i34 i41 i97 u15 K15 k15 F15 N15
  have esh := k15 _ (.head _)
  have up15 : ∀ q ∈ tabs, q ∈ u15 := fun q hq => k15 q (.tail _ (up14 q hq))
  clear up14 k15 K14 F14 N14
  have wl := worth2 N1 N2 hw
  have wr := worth2 N2 N3 hw
  have lf := left_facts N1 N2
  have rf := left_facts N2 N3
  rw [← wl] at lf
  rw [← wr] at rf
  have r1 : -n1 * n2 + val 4 (digitsOf (evalDig W.toNat ms1 * evalDig W.toNat ms2) W.toNat) = n1 * val 1 ms2 + n2 * val 1 ms1 := by
    rw [wl]
    exact cross
  have r2 : n2 * n3 - val 4 (digitsOf (evalDig W.toNat ms2 * evalDig W.toNat ms3) W.toNat) = -n2 * val 1 ms3 - n3 * val 1 ms2 := by
    rw [wr]
    exact cross2
  have q1 : IntMulOk (-n1) n2 := mulOk_neg p1 x1
  have q2 : IntMulOk n1 (val 1 ms2) := mulOk_pos p1 x1
  have q3 : IntMulOk n2 (val 1 ms1) := mulOk_pos p2 x2
  have q4 : IntMulOk n2 n3 := mulOk_pos p2 x2
  have q5 : IntMulOk (-n2) (val 1 ms3) := mulOk_neg p2 x2
  have q6 : IntMulOk n3 (val 1 ms2) := mulOk_pos p3 x3
  have q7 : IntMulOk n1 n2 := mulOk_pos p1 x1
  have q8 : IntMulOk (val 1 ms1) (val 1 ms2) := mulOk_pos sh1.1 (Int.le_trans sh1.2.1 x1)
  have u24 : val 4 (digitsOf (evalDig W.toNat ms1 * evalDig W.toNat ms2) W.toNat) < 2 ^ 24 := lt_24 lf.2.1
  refine law_16 hK X T C K15 F15 (news_sub N15 (sub_in (up3 esh) fun q hq => hq)) rfl rfl rfl rfl rfl rfl q1 q2 q3 q4 q5 q6 q7 q8 r1 r2 lf.2.2.1 lf.1 u24 lf.2.2.2.1 lf.2.2.2.2 (K15.off _ esh).2.2 ?_
  intro h16 tk16 j34 j41 j97 u16 K16 k16 F16 N16
  replace esh := k16 _ esh
  have up16 : ∀ q ∈ tabs, q ∈ u16 := fun q hq => k16 q (up15 q hq)
  clear up15 k16 K15 F15 N15
  refine law_17 hK X T C K16 F16 (news_sub N16 (sub_in (up3 esh) fun q hq => hq)) rfl rfl rfl rfl rfl rfl q1 q2 q3 q4 q5 q6 q7 q8 r1 r2 lf.2.2.1 lf.1 u24 lf.2.2.2.1 lf.2.2.2.2 (K16.off _ esh).2.2 ?_
  intro h17 tk17 l34 l41 l97 u17 K17 k17 F17 N17
  replace esh := k17 _ esh
  have up17 : ∀ q ∈ tabs, q ∈ u17 := fun q hq => k17 q (up16 q hq)
  clear up16 k17 K16 F16 N16
  refine law_18 hK X T C K17 F17 (news_sub N17 (sub_in (up3 esh) fun q hq => hq)) rfl rfl rfl rfl rfl rfl q1 q2 q3 q4 q5 q6 q7 q8 r1 r2 lf.2.2.1 lf.1 u24 lf.2.2.2.1 lf.2.2.2.2 (K17.off _ esh).2.2 ?_
  intro h18 tk18 n34 n41 n97 u18 K18 k18 F18 N18
  have up18 : ∀ q ∈ tabs, q ∈ u18 := fun q hq => k18 q (up17 q hq)
  clear esh up17 k18 K17 F17 N17 q1 q2 q3 q4 q5 q6 q7 q8 r1 r2 u24
  have mkL : ∀ ms, Grd (val 4 (digitsOf (evalDig W.toNat ms1 * evalDig W.toNat ms2) W.toNat)) (List.replicate (cnt (val 4 (digitsOf (evalDig W.toNat ms1 * evalDig W.toNat ms2) W.toNat))) 0) ms → Mk (val 4 (digitsOf (evalDig W.toNat ms1 * evalDig W.toNat ms2) W.toNat)) ms := fun ms g => g.mk lf.1 (Nat.lt_of_le_of_lt (cnt_big lf.2.1) (by decide))
  have mkR : ∀ ms, Grd (val 4 (digitsOf (evalDig W.toNat ms2 * evalDig W.toNat ms3) W.toNat)) (List.replicate (cnt (val 4 (digitsOf (evalDig W.toNat ms2 * evalDig W.toNat ms3) W.toNat))) 0) ms → Mk (val 4 (digitsOf (evalDig W.toNat ms2 * evalDig W.toNat ms3) W.toNat)) ms := fun ms g => g.mk rf.1 (Nat.lt_of_le_of_lt (cnt_big rf.2.1) (by decide))
  refine law_19 hK X T C K18 F18 (news_sub N18 (sub_in (up3 (up18 _ ew)) (sub_in (up3 (up18 _ el)) (sub_in (up3 (up18 _ ela)) fun q hq => hq)))) d2 d3 hus rfl rfl rfl rfl lf.1 rf.1 g1 g2 (K18.off _ (up18 _ ela)).2.1 z97 ?_ ?_ ?_
  · intro ms g _
    obtain ⟨y1, y2, _, _⟩ := mkL_facts (mkL ms g) lf.2.1 hw N3
    exact ⟨y1, lt100 y2 (by decide), ev_mulOk hw2 y1 (N3.small hw) (Nat.le_of_lt (lt100 y2 (by decide))) (Nat.le_of_lt b3)⟩
  · intro ms g _
    obtain ⟨y1, y2, _, _⟩ := mkL_facts (mkR ms g) rf.2.1 hw N1
    exact ⟨y1, lt100 y2 (by decide), ev_mulOk hw2 (N1.small hw) y1 (Nat.le_of_lt b1) (Nat.le_of_lt (lt100 y2 (by decide)))⟩
  intro an msL msR t191 t192 gL eL gR eR h19 tk19 s34 s41 s97 u19 K19 k19 F19 N19
  have ean := k19 _ (.head _)
  have up19 : ∀ q ∈ tabs, q ∈ u19 := fun q hq => k19 q (.tail _ (up18 q hq))
  obtain ⟨_, _, PL, vL⟩ := mkL_facts (mkL msL gL) lf.2.1 hw N3
  obtain ⟨_, _, PR, vR⟩ := mkL_facts (mkR msR gR) rf.2.1 hw N1
  rw [mk_share (mkL msL gL) lf.1 lf.2.2.1 lf.2.2.2.1, wl, again_left, ← whole_val N1 N2 N3, ← P123.val] at vL
  rw [mk_share (mkR msR gR) rf.1 rf.2.2.1 rf.2.2.2.1, wr, again_right, ← whole_val N1 N2 N3, ← P123.val] at vR
  rw [Int.mul_comm (evalDig W.toNat ms3)] at vL PL
  have pl1 := PL.len
  have pl2 := PR.len
  refine law_20 hK X T C K19 F19 (news_sub N19 (sub_in (up3 ean) (sub_in (up3 (up19 _ ew)) (sub_in (up3 (up19 _ el)) (sub_in (up3 (up19 _ ela)) fun q hq => hq))))) d2 d3 hus rfl rfl PL.pos PR.pos g1 g2 (lt100 PL.nd (by decide)) (lt100 PR.nd (by decide)) (le48 pl1 (by decide)) (le48 pl2 (by decide)) ?_ ?_ (K19.off _ ean).1 (K19.off _ (up19 _ ela)).1 z97 ?_
  · rw [worth_val (FL_len ▸ le48 pl1 (by decide))]
    exact vL
  · rw [worth_val (FL_len ▸ le48 pl2 (by decide))]
    exact vR
  intro h20 tk20 x34 x41 x97 u20 K20 F20 N20
  exact fin _ _ _ _ _ _ _ K20 F20 N20
end
-- part A28
set_option maxRecDepth 100000
set_option linter.unusedVariables false
set_option maxHeartbeats 1000000
section
variable {prog : Program} {w : World} {s : Shared} {mg mb : Str → Option Value} {mean : ExcName → Option Value} {p : Program} {loose : List Str} {qual : Str} {body lb : List Stmt} {scope : Scope} {b : Heap} {L fa : Addr} {cd : Value} {m : Str → Option Value} {e : Env} {Q : Flow → Shared → Prop} {E : Value → Shared → Prop} {o34 o41 o97 : Obj} {tabs tail : List (Addr × Obj)}
theorem off_nil {x : Addr} : ∀ q ∈ ([] : List (Addr × Obj)), @Ne Nat q.1 x := fun _ h => nomatch h
theorem off_cons {x : Addr} {q : Addr × Obj} {l : List (Addr × Obj)} (h : @Ne Nat q.1 x) (t : ∀ z ∈ l, @Ne Nat z.1 x) : ∀ z ∈ q :: l, @Ne Nat z.1 x := fun z hz => by
  rcases List.mem_cons.mp hz with rfl | hz
  · exact h
  · exact t z hz
theorem num_mod {c : Int} {ms : List Int} (g : Grd (c.fmod 1000) (List.replicate (cnt (c.fmod 1000)) 0) ms) : Num (c.fmod 1000) ms := by
  have h0 : 0 ≤ c.fmod 1000 := Int.fmod_nonneg_of_pos c (by decide)
  have h1 : c.fmod 1000 < 1000 := Int.fmod_lt_of_pos c (by decide)
  exact ⟨g.mk h0 (by have := cnt_small (n := c.fmod 1000) (by omega); omega), h0, by omega⟩
theorem law_main (hK : LawIs (hd.heap_39 w.params) qual body scope) {o1 o2 o3 : Obj} {sl : Addr} {vs : List Value} {ns : List Int}
   (X : (hd.heap_39 w.params).In b) (T : Top p loose mean mg mb b) (C : Cds b) (F : Fr b L s.heap m) (N : News b L s.heap [(L + 1 + 1 + 1, o3), (L + 1 + 1, o2), (L + 1, o1), (97, tabObj #[]), (41, tabObj #[]), (34, tabObj #[])])
   (d1 : o1.data = .cell (some (.ref sl))) (d2 : o2.data = .cell none) (d3 : o3.data = .cell none) (hsl : b.IsList sl vs.toArray) (hin : IntsAre vs ns) (hlen : ns.length ≤ 63) (z97 : @LT.lt Nat _ 97 L)
   (fin : ∀ h' tk' m' o34 o41 o97 us, Tabs b o34 o41 o97 us → Fr b L h' m' → News b L h' ((34, o34) :: (41, o41) :: (97, o97) :: us) → Q (.ret (.bool true)) { s with heap := h', toks := tk' }) :
   wpAny (model prog w) (callerA.deeper e) (execs body (envOfC qual scope L fa cd)) Q (fun _ _ => False) s := by
  have zL : ∀ a : Nat, a < 98 → ∀ j : Nat, a ≠ (L : Nat) + j := fun a ha j => by have : @LT.lt Nat _ 97 L := z97; omega
  have zz : ∀ i j : Nat, i ≠ j → @Ne Nat (@HAdd.hAdd Nat Nat Nat _ L i) (@HAdd.hAdd Nat Nat Nat _ L j) := fun i j h e => h (Nat.add_left_cancel e)
  show wpAny _ _ (execs (body.drop 0) _) _ _ _
  refine law_0 hK X T F N fun h1 tk1 F1 N1 => ?_
  refine law_1 (o1 := o1) (tail := [(L + 1 + 1 + 1, o3), (L + 1 + 1, o2), (97, tabObj #[]), (41, tabObj #[]), (34, tabObj #[])]) hK X T F1 (news_sub N1 (sub_in (by k_mem) (sub_in (by k_mem) (sub_in (by k_mem) fun q hq => .tail _ (.tail _ (.tail _ hq)))))) d1 hsl hin hlen fun h2 tk2 ce c1 c2 c3 t21 t22 t23 F2 N2 nce => ?_
  refine law_2 (tail := [(L + 1, o1), (L + 1 + 1 + 1, o3), (L + 1 + 1, o2), (97, tabObj #[]), (41, tabObj #[]), (34, tabObj #[])]) hK X T F2 N2 rfl fun h3 tk3 nu t1 t2 t3 F3 N3 onu => ?_
  obtain ⟨_, onu3, onu2, onu97, onu41, onu34, _⟩ := onu
  dsimp only at onu3 onu2 onu97 onu41 onu34
  refine law_3 (o1 := o1) (o2 := o2) (tail := [(nu, listOf #[.int (c1.fmod 1000) t1, .int (c2.fmod 1000) t2, .int (c3.fmod 1000) t3] 3), (L + 1 + 1 + 1, o3), (97, tabObj #[]), (41, tabObj #[]), (34, tabObj #[])]) hK X T F3 (news_sub N3 (sub_in (by k_mem) (sub_in (by k_mem) (sub_in (by k_mem) (sub_in (by k_mem) fun q hq => .tail _ (.tail _ (.tail _ (.tail _ hq)))))))) d1 d2 hsl hin hlen
    (off_cons (Ne.symm onu2) (off_cons (zz 3 2 (by decide)) (off_cons (zL 97 (by decide) 2) (off_cons (zL 41 (by decide) 2) (off_cons (zL 34 (by decide) 2) off_nil))))) fun h4 tk4 o2' tw d2' F4 N4 => ?_
  refine law_4 (o3 := o3) (tail := [(L + 1 + 1, o2'), (nu, listOf #[.int (c1.fmod 1000) t1, .int (c2.fmod 1000) t2, .int (c3.fmod 1000) t3] 3), (97, tabObj #[]), (41, tabObj #[]), (34, tabObj #[])]) hK X T F4 (news_sub N4 (sub_in (by k_mem) (sub_in (by k_mem) (sub_in (by k_mem) fun q hq => .tail _ (.tail _ (.tail _ (.tail _ hq))))))) d3
    (off_cons (zz 2 3 (by decide)) (off_cons (Ne.symm onu3) (off_cons (zL 97 (by decide) 3) (off_cons (zL 41 (by decide) 3) (off_cons (zL 34 (by decide) 3) off_nil))))) fun h5 tk5 o3' la us n0 d3' F5 N5 nla hus => ?_
  have y1 : 0 ≤ c1.fmod 1000 := Int.fmod_nonneg_of_pos c1 (by decide)
  have y2 : 0 ≤ c2.fmod 1000 := Int.fmod_nonneg_of_pos c2 (by decide)
  have y3 : 0 ≤ c3.fmod 1000 := Int.fmod_nonneg_of_pos c3 (by decide)
  refine law_5 (tail := [(L + 1 + 1, o2'), (34, tabObj #[]), (41, tabObj #[]), (97, tabObj #[])]) hK X T F5 (news_sub N5 (sub_in (by k_mem) (sub_in (by k_mem) (sub_in (by k_mem) (sub_in (by k_mem) (sub_in (by k_mem) (sub_in (by k_mem) (sub_in (by k_mem) sub_nil)))))))) d3' hus rfl y1 y2 y3 fun h6 tk6 ro r1 r2 r3 v1 v2 v3 k1 k2 k3 ms1 ms2 ms3 F6 N6 oro or1 or2 or3 i1 i2 i3 g1 g2 g3 e1 e2 e3 => ?_
  obtain ⟨_, oro34, oro41, oro97, _⟩ := oro
  dsimp only at oro34 oro41 oro97
  have U1 := num_mod g1
  have U2 := num_mod g2
  have U3 := num_mod g3
  have K6 : Tabs b (tabObj #[]) (tabObj #[]) (tabObj #[]) [(ro, listOf #[.ref r1, .ref r2, .ref r3] 3), (r1, listOf v1.toArray k1), (r2, listOf v2.toArray k2), (r3, listOf v3.toArray k3), (nu, listOf #[.int (c1.fmod 1000) t1, .int (c2.fmod 1000) t2, .int (c3.fmod 1000) t3] 3), (L + 1 + 1 + 1, o3'), (la, listOf us.toArray n0), (L + 1 + 1, o2')] := by
    have K0 : Tabs b (tabObj #[]) (tabObj #[]) (tabObj #[]) [] := ⟨.inl rfl, .inl rfl, .inl rfl, fun _ h => nomatch h⟩
    refine (((((((K0.add ?_ ?_ ?_).add ?_ ?_ ?_).add ?_ ?_ ?_).add ?_ ?_ ?_).add ?_ ?_ ?_).add ?_ ?_ ?_).add ?_ ?_ ?_).add ?_ ?_ ?_
    · exact Ne.symm (zL 34 (by decide) 2)
    · exact Ne.symm (zL 41 (by decide) 2)
    · exact Ne.symm (zL 97 (by decide) 2)
    · exact Ne.symm (nla (34, _) (by k_mem))
    · exact Ne.symm (nla (41, _) (by k_mem))
    · exact Ne.symm (nla (97, _) (by k_mem))
    · exact Ne.symm (zL 34 (by decide) 3)
    · exact Ne.symm (zL 41 (by decide) 3)
    · exact Ne.symm (zL 97 (by decide) 3)
    · exact Ne.symm onu34
    · exact Ne.symm onu41
    · exact Ne.symm onu97
    · exact Ne.symm (or3 (34, _) (by k_mem))
    · exact Ne.symm (or3 (41, _) (by k_mem))
    · exact Ne.symm (or3 (97, _) (by k_mem))
    · exact Ne.symm (or2 (34, _) (by k_mem))
    · exact Ne.symm (or2 (41, _) (by k_mem))
    · exact Ne.symm (or2 (97, _) (by k_mem))
    · exact Ne.symm (or1 (34, _) (by k_mem))
    · exact Ne.symm (or1 (41, _) (by k_mem))
    · exact Ne.symm (or1 (97, _) (by k_mem))
    · exact Ne.symm oro34
    · exact Ne.symm oro41
    · exact Ne.symm oro97
  refine law_6 hK X T C K6 F6 (news_sub N6 (sub_in (by k_mem) (sub_in (by k_mem) (sub_in (by k_mem) (sub_in (by k_mem) (sub_in (by k_mem) (sub_in (by k_mem) (sub_in (by k_mem) (sub_in (by k_mem) (sub_in (by k_mem) (sub_in (by k_mem) (sub_in (by k_mem) sub_nil)))))))))))) fun on h7 tk7 on34 on41 on97 non F7 N7 => ?_
  have Y7 : Laid L ro r1 r2 r3 la nu v1 v2 v3 us 3 k1 k2 k3 n0 o3' (listOf #[.int (c1.fmod 1000) t1, .int (c2.fmod 1000) t2, .int (c3.fmod 1000) t3] 3) [(ro, listOf #[.ref r1, .ref r2, .ref r3] 3), (r1, listOf v1.toArray k1), (r2, listOf v2.toArray k2), (r3, listOf v3.toArray k3), (nu, listOf #[.int (c1.fmod 1000) t1, .int (c2.fmod 1000) t2, .int (c3.fmod 1000) t3] 3), (L + 1 + 1 + 1, o3'), (la, listOf us.toArray n0), (L + 1 + 1, o2')] :=
    ⟨by k_mem, by k_mem, by k_mem, by k_mem, by k_mem, by k_mem, by k_mem⟩
  have ew : (L + 1 + 1, o2') ∈ [(ro, listOf #[.ref r1, .ref r2, .ref r3] 3), (r1, listOf v1.toArray k1), (r2, listOf v2.toArray k2), (r3, listOf v3.toArray k3), (nu, listOf #[.int (c1.fmod 1000) t1, .int (c2.fmod 1000) t2, .int (c3.fmod 1000) t3] 3), (L + 1 + 1 + 1, o3'), (la, listOf us.toArray n0), (L + 1 + 1, o2')] := by k_mem
  have l1 := U1.len
  have l2 := U2.len
  have l3 := U3.len
  refine law_7 hK PassesOwn.never X T C K6 Y7 F7 N7 ?_ ?_ ?_ d3' hus i1 i2 i3 (by omega) (by omega) (by omega) U1.mark U2.mark U3.mark z97 on34 on41 on97 non ?_
  · rfl
  · rfl
  · rfl
  intro m8 a34 a41 a97 u8 ta tb tc k8 h8 tk8 K8 sb8 off8 q1 q2 q3 F8 N8
  have f0 : 0 ≤ ns.sum.fmod 1000 := Int.fmod_nonneg_of_pos _ (by decide)
  have f1 : ns.sum.fmod 1000 < 1000 := Int.fmod_lt_of_pos _ (by decide)
  have Y8 := Y7.more sb8
  exact law_back (ro := ro) (r1 := r1) (r2 := r2) (r3 := r3) (la := la) (nu := nu) (on := on) hK X T C (K8.add (q := (on, listOf #[.int ms1.sum ta, .int ms2.sum tb, .int ms3.sum tc] k8)) on34 on41 on97) F8 (news_sub N8 (sub_in (by k_mem) (sub_in (by k_mem) (sub_in (by k_mem) (sub_in (by k_mem) fun q hq => .tail _ (.tail _ (.tail _ (.tail _ hq)))))))) (.tail _ Y8.ro) (.tail _ Y8.r1) (.tail _ Y8.r2) (.tail _ Y8.r3) (.head _) (.tail _ (sb8 _ ew)) (.tail _ Y8.o3) (.tail _ Y8.la) (.tail _ Y8.nu) d2' d3' hus i1 i2 i3 U1 U2 U3 q1 q2 q3 (by omega) (by omega) z97 fin
end
end Mine
end
section
open PySem PySem.W PyProof.Rows PySem.Calls PySem.Spec
namespace Mine
-- part A29
theorem grown_1 {b h : Heap} {L P : Addr} {l c : Int} {qual : Str} {o : Obj} {tabs news : List (Addr × Obj)} (T : TbO b l c qual o tabs) (N : News b L h news) (hm : (P, o) ∈ news) : GrownAt P h := by
  rcases T with rfl | ⟨c0, oc, rfl, _⟩
  · exact ⟨_, (N _ hm).1⟩
  · exact ⟨_, (N _ hm).1⟩
theorem grown_2 {b h : Heap} {L P : Addr} {o : Obj} {tabs news : List (Addr × Obj)} (T : TbO2 b o tabs) (N : News b L h news) (hm : (P, o) ∈ news) : GrownAt P h := by
  rcases T with rfl | ⟨c1, c2, oc1, oc2, rfl, _⟩
  · exact ⟨_, (N _ hm).1⟩
  · exact ⟨_, (N _ hm).1⟩
end Mine
end
open PySem PySem.W PyProof.Rows PySem.Calls PySem.Spec
set_option maxRecDepth 100000 in
set_option maxHeartbeats 1000000 in
theorem PySem.Challenge.cw_tl0007_01_holds : PySem.Challenge.rw_tl0007_01.Holds := by
  refine Mine.hd ?_
  w_strict (k_go0; (all_goals try k_fold))
  rename Fr _ _ _ _ => F0
  rename News _ _ _ _ => N0
  rename IntsAre _ _ => i0
  rename Heap.IsList (ghostOf _ _) _ _ => s0
  rename _ ∧ _ ∧ _ => z0
  rename _ = Data.cell _ => d1
  replace d1 := Mine.Hold.mk d1
  rename _ = Data.cell _ => d2
  replace d2 := Mine.Hold.mk d2
  rename _ = Data.cell _ => d3
  rename CodeHd _ _ _ => c34
  replace c34 := Mine.Hold.mk c34
  rename CodeHd _ _ _ => c41
  replace c41 := Mine.Hold.mk c41
  rename CodeHd _ _ _ => c97
  refine wpAny_mono (E := fun _ _ => False) ?_ (fun _ _ x => x) (fun _ _ x => x.elim)
  refine Mine.law_main ?hK (by assumption) (by assumption) ⟨c34.out, c41.out, c97, (N0 (34, tabObj #[]) (by k_mem)).2.2, (N0 (41, tabObj #[]) (by k_mem)).2.2, (N0 (97, tabObj #[]) (by k_mem)).2.2⟩ F0 N0 d1.out d2.out d3 s0 i0 (by omega) z0.1 ?fin
  case hK => exact ⟨_, _, _, _, _, _, _, _, _, _, _, _, by with_unfolding_all rfl⟩
  intro h' tk' m' o34 o41 o97 us K F N
  refine ⟨?_, Mine.grown_2 K.t97 N (by k_mem), Mine.grown_1 K.t41 N (by k_mem), Mine.grown_1 K.t34 N (by k_mem), trivial⟩
  dsimp only
  wrow_close
