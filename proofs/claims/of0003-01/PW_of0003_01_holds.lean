import PyProof.Rows.All
import Wide.All
import OpenK.AllK
import Wide.FinOn
import PySem.Challenge.RW_of0003_01
set_option Elab.async false

section
open PySem PySem.W PyProof.Rows
namespace Mine
set_option maxRecDepth 100000
set_option maxHeartbeats 0
open_top hd for PySem.Challenge.rw_of0003_01
end Mine
end

section
open PySem PySem.W PySem.Calls PyProof.Rows
namespace Mine
set_option maxRecDepth 100000

/-- the written part of the top's heap -/
noncomputable abbrev KF (w : World) : Frag := hd.heap_39 w.params
/-- no raise -/
abbrev NE : Value → Shared → Prop := fun _ _ => False
/-- a ledger that is new against g and stands in h -/
def Fresh (g h : Heap) (l : List (Addr × Obj)) : Prop := ∀ p ∈ l, h.get? p.1 = some p.2 ∧ g.get? p.1 = none
/-- a value that bears a datum in a heap -/
def HD (h : Heap) (v : Value) (d : Dat) : Prop := ∃ l : List (Addr × Obj), (∀ p ∈ l, h.get? p.1 = some p.2) ∧ DatIn l v d
def HDs (h : Heap) (vs : List Value) (ds : List Dat) : Prop := ∃ l : List (Addr × Obj), (∀ p ∈ l, h.get? p.1 = some p.2) ∧ DatAll l vs ds

theorem wpAny_of_NE {α : Type} {M : Model} {A : Around} {t : Sem α} {Q : α → Shared → Prop} {E : Value → Shared → Prop} {s : Shared} (h : wpAny M A t Q NE s) : wpAny M A t Q E s :=
  wpAny_mono h (fun _ _ x => x) fun _ _ x => x.elim

theorem HD.keep {h h' : Heap} {v : Value} {d : Dat} (x : HD h v d) (k : h.StaysIn h') : HD h' v d :=
  let ⟨l, a, b⟩ := x; ⟨l, fun p hp => k _ _ (a p hp), b⟩
theorem HDs.keep {h h' : Heap} {v : List Value} {d : List Dat} (x : HDs h v d) (k : h.StaysIn h') : HDs h' v d :=
  let ⟨l, a, b⟩ := x; ⟨l, fun p hp => k _ _ (a p hp), b⟩
theorem HD.of_fresh {g h : Heap} {l : List (Addr × Obj)} {v : Value} {d : Dat} (f : Fresh g h l) (x : DatIn l v d) : HD h v d := ⟨l, fun p hp => (f p hp).1, x⟩
theorem HD.of_news {h₀ h : Heap} {L : Addr} {l news : List (Addr × Obj)} {v : Value} {d : Dat} (N : News h₀ L h news) (hs : ∀ p ∈ l, p ∈ news) (x : DatIn l v d) : HD h v d := ⟨l, fun p hp => (N p (hs p hp)).1, x⟩
theorem HD.str {h : Heap} (x : Str) (t : Tok) : HD h (.str x t) (.str x) := ⟨[], fun _ hp => (nomatch hp), .str x t⟩
theorem HD.int {h : Heap} (x : Int) (t : Tok) : HD h (.int x t) (.int x) := ⟨[], fun _ hp => (nomatch hp), .int x t⟩
theorem HD.list {h : Heap} {v : Value} {ds : List Dat} (x : HD h v (.list ds)) : ∃ a vs n, v = .ref a ∧ h.get? a = some (listOf (List.toArray vs) n) ∧ HDs h vs ds := by
  obtain ⟨l, hl, x⟩ := x
  cases x with
  | list hm r => exact ⟨_, _, _, rfl, hl _ hm, l, hl, r⟩
theorem HD.mk {h : Heap} {a : Addr} {vs : List Value} {n : Nat} {ds : List Dat} (e : h.get? a = some (listOf vs.toArray n)) (x : HDs h vs ds) : HD h (.ref a) (.list ds) := by
  obtain ⟨l, hl, x⟩ := x
  refine ⟨(a, listOf vs.toArray n) :: l, fun p hp => ?_, .list (.head _) (x.mono fun p hp => .tail _ hp)⟩
  rcases List.mem_cons.mp hp with rfl | hp
  · exact e
  · exact hl p hp
theorem HDs.nil {h : Heap} : HDs h [] [] := ⟨[], fun _ hp => (nomatch hp), .nil⟩
theorem HDs.cons {h : Heap} {v : Value} {vs : List Value} {d : Dat} {ds : List Dat} (x : HD h v d) (y : HDs h vs ds) : HDs h (v :: vs) (d :: ds) := by
  obtain ⟨l, hl, x⟩ := x
  obtain ⟨l', hl', y⟩ := y
  refine ⟨l ++ l', fun p hp => (List.mem_append.mp hp).elim (hl p) (hl' p), .cons (x.mono fun p hp => List.mem_append.mpr (.inl hp)) (y.mono fun p hp => List.mem_append.mpr (.inr hp))⟩
theorem HDs.head {h : Heap} {v : Value} {vs : List Value} {d : Dat} {ds : List Dat} (x : HDs h (v :: vs) (d :: ds)) : HD h v d ∧ HDs h vs ds := by
  obtain ⟨l, hl, x⟩ := x
  cases x with
  | cons a b => exact ⟨⟨l, hl, a⟩, ⟨l, hl, b⟩⟩
theorem HDs.length {h : Heap} {vs : List Value} {ds : List Dat} (x : HDs h vs ds) : vs.length = ds.length := let ⟨_, _, x⟩ := x; x.length
theorem HDs.get {h : Heap} {vs : List Value} {ds : List Dat} (x : HDs h vs ds) {k : Nat} {d : Dat} (hk : ds[k]? = some d) : ∃ v, vs[k]? = some v ∧ HD h v d := by
  obtain ⟨l, hl, x⟩ := x
  obtain ⟨hk', rfl⟩ := List.getElem?_eq_some_iff.mp hk
  obtain ⟨v, e, y⟩ := x.get hk'
  exact ⟨v, e, l, hl, y⟩
theorem HDs.getv {h : Heap} {vs : List Value} {ds : List Dat} (x : HDs h vs ds) {k : Nat} {v : Value} (hk : vs[k]? = some v) : ∃ d, ds[k]? = some d ∧ HD h v d := by
  have hl : k < vs.length := (List.getElem?_eq_some_iff.mp hk).1
  rw [x.length] at hl
  obtain ⟨v', e, y⟩ := x.get (List.getElem?_eq_getElem hl)
  rw [hk] at e
  cases e
  exact ⟨_, List.getElem?_eq_getElem hl, y⟩

/-- the datum as the library's PyData -/
theorem HD.reads {h : Heap} {v : Value} {d : Dat} (x : HD h v d) (n : Nat) (hk : kqdOk n d = true) : ∃ as, Reads h v (kqdP d) as := by
  obtain ⟨l, hl, x⟩ := x
  have hL : ∀ p ∈ l, p.1 ≠ h.objs.size := fun p hp => Nat.ne_of_lt (Heap.lt_size (hl p hp))
  have N : News (hideAll h (l.map (·.1))) h.objs.size h l := fun p hp => ⟨hl p hp, hL p hp, hideAll_none _ (List.mem_map_of_mem hp)⟩
  exact kqd_in N n x hk

section
variable {prog : Program} {w : World} {A : Around} {E : Value → Shared → Prop} {s : Shared} {K : Frag} {Q : Value → Shared → Prop}
  {name qual : Str} {params : Arguments} {body : List Stmt} {scope : Scope} {dV kV doc pm cdv ct oc : Value} {an od : Option Addr} {osl : Array (Option Value)} {f : Addr} {args : List Value} {binds : List (Str × Value)}

/-- a def without cells, entered over any heap: all that stood stays -/
theorem enter (X : K.In s.heap) (hlim : s.heap.NoLimit)
    (ho : K.lookup f = some ⟨oc, od, .func (fnOf name qual params body scope dV kV doc pm an cdv ct), osl⟩) (hcd : codeIn K cdv qual = true) (hroom : A.depth < recursionLimit)
    (hbind : BindsTo s (fnOf name qual params body scope dV kV doc pm an cdv ct) ⟨args, []⟩ binds) (hloc : ∀ y ∈ binds, scope.names.lookup y.1 = some .local)
    (h : ∀ h₁, Fr s.heap s.heap.objs.size h₁ (fun y => binds.reverse.lookup y) →
      wpAny (model prog w) (A.deeper (envOf qual scope s.heap.objs.size f cdv)) (execs body (envOf qual scope s.heap.objs.size f cdv))
        (fun fl s' => Q (match fl with | .ret v => v | _ => .none) s') NE
        { s with heap := h₁, toks := s.toks + binds.length })
    (hco : scope.isCoroutine = false) (hgen : scope.isGenerator = false) (hk : scope.kind = .function)
    (hcell : ∀ x ∈ scope.names, x.2 ≠ .cell) : wpAny (model prog w) A (call (.ref f) args) Q E s := by
  refine wpAny_call (codeAny_call_def (fd := fnOf name qual params body scope dV kV doc pm an cdv ct) (body := body) (binds := binds) hroom (X _ _ ho) rfl hlim (codeRec_of X hcd) rfl hbind hcell hloc (fun h₁ hns hk₁ => ?_) hco hgen hk)
  exact wpAny_of_NE (h h₁ ⟨hns, hk₁, Nat.le_refl _⟩)
end

section
variable {prog : Program} {w : World} {A : Around}

/-- one turn of a list comprehension that raises nothing, its target any -/
theorem compLoop_turn {elt target iter : Expr} {ifs : List Expr} {scope : Scope} {pos : Pos} {it acc : Value} {env : Env} {R : Result → Shared → Prop} {s : Shared} (I : Nat → Shared → Prop)
    (turn : ∀ n s, I n s → wpAny (model prog w) A (pyNext it) (fun r s₁ => match r with
      | none => R (.ok .next) s₁
      | some v => wpAny (model prog w) A (letOwnedTupleGo target it v) (fun _ s₁' => wpAny (model prog w) A (assign target env v) (fun _ s₂ =>
          wpAny (model prog w) A (forIn ifs true fun c r => if r = true then do let ok ← isTrue c env (eval c env); pure (ForInStep.yield ok) else pure (ForInStep.yield r)) (fun ok s₃ =>
            if ok = true then wpAny (model prog w) A (eval elt env) (fun x s₄ =>
              wpAny (model prog w) A (call (.builtin "list.append") [acc, x]) (fun _ s₅ => ∃ m, m < n ∧ I m s₅) NE s₄) NE s₃
            else ∃ m, m < n ∧ I m s₃) NE s₂) NE s₁') NE s₁) NE s)
    (n : Nat) (h : I n s) :
    codeAny (model prog w) A (.compLoop (.ListComp elt [⟨target, iter, ifs, 0⟩] scope pos) 0 it acc env) R s := by
  refine codeAny_loop rfl I (fun n s hI => ?_) n h
  show wpAny _ A ((compTurn (.ListComp elt [⟨target, iter, ifs, 0⟩] scope pos) 0 it acc env).onRaise (fun x => do noteFrame x env; theTreesLotGoes x)) _ _ s
  refine wpAny_noted (wpAny_of_NE ?_)
  rw [compTurn_list]
  refine wpAny_bind (wpAny_standAt (wpAny_bind (wpAny_mono (turn n s hI) (fun r s₁ h₁ => ?_) fun _ _ h' => h')))
  cases r with
  | none => exact wpAny_pure h₁
  | some v =>
    refine wpAny_bind (wpAny_mono h₁ (fun _ s₁' h₁' => ?_) fun _ _ h' => h')
    refine wpAny_bind (wpAny_mono h₁' (fun _ s₂ h₂ => wpAny_bind (wpAny_mono h₂ (fun ok s₃ h₃ => ?_) fun _ _ h' => h')) fun _ _ h' => h')
    cases ok with
    | false => exact wpAny_pure ⟨rfl, h₃⟩
    | true =>
      exact wpAny_bind (wpAny_bind (wpAny_mono h₃ (fun x s₄ h₄ => wpAny_bind (wpAny_mono h₄ (fun _ s₅ h₅ => wpAny_pure (wpAny_pure ⟨rfl, h₅⟩)) fun _ _ h' => h')) fun _ _ h' => h'))

/-- an iterator of n items: what the next one binds, by its target, and what it writes -/
structure Src (prog : Program) (w : World) (A : Around) (target : Expr) (I : Addr) (wr : List Addr) (z : Nat) (n : Nat) (St : Nat → Heap → Prop) (Bnd : Nat → (Str → Option Value) → Prop) (cenv : Addr → Env) : Prop where
  below : ∀ b ∈ wr, b < z
  held : ∀ i h, St i h → ∀ b ∈ wr, ∃ o, h.get? b = some o
  frame : ∀ i h h', St i h → (∀ b o, b < z → h.get? b = some o → h'.get? b = some o) → St i h'
  next : ∀ (C : Addr) (i : Nat) (s₁ : Shared) (m : Str → Option Value) (Q1 : Shared → Prop), z ≤ C → i < n → St i s₁.heap → s₁.heap.Ns C m →
    (∀ h' tk' m', St (i + 1) h' → h'.Ns C m' → Bnd i m' → (∀ b o, b ≠ C → b ∉ wr → s₁.heap.get? b = some o → h'.get? b = some o) → Q1 { s₁ with heap := h', toks := tk' }) →
    wpAny (model prog w) A (pyNext (.ref I)) (fun r s' => match r with
      | none => False
      | some v => wpAny (model prog w) A (letOwnedTupleGo target (.ref I) v) (fun _ s'' => wpAny (model prog w) A (assign target (cenv C) v) (fun _ s3 => Q1 s3) NE s'') NE s') NE s₁
  done : ∀ (s₁ : Shared) (Q1 : Shared → Prop), St n s₁.heap → (∀ h' tk', (∀ b o, b ∉ wr → s₁.heap.get? b = some o → h'.get? b = some o) → Q1 { s₁ with heap := h', toks := tk' }) →
    wpAny (model prog w) A (pyNext (.ref I)) (fun r s' => r = none ∧ Q1 s') NE s₁
  self : ∀ (s₁ : Shared) (Q1 : Value → Shared → Prop), St 0 s₁.heap → Q1 (.ref I) s₁ → wpAny (model prog w) A (pyIter (.ref I)) Q1 NE s₁

theorem fresh_none {h : Heap} {a : Addr} (ha : h.objs.size ≤ a) : h.get? a = none := by
  cases e : h.get? a with
  | none => rfl
  | some o' => exact absurd (Heap.lt_size e) (Nat.not_lt.mpr ha)

theorem range_filter_succ (p : Nat → Bool) (i : Nat) : (List.range (i + 1)).filter p = (List.range i).filter p ++ (if p i then [i] else []) := by
  rw [List.range_succ, List.filter_append]
  cases hp : p i <;> simp [hp]

/-- between two turns of a comprehension's block -/
def CInv (s₂ : Shared) (St : Nat → Heap → Prop) (R : Nat → List (Addr × Obj) → Value → Prop) (p : Nat → Bool) (wr : List Addr) (D C : Addr) (n k : Nat) (s' : Shared) : Prop :=
  ∃ h' tk m' ys l kk i, s' = { s₂ with heap := h', toks := tk } ∧ St i h' ∧ h'.get? D = some (listOf ys kk) ∧ h'.Ns C m' ∧ Fresh s₂.heap h' l ∧ (∀ q ∈ l, q.1 ≠ D ∧ q.1 ≠ C ∧ q.1 ∉ wr) ∧
    Paired (fun i y => R i l y) ((List.range i).filter p) ys.toList ∧ i ≤ n ∧ k = n + 1 - i ∧ (∀ b o, b ∉ wr → s₂.heap.get? b = some o → h'.get? b = some o)

/-- the block of a list comprehension that raises nothing and changes nothing that stood (but the iterator) -/
theorem comp_block {elt target iter : Expr} {ifs : List Expr} {scope : Scope} {cl : List (Str × Addr)} {pos : Pos} {env : Env} {s₂ : Shared} {I : Addr} {wr : List Addr} {n : Nat}
    {St : Nat → Heap → Prop} {Bnd : Nat → (Str → Option Value) → Prop} {p : Nat → Bool} {R : Nat → List (Addr × Obj) → Value → Prop} {RR : Value → Addr → Result → Shared → Prop} {E : Value → Shared → Prop}
    (W : Src prog w A target I wr s₂.heap.objs.size n St Bnd fun C => compEnvC scope cl C env) (hsz : n ≤ sizeLine)
    (hcell : ∀ y ∈ scope.names, y.2 ≠ .cell) (hkind : scope.kind = .function) (hst : St 0 s₂.heap)
    (tests : ∀ C i s₁ m, s₂.heap.objs.size ≤ C → i < n → Bnd i m → s₁.heap.Ns C m → (∀ b o, b ∉ wr → s₂.heap.get? b = some o → s₁.heap.get? b = some o) →
      wpAny (model prog w) A (forIn ifs true fun c r => if r = true then do let ok ← isTrue c (compEnvC scope cl C env) (eval c (compEnvC scope cl C env)); pure (ForInStep.yield ok) else pure (ForInStep.yield r))
        (fun ok s' => ok = p i ∧ Keeps s₁ s') NE s₁)
    (elts : ∀ C i s₁ m, s₂.heap.objs.size ≤ C → i < n → p i = true → Bnd i m → s₁.heap.Ns C m → (∀ b o, b ∉ wr → s₂.heap.get? b = some o → s₁.heap.get? b = some o) →
      wpAny (model prog w) A (eval elt (compEnvC scope cl C env)) (fun y s' => ∃ h' tk' l, s' = { s₁ with heap := h', toks := tk' } ∧ s₁.heap.StaysIn h' ∧ Fresh s₁.heap h' l ∧ R i l y) NE s₁)
    (mono : ∀ i l l' y, R i l y → (∀ q ∈ l, q ∈ l') → R i l' y)
    (hRR : ∀ D C h' tk m' ys l k, s₂.heap.get? D = none → s₂.heap.get? C = none → D ≠ C → h'.Ns C m' → h'.get? D = some (listOf ys k) → Fresh s₂.heap h' l → (∀ q ∈ l, q.1 ≠ D ∧ q.1 ≠ C ∧ q.1 ∉ wr) →
      Paired (fun i y => R i l y) ((List.range n).filter p) ys.toList → (∀ b o, b ∉ wr → s₂.heap.get? b = some o → h'.get? b = some o) → RR (.ref D) C (.ok .next) { s₂ with heap := h', toks := tk }) :
    wpAny (model prog w) A (newList []) (fun acc s₃ => wpAny (model prog w) A (newFunctionEnv scope env.globals cl [] env.qual none .none (some env)) (fun cenv s₄ =>
      codeAny (model prog w) A (.compStart (.ListComp elt [⟨target, iter, ifs, 0⟩] scope pos) 0 (.ref I) acc { cenv with scope := relabel scope env }) (RR acc cenv.locals) s₄) E s₃) E s₂ := by
  refine wpAny_newObj_type (wpAny_newFunctionEnv hcell (by intro y hy; simp at hy) (fun h₁ hns₁ hsb₁ => ?_) hkind)
  dsimp only at hns₁ hsb₁ ⊢
  generalize hH2 : s₂.heap.push { cls := .type "list", dict := none, data := .seq ([] : List Value).toArray } = H2 at hns₁ hsb₁ ⊢
  have hC : H2.objs.size = s₂.heap.objs.size + 1 := by rw [← hH2, Heap.size_push]
  have hDC : s₂.heap.objs.size ≠ H2.objs.size := by rw [hC]; exact Nat.ne_of_lt (Nat.lt_succ_self _)
  have hCle : s₂.heap.objs.size ≤ H2.objs.size := by rw [hC]; exact Nat.le_succ _
  have below : ∀ b, b < s₂.heap.objs.size → b ≠ H2.objs.size ∧ b ≠ s₂.heap.objs.size := fun b hb => ⟨by rw [hC]; exact Nat.ne_of_lt (Nat.lt_succ_of_lt hb), Nat.ne_of_lt hb⟩
  have hDw : s₂.heap.objs.size ∉ wr := fun hm => Nat.lt_irrefl _ (W.below _ hm)
  have hCw : H2.objs.size ∉ wr := fun hm => by have := W.below _ hm; rw [hC] at this; exact Nat.lt_irrefl _ (Nat.lt_of_succ_lt this)
  have old : ∀ b o, s₂.heap.get? b = some o → h₁.get? b = some o := fun b o e => hsb₁.extBut b o (below b (Heap.lt_size e)).1 (Heap.get?_push_of_some _ (hH2 ▸ Heap.get?_push_of_some _ e))
  have hacc : h₁.get? s₂.heap.objs.size = some (listOf #[] 0) := hsb₁.extBut _ _ hDC (Heap.get?_push_of_some _ (hH2 ▸ Heap.get?_push_size _ rfl))
  have hst₁ : St 0 h₁ := W.frame _ _ _ hst fun b o _ e => old b o e
  have loop : ∀ s₃ : Shared, s₃ = { s₂ with heap := h₁, toks := s₂.toks + ([] : List (Str × Value)).length } →
      codeAny (model prog w) A (.compLoop (.ListComp elt [⟨target, iter, ifs, 0⟩] scope pos) 0 (.ref I) (.ref s₂.heap.objs.size) (compEnvC scope cl H2.objs.size env)) (RR (.ref s₂.heap.objs.size) H2.objs.size) s₃ := by
    rintro s₃ rfl
    refine compLoop_turn (CInv s₂ St R p wr s₂.heap.objs.size H2.objs.size n) ?_ (n + 1)
      ⟨h₁, _, _, #[], [], 0, 0, rfl, hst₁, hacc, hns₁, fun _ hp => (nomatch hp), fun _ hp => (nomatch hp), Paired.nil, Nat.zero_le _, rfl, fun b o _ e => old b o e⟩
    rintro k s' ⟨H, tk, m', ys, l, kk, i, rfl, hst', hacc', hn', hl, hlD, hF, hi, rfl, hk⟩
    by_cases hlt : i < n
    · refine wpAny_mono (W.next H2.objs.size i _ _ (fun s' => wpAny (model prog w) A (forIn ifs true fun c r => if r = true then do let ok ← isTrue c (compEnvC scope cl H2.objs.size env) (eval c (compEnvC scope cl H2.objs.size env)); pure (ForInStep.yield ok) else pure (ForInStep.yield r)) (fun ok s₃ =>
            if ok = true then wpAny (model prog w) A (eval elt (compEnvC scope cl H2.objs.size env)) (fun x s₄ =>
              wpAny (model prog w) A (call (.builtin "list.append") [.ref s₂.heap.objs.size, x]) (fun _ s₅ => ∃ m, m < n + 1 - i ∧ CInv s₂ St R p wr s₂.heap.objs.size H2.objs.size n m s₅) NE s₄) NE s₃
            else ∃ m, m < n + 1 - i ∧ CInv s₂ St R p wr s₂.heap.objs.size H2.objs.size n m s₃) NE s') hCle hlt hst' hn' fun h₂ tk₂ m₂ hst₂ hn₂ hB hk₂ => ?_) (fun r s' h => ?_) fun _ _ h => h
      · have up₂ : ∀ b o, b ∉ wr → s₂.heap.get? b = some o → h₂.get? b = some o := fun b o hb e => hk₂ b o (below b (Heap.lt_size e)).1 hb (hk b o hb e)
        have hacc₂ : h₂.get? s₂.heap.objs.size = some (listOf ys kk) := hk₂ _ _ hDC hDw hacc'
        have hl₂ : Fresh s₂.heap h₂ l := fun q hq => ⟨hk₂ _ _ (hlD q hq).2.1 (hlD q hq).2.2 (hl q hq).1, (hl q hq).2⟩
        refine wpAny_mono (tests _ i _ _ hCle hlt hB hn₂ up₂) (fun ok s₃ h₃ => ?_) fun _ _ e => e
        obtain ⟨rfl, h₃, tk₃, rfl, hk₃⟩ := h₃
        have hst₃ : St (i + 1) h₃ := W.frame _ _ _ hst₂ fun b o _ e => hk₃ b o e
        have hl₃ : Fresh s₂.heap h₃ l := fun q hq => ⟨hk₃ _ _ (hl₂ q hq).1, (hl q hq).2⟩
        cases hpv : p i with
        | false =>
          simp only [Bool.false_eq_true, if_false]
          refine ⟨n + 1 - (i + 1), by omega, h₃, tk₃, _, ys, l, kk, i + 1, rfl, hst₃, hk₃ _ _ hacc₂, hn₂.keeps hk₃, hl₃, hlD, ?_, hlt, rfl, fun b o hb e => hk₃ b o (up₂ b o hb e)⟩
          rw [range_filter_succ, hpv]; simpa using hF
        | true =>
          simp only [if_true]
          refine wpAny_mono (elts _ i _ _ hCle hlt hpv hB (hn₂.keeps hk₃) fun b o hb e => hk₃ b o (up₂ b o hb e)) (fun y s₄ h₄ => ?_) fun _ _ e => e
          obtain ⟨h₄, tk₄, l₄, rfl, hk₄, hl₄, hR⟩ := h₄
          have hys : ys.size ≤ sizeLine := by
            have e1 := hF.length
            have e2 : ((List.range i).filter p).length ≤ (List.range i).length := List.length_filter_le _ _
            have e3 : (List.range i).length = i := List.length_range
            have e4 : ys.toList.length = ys.size := by simp
            omega
          have hD₄ : h₄.get? s₂.heap.objs.size = some (listOf ys kk) := hk₄ _ _ (hk₃ _ _ hacc₂)
          refine wpAny_list_append_plain (hsz := hys) (l := s₂.heap.objs.size) (items := ys) ⟨_, hD₄⟩ fun h₅ hp₅ hs₅ => ?_
          obtain ⟨k₅, hp₅⟩ := hp₅
          have hl₅ : ∀ q ∈ l₄, q.1 ≠ s₂.heap.objs.size ∧ q.1 ≠ H2.objs.size ∧ q.1 ∉ wr := fun q hq => by
            have hn := (hl₄ q hq).2
            refine ⟨fun e => ?_, fun e => ?_, fun hw => ?_⟩
            · rw [e] at hn; rw [show Heap.get? h₃ s₂.heap.objs.size = _ from hk₃ _ _ hacc₂] at hn; cases hn
            · obtain ⟨o, _, _, ho, _⟩ := hn₂.keeps hk₃
              rw [e] at hn; rw [show Heap.get? h₃ H2.objs.size = _ from ho] at hn; cases hn
            · obtain ⟨o, ho⟩ := W.held _ _ hst₃ _ hw
              rw [show Heap.get? h₃ q.1 = _ from ho] at hn; cases hn
          refine ⟨n + 1 - (i + 1), by omega, h₅, tk₄, _, ys.push y, l ++ l₄, k₅, i + 1, rfl, ?_, hp₅, ((hn₂.keeps hk₃).keeps hk₄).sameBut hs₅ (Ne.symm hDC), ?_, ?_, ?_, hlt, rfl,
            fun b o hb e => hs₅.extBut b o (below b (Heap.lt_size e)).2 (hk₄ b o (hk₃ b o (up₂ b o hb e)))⟩
          · exact W.frame _ _ _ hst₃ fun b o hb e => hs₅.extBut b o (below b hb).2 (hk₄ b o e)
          · intro q hq
            rcases List.mem_append.mp hq with hq | hq
            · exact ⟨hs₅.extBut _ _ (hlD q hq).1 (hk₄ _ _ (hl₃ q hq).1), (hl q hq).2⟩
            · refine ⟨hs₅.extBut _ _ (hl₅ q hq).1 (hl₄ q hq).1, ?_⟩
              cases e : s₂.heap.get? q.1 with
              | none => rfl
              | some o =>
                have := hk₃ _ _ (up₂ _ _ (hl₅ q hq).2.2 e)
                rw [show Heap.get? h₃ q.1 = none from (hl₄ q hq).2] at this; cases this
          · intro q hq
            rcases List.mem_append.mp hq with hq | hq
            · exact hlD q hq
            · exact hl₅ q hq
          · rw [range_filter_succ, hpv]
            have hF' : Paired (fun i y => R i (l ++ l₄) y) ((List.range i).filter p) ys.toList := hF.mono fun a b x => mono a l _ b x fun q hq => List.mem_append.mpr (.inl hq)
            simpa using Paired.snoc hF' (mono i l₄ (l ++ l₄) y hR fun q hq => List.mem_append.mpr (.inr hq))
      · cases r with
        | none => exact h.elim
        | some v => exact h
    · have hin : i = n := by omega
      subst hin
      refine wpAny_mono (W.done _ (fun s' => RR (.ref s₂.heap.objs.size) H2.objs.size (.ok .next) s') hst' fun h₂ tk₂ hk₂ => ?_) (fun r s' h => ?_) fun _ _ h => h
      · refine hRR _ _ h₂ tk₂ m' ys l kk (fresh_none (Nat.le_refl _)) (fresh_none hCle) hDC (hn'.at' fun o e => hk₂ _ o hCw e) (hk₂ _ _ hDw hacc') (fun q hq => ⟨hk₂ _ _ (hlD q hq).2.2 (hl q hq).1, (hl q hq).2⟩) hlD hF fun b o hb e => hk₂ b o hb (hk b o hb e)
      · obtain ⟨rfl, h⟩ := h; exact h
  exact codeAny_compStart_list (loop _ rfl) (wpAny_of_NE (W.self _ _ hst₁ (loop _ rfl)))
end
end Mine
end

section
open PySem PySem.W PySem.Calls PyProof.Rows
namespace Mine
set_option maxRecDepth 100000

section
variable {prog : Program} {w : World} {A : Around}

/-- what a comprehension's block wants, once its iterator stands -/
structure CompAt (prog : Program) (w : World) (A : Around) (env : Env) (elt target : Expr) (ifs : List Expr) (scope : Scope) (cl : List (Str × Addr)) (I : Addr) (wr : List Addr) (n : Nat)
    (St : Nat → Heap → Prop) (Bnd : Nat → (Str → Option Value) → Prop) (p : Nat → Bool) (R : Nat → List (Addr × Obj) → Value → Prop) (s₂ : Shared) : Prop where
  W : Src prog w A target I wr s₂.heap.objs.size n St Bnd fun C => compEnvC scope cl C env
  hsz : n ≤ sizeLine
  hst : St 0 s₂.heap
  tests : ∀ C i s₁ m, s₂.heap.objs.size ≤ C → i < n → Bnd i m → s₁.heap.Ns C m → (∀ b o, b ∉ wr → s₂.heap.get? b = some o → s₁.heap.get? b = some o) →
      wpAny (model prog w) A (forIn ifs true fun c r => if r = true then do let ok ← isTrue c (compEnvC scope cl C env) (eval c (compEnvC scope cl C env)); pure (ForInStep.yield ok) else pure (ForInStep.yield r))
        (fun ok s' => ok = p i ∧ Keeps s₁ s') NE s₁
  elts : ∀ C i s₁ m, s₂.heap.objs.size ≤ C → i < n → p i = true → Bnd i m → s₁.heap.Ns C m → (∀ b o, b ∉ wr → s₂.heap.get? b = some o → s₁.heap.get? b = some o) →
      wpAny (model prog w) A (eval elt (compEnvC scope cl C env)) (fun y s' => ∃ h' tk' l, s' = { s₁ with heap := h', toks := tk' } ∧ s₁.heap.StaysIn h' ∧ Fresh s₁.heap h' l ∧ R i l y) NE s₁
  mono : ∀ i l l' y, R i l y → (∀ q ∈ l, q ∈ l') → R i l' y

theorem comp_expr {elt target iter : Expr} {ifs : List Expr} {scope : Scope} {cl : List (Str × Addr)} {pos : Pos} {env : Env} {s : Shared} {Q : Value → Shared → Prop} {E : Value → Shared → Prop}
    (hclos : closureFor scope env = pure cl) (hcell : ∀ y ∈ scope.names, y.2 ≠ .cell) (hkind : scope.kind = .function) (hnames : ∀ y ∈ scope.names, y.2 = .local → scope.names.lookup y.1 = some .local)
    (h : wpAny (model prog w) A (eval iter env) (fun xv s₁ => wpAny (model prog w) A (pyIter xv) (fun it s₂ => ∃ I wr n St Bnd p R, it = .ref I ∧ CompAt prog w A env elt target ifs scope cl I wr n St Bnd p R s₂ ∧
      ∀ D h' tk ys l k, s₂.heap.get? D = none → h'.get? D = some (listOf ys k) → Fresh s₂.heap h' l → (∀ q ∈ l, q.1 ≠ D ∧ q.1 ∉ wr) →
        Paired (fun i y => R i l y) ((List.range n).filter p) ys.toList → (∀ b o, b ∉ wr → s₂.heap.get? b = some o → h'.get? b = some o) → Q (.ref D) { s₂ with heap := h', toks := tk }) E s₁) E s)
    (hs : ∀ x, foldedSetIterable iter env x = pure x) :
    wpAny (model prog w) A (eval (.ListComp elt [⟨target, iter, ifs, 0⟩] scope pos) env) Q E s := by
  rw [eval_ListComp]
  refine wpAny_comprehension_free (use := none) rfl hs hclos hkind hnames (wpAny_mono h (fun xv s₁ h₁ => wpAny_mono h₁ (fun it s₂ h₂ => ?_) fun _ _ e => e) fun _ _ e => e)
  obtain ⟨I, wr, n, St, Bnd, p, R, rfl, c, hQ⟩ := h₂
  refine comp_block (RR := fun acc C => compPost (model prog w) A E none Q acc C) c.W c.hsz hcell hkind c.hst c.tests c.elts c.mono ?_
  intro D C h' tk m' ys l k hD hC hDC hn hl hF hlD hP hk
  refine ⟨m', hn, fun h'' hs'' => hQ D h'' tk ys l k hD (hs''.extBut _ _ hDC hl) (fun q hq => ⟨hs''.extBut _ _ (hlD q hq).2.1 (hF q hq).1, (hF q hq).2⟩) (fun q hq => ⟨(hlD q hq).1, (hlD q hq).2.2⟩) hP fun b o hb e => ?_⟩
  exact hs''.extBut b o (by rintro rfl; rw [hC] at e; cases e) (hk b o hb e)

theorem comp_assign {elt target iter : Expr} {ifs : List Expr} {scope : Scope} {cl : List (Str × Addr)} {pos spos py : Pos} {y : Str} {env : Env} {s : Shared} {Q : Flow → Shared → Prop} {E : Value → Shared → Prop}
    (hsw : swapsWith (.ListComp elt [⟨target, iter, ifs, 0⟩] scope pos) (some (.Name y py)) spos.line env = pure true)
    (hclos : closureFor scope env = pure cl) (hcell : ∀ y ∈ scope.names, y.2 ≠ .cell) (hkind : scope.kind = .function) (hnames : ∀ y ∈ scope.names, y.2 = .local → scope.names.lookup y.1 = some .local)
    (hy : env.kindOf y = some .local) (hp : (env.scope.kind == .class || (env.scope.kind == .module && env.locals != env.globals)) = false)
    (h : wpAny (model prog w) A (eval iter env) (fun xv s₁ => wpAny (model prog w) A (pyIter xv) (fun it s₂ => ∃ I wr n St Bnd p R m, it = .ref I ∧ CompAt prog w A env elt target ifs scope cl I wr n St Bnd p R s₂ ∧ env.locals ∉ wr ∧ s₂.heap.Ns env.locals m ∧
      ∀ D h' tk ys l k, s₂.heap.get? D = none → h'.get? D = some (listOf ys k) → Fresh s₂.heap h' l → (∀ q ∈ l, q.1 ≠ D ∧ q.1 ∉ wr ∧ q.1 ≠ env.locals) →
        Paired (fun i y => R i l y) ((List.range n).filter p) ys.toList → h'.Ns env.locals (fun z => if z = y then some (.ref D) else m z) →
        (∀ b o, b ≠ env.locals → b ∉ wr → s₂.heap.get? b = some o → h'.get? b = some o) → Q .next { s₂ with heap := h', toks := tk }) E s₁) E s)
    (hs : ∀ x, foldedSetIterable iter env x = pure x) :
    wpAny (model prog w) A (exec (.Assign [.Name y py] (.ListComp elt [⟨target, iter, ifs, 0⟩] scope pos) spos) env) Q E s := by
  rw [exec_Assign_Name_used _ _ _ _ hsw]
  refine wpAny_bind (wpAny_standAt (wpAny_bind ?_))
  show wpAny _ A (do let _ ← comprehension (.ListComp elt [⟨target, iter, ifs, 0⟩] scope pos) scope env _ (newList []) false (eval iter env) (some (assign (.Name y py) env))) _ _ s
  refine wpAny_bind (wpAny_mono (wpAny_comprehension_free (use := some (assign (.Name y py) env)) (Q := fun _ s' => Q .next s') rfl hs hclos hkind hnames
    (wpAny_mono h (fun xv s₁ h₁ => wpAny_mono h₁ (fun it s₂ h₂ => ?_) fun _ _ e => e) fun _ _ e => e)) (fun _ s' hq => wpAny_pure (wpAny_pure hq)) fun _ _ e => e)
  obtain ⟨I, wr, n, St, Bnd, p, R, m, rfl, c, hLw, hn, hQ⟩ := h₂
  refine comp_block (RR := fun acc C => compPost (model prog w) A E (some (assign (.Name y py) env)) (fun _ s' => Q .next s') acc C) c.W c.hsz hcell hkind c.hst c.tests c.elts c.mono ?_
  intro D C h' tk m' ys l k hD hC hDC hnC hl hF hlD hP hk
  have hLC : env.locals ≠ C := by rintro rfl; obtain ⟨o, _, _, ho, _⟩ := hn; rw [hC] at ho; cases ho
  have hLD : env.locals ≠ D := by rintro rfl; obtain ⟨o, _, _, ho, _⟩ := hn; rw [hD] at ho; cases ho
  have hLl : ∀ q ∈ l, q.1 ≠ env.locals := fun q hq e => by obtain ⟨o, _, _, ho, _⟩ := hn; have := (hF q hq).2; rw [e, ho] at this; cases this
  show wpAny _ A (assign (.Name y py) env (.ref D)) _ _ _
  refine wpAny_assign_Name (wpAny_storeName_local hy (hn.at' fun o e => hk _ o hLw e) (fun h₂ hn₂ hs₂ => ?_) hp)
  refine ⟨m', hnC.sameBut hs₂ (Ne.symm hLC), fun h₃ hs₃ => ?_⟩
  refine hQ D h₃ _ ys l k hD (hs₃.extBut _ _ hDC (hs₂.extBut _ _ (Ne.symm hLD) hl)) (fun q hq => ⟨hs₃.extBut _ _ (hlD q hq).2.1 (hs₂.extBut _ _ (hLl q hq) (hF q hq).1), (hF q hq).2⟩) (fun q hq => ⟨(hlD q hq).1, (hlD q hq).2.2, hLl q hq⟩) hP (hn₂.sameBut hs₃ hLC) fun b o hbL hb e => ?_
  exact hs₃.extBut b o (by rintro rfl; rw [hC] at e; cases e) (hs₂.extBut b o hbL (hk b o hb e))

/-- a plain name as the target -/
theorem Src.of_walks {scope : Scope} {cl : List (Str × Addr)} {env : Env} {x : Str} {px : Pos} {I : Addr} {fp wr : List Addr} {z n : Nat} {P : Nat → Value → Prop} {St : Nat → Heap → Prop}
    (W : Walks prog w A I fp wr n P St) (hfp : ∀ b ∈ fp, b < z) (held : ∀ i h, St i h → ∀ b ∈ wr, ∃ o, h.get? b = some o) (hx : scope.names.lookup x = some .local) (hkind : scope.kind = .function) :
    Src prog w A (.Name x px) I wr z n St (fun i m => ∃ v, P i v ∧ m x = some v) fun C => compEnvC scope cl C env where
  below := fun b hb => hfp b (W.sub b hb)
  held := held
  frame := fun i h h' st hk => W.frame i h h' st fun b hb o e => hk b o (hfp b hb) e
  next := fun C i s₁ m Q1 hz hi st hn hQ => by
    have hCf : C ∉ fp := fun hm => Nat.lt_irrefl _ (Nat.lt_of_lt_of_le (hfp _ hm) hz)
    refine W.item i s₁ _ _ hi st fun v h' tk hP st' hk => ?_
    refine wpAny_pure (wpAny_assign_Name (wpAny_storeName_local (lookup_relabel_local hx) (hn.at' fun o e => hk _ o (fun hw => hCf (W.sub _ hw)) e) (fun h₂ hn₂ hs₂ => ?_) (by simp [compEnvC, relabel, hkind])))
    refine hQ h₂ _ _ (W.frame _ _ _ st' fun b hb o e => hs₂.extBut b o (fun q => hCf (by rw [← show b = C from q]; exact hb)) e) hn₂ ⟨v, hP, by simp⟩ fun b o hb hw e => hs₂.extBut b o hb (hk b o hw e)
  done := fun s₁ Q1 st hQ => W.done s₁ _ _ st fun h' tk hk => ⟨rfl, hQ h' tk hk⟩
  self := fun s₁ Q1 st hQ => W.self 0 s₁ _ _ st hQ

/-- a def with cells, entered over any heap -/
theorem enterC {E : Value → Shared → Prop} {s : Shared} {K : Frag} {Q : Value → Shared → Prop}
    {name qual : Str} {params : Arguments} {body : List Stmt} {scope : Scope} {dV kV doc pm cdv ct oc : Value} {an od : Option Addr} {osl : Array (Option Value)} {f : Addr} {args : List Value} {binds : List (Str × Value)}
    (X : K.In s.heap) (hlim : s.heap.NoLimit)
    (ho : K.lookup f = some ⟨oc, od, .func (fnOf name qual params body scope dV kV doc pm an cdv ct), osl⟩) (hcd : codeIn K cdv qual = true) (hroom : A.depth < recursionLimit)
    (hbind : bindArgs (fnOf name qual params body scope dV kV doc pm an cdv ct) ⟨args, []⟩ = pure binds)
    (hkind : (binds.all fun y => scope.names.lookup y.1 == some .local || scope.names.lookup y.1 == some .cell) = true)
    (h : ∀ s', InCallC s s.heap.objs.size (bindL (envOfC qual scope s.heap.objs.size f cdv).kindOf binds fun _ => none) (cellsFrom (s.heap.objs.size + 1) scope.names []) (bindC (envOfC qual scope s.heap.objs.size f cdv).kindOf binds fun _ => none) s' →
      wpAny (model prog w) (A.deeper (envOfC qual scope s.heap.objs.size f cdv)) (execs body (envOfC qual scope s.heap.objs.size f cdv)) (fun fl s' => Q (match fl with | .ret v => v | _ => .none) s') NE s')
    (hco : scope.isCoroutine = false) (hgen : scope.isGenerator = false) (hk : scope.kind = .function) : wpAny (model prog w) A (call (.ref f) args) Q E s := by
  refine wpAny_call (codeAny_call_cells (fd := fnOf name qual params body scope dV kV doc pm an cdv ct) (body := body) (binds := binds) hroom (X _ _ ho) rfl hlim (codeRec_of X hcd) rfl hbind rfl (kindsX hkind _) (fun s' hs' => ?_) hco hgen hk)
  exact wpAny_of_NE (h s' hs')

/-- names -/
theorem nm_local {M : Model} {E : Value → Shared → Prop} {s : Shared} {env : Env} {x : Str} {pos : Pos} {m : Str → Option Value} {v : Value} {Q : Value → Shared → Prop} (hn : s.heap.Ns env.locals m) (hv : m x = some v) (h : Q v s)
    (hk : env.scope.kind = .function) (hl : env.kindOf x = some .local) (hd : (x == ("__debug__" : Str)) = false) : wpAny M A (eval (.Name x pos) env) Q E s :=
  wpAny_Name (wpAny_loadName_local hk hl hn hv h) hd
theorem nm_cell {M : Model} {E : Value → Shared → Prop} {s : Shared} {env : Env} {x : Str} {pos : Pos} {c : Addr} {v : Value} {Q : Value → Shared → Prop} (hv : s.heap.IsCell c (some v)) (h : Q v s)
    (hk : env.scope.kind = .function) (hl : env.kindOf x = some .cell) (hc : env.cells.lookup x = some c) (hd : (x == ("__debug__" : Str)) = false) : wpAny M A (eval (.Name x pos) env) Q E s :=
  wpAny_Name (wpAny_loadName_cell hk hl hc hv h) hd
theorem nm_global {M : Model} {E : Value → Shared → Prop} {s : Shared} {env : Env} {x : Str} {pos : Pos} {K : Frag} {mg : Str → Option Value} {v : Value} {Q : Value → Shared → Prop} (X : K.In s.heap) (g : s.heap.Ns mainGlobals mg)
    (e : nsIn K mainGlobals x = some (some v)) (h : Q v s)
    (hg : env.globals = mainGlobals) (hk : env.scope.kind = .function) (hx : env.kindOf x = some .globalImplicit) (hd : (x == ("__debug__" : Str)) = false) : wpAny M A (eval (.Name x pos) env) Q E s :=
  Name_function_global hk hx (loadGlobal_global (env := env) (by rw [hg]; exact g) (mg_of X g e) h) hd

theorem item_list {E : Value → Shared → Prop} {s : Shared} {value slice : Expr} {l : Addr} {vs : Array Value} {k : Int} {u : Tok} {v : Value} {n : Nat} {Q : Value → Shared → Prop}
    (hl : s.heap.get? l = some (listOf vs n)) (h0 : 0 ≤ k) (hhi : k < 2 ^ 63) (hx : vs[k.toNat]? = some v) (h : Q v s)
    (hs : subscripted slice false (.ref l) (.int k u) = operate [.ref l, .int k u] (getItem (.ref l) (.int k u))) :
    wpAny (model prog w) A (subscriptTail value slice (.ref l) (.int k u)) Q E s :=
  have hl' : s.heap.IsList l vs := ⟨_, hl, rfl, _, rfl⟩
  tail_any hl'.typeIs slot_list_getitem.lookup (wpAny_getItem_list hl' h0 hhi hx h) hs
end
end Mine
end

section
open PySem PySem.W PySem.Calls PyProof.Rows
namespace Mine
set_option maxRecDepth 100000

section
variable {prog : Program} {w : World} {A : Around}

theorem assign_names2 {env : Env} {x y : Str} {px py : Pos} {v1 v2 : Value} {m : Str → Option Value} {s : Shared} {E : Value → Shared → Prop} {Q : Unit → Shared → Prop}
    (hn : s.heap.Ns env.locals m) (hx : env.kindOf x = some .local) (hy : env.kindOf y = some .local) (hp : (env.scope.kind == .class || (env.scope.kind == .module && env.locals != env.globals)) = false)
    (h : ∀ h' tk, h'.Ns env.locals (fun z => if z = y then some v2 else if z = x then some v1 else m z) → (∀ b o, b ≠ env.locals → s.heap.get? b = some o → h'.get? b = some o) → Q () { s with heap := h', toks := tk }) :
    wpAny (model prog w) A (assignInOrder ((assignEach [.Name x px, .Name y py] env).map (·.2)) [v1, v2]) Q E s := by
  show wpAny _ _ (assignInOrder [assign (.Name x px) env, assign (.Name y py) env] [v1, v2]) Q E s
  refine assignInOrder_cons ?_
  refine wpAny_assign_Name (wpAny_storeName_local hx hn (fun h₁ hn₁ hs₁ => ?_) hp)
  refine assignInOrder_cons ?_
  refine wpAny_assign_Name (wpAny_storeName_local hy hn₁ (fun h₂ hn₂ hs₂ => ?_) hp)
  refine assignInOrder_nil ?_
  exact h h₂ _ hn₂ fun b o hb e => hs₂.extBut b o hb (hs₁.extBut b o hb e)

theorem ext_all {h h' : Heap} (e : Heap.ExtBut h.objs.size h h') : h.StaysIn h' := fun b o x => e b o (Nat.ne_of_lt (Heap.lt_size x)) x

/-- a list of two, unpacked to two names -/
theorem assign_list2 {env : Env} {x y : Str} {px py pos : Pos} {k : Nat} {v1 v2 : Value} {l : Addr} {n : Nat} {m : Str → Option Value} {s : Shared} {E : Value → Shared → Prop} {Q : Unit → Shared → Prop}
    (hh : A.handled = none) (hl : s.heap.get? l = some (listOf #[v1, v2] n)) (hn : s.heap.Ns env.locals m) (hx : env.kindOf x = some .local) (hy : env.kindOf y = some .local)
    (hp : (env.scope.kind == .class || (env.scope.kind == .module && env.locals != env.globals)) = false)
    (h : ∀ h' tk, h'.Ns env.locals (fun z => if z = y then some v2 else if z = x then some v1 else m z) → (∀ b o, b ≠ env.locals → s.heap.get? b = some o → h'.get? b = some o) → Q () { s with heap := h', toks := tk }) :
    wpAny (model prog w) A (assign (.Tuple [.Name x px, .Name y py] k pos) env (.ref l)) Q E s := by
  rw [arm_assign_Tuple]
  refine wpAny_bind (wpAny_standAt ?_)
  have hl' : s.heap.IsList l #[v1, v2] := ⟨_, hl, rfl, _, rfl⟩
  unfold unpack
  refine wpAny_bind (wpAny_holding ?_)
  refine kun_itemsOf (items := #[v1, v2]) hh hl' fun h₁ he => ?_
  have hk := ext_all he
  exact assign_names2 (hn.keeps hk) hx hy hp fun h' tk hn' hk' => h h' tk hn' fun b o hb e => hk' b o hb (hk b o e)

/-- a tuple of two, unpacked to two names -/
theorem assign_tup2 {env : Env} {x y : Str} {px py pos : Pos} {k : Nat} {v1 v2 : Value} {l : Addr} {m : Str → Option Value} {s : Shared} {E : Value → Shared → Prop} {Q : Unit → Shared → Prop}
    (hh : A.handled = none) (hl : s.heap.IsTuple l #[v1, v2]) (hn : s.heap.Ns env.locals m) (hx : env.kindOf x = some .local) (hy : env.kindOf y = some .local)
    (hp : (env.scope.kind == .class || (env.scope.kind == .module && env.locals != env.globals)) = false)
    (h : ∀ h' tk, h'.Ns env.locals (fun z => if z = y then some v2 else if z = x then some v1 else m z) → (∀ b o, b ≠ env.locals → s.heap.get? b = some o → h'.get? b = some o) → Q () { s with heap := h', toks := tk }) :
    wpAny (model prog w) A (assign (.Tuple [.Name x px, .Name y py] k pos) env (.ref l)) Q E s := by
  refine wpAny_assign_Tuple hh hl rfl rfl fun h₁ he => ?_
  have hk := ext_all he
  exact assign_names2 (hn.keeps hk) hx hy hp fun h' tk hn' hk' => h h' tk hn' fun b o hb e => hk' b o hb (hk b o e)

/-- two names as the target, over a list of lists of two -/
theorem Src.pairs {scope : Scope} {cl : List (Str × Addr)} {env : Env} {x y : Str} {px py pos : Pos} {k0 : Nat} {I l : Addr} {z : Nat} {items : Array Value} {f1 f2 : Nat → Value} {bs : Nat → Addr} {ks : Nat → Nat}
    (hh : A.handled = none) (hne : l ≠ I) (hI : I < z) (hl : l < z) (hb : ∀ i, i < items.size → bs i < z ∧ bs i ≠ I) (hit : ∀ i, i < items.size → items[i]? = some (.ref (bs i)))
    (hx : scope.names.lookup x = some .local) (hy : scope.names.lookup y = some .local) (hxy : x ≠ y) (hkind : scope.kind = .function) :
    Src prog w A (.Tuple [.Name x px, .Name y py] k0 pos) I [I] z items.size (fun i h => h.IsListIter I l i ∧ h.IsList l items ∧ ∀ j, j < items.size → h.get? (bs j) = some (listOf #[f1 j, f2 j] (ks j)))
      (fun i m => m x = some (f1 i) ∧ m y = some (f2 i)) fun C => compEnvC scope cl C env where
  below := fun b hb => by rw [List.mem_singleton.mp hb]; exact hI
  held := fun i h st b hb => by rw [List.mem_singleton.mp hb]; obtain ⟨o, ho, _⟩ := st.1; exact ⟨o, ho⟩
  frame := fun i h h' st hk => ⟨st.1.at fun o e => hk I o hI e, st.2.1.at fun o e => hk l o hl e, fun j hj => hk _ _ (hb j hj).1 (st.2.2 j hj)⟩
  next := fun C i s₁ m Q1 hz hi st hn hQ => by
    have hIC : I ≠ C := Nat.ne_of_lt (Nat.lt_of_lt_of_le hI hz)
    have hlC : l ≠ C := Nat.ne_of_lt (Nat.lt_of_lt_of_le hl hz)
    refine wpAny_pyNext_list_item st.1 st.2.1 (hit i hi) fun h' hit' hs' => ?_
    have up : ∀ j, j < items.size → h'.get? (bs j) = some (listOf #[f1 j, f2 j] (ks j)) := fun j hj => hs'.extBut _ _ (hb j hj).2 (st.2.2 j hj)
    refine wpAny_letOwnedTupleGo_listiter hit' ?_
    refine assign_list2 (env := compEnvC scope cl C env) hh (up i hi) (hn.sameBut hs' (Ne.symm hIC)) (lookup_relabel_local hx) (lookup_relabel_local hy) (by simp [compEnvC, relabel, hkind]) fun h₂ tk hn₂ hk₂ => ?_
    refine hQ h₂ tk _ ⟨hit'.at fun o e => hk₂ I o hIC e, (st.2.1.extBut hs'.extBut hne).at fun o e => hk₂ l o hlC e, fun j hj => hk₂ _ _ (Nat.ne_of_lt (Nat.lt_of_lt_of_le (hb j hj).1 hz)) (up j hj)⟩ hn₂ ?_
      fun b o hb hw e => hk₂ b o hb (hs'.extBut b o (fun q => hw (by rw [q]; exact .head _)) e)
    simp [hxy]
  done := fun s₁ Q1 st hQ => wpAny_pyNext_list_end hh st.1 st.2.1 (by simp) fun h' he' => ⟨rfl, hQ h' s₁.toks fun b o hb e => he' b o (fun q => hb (by rw [q]; exact .head _)) e⟩
  self := fun s₁ Q1 st hQ => wpAny_pyIter_listiter st.1 hQ
end

/-- a deed: for each state the state that it leads to and what it adds -/
abbrev Deed := List (Int × Str)
def dPair (p : Int × Str) : Dat := .list [.int p.1, .str p.2]
def dDeed (D : Deed) : Dat := .list (D.map dPair)
def atD (D : Deed) (i : Int) : Int × Str := D.getD i.toNat (0, "")
def thenD (D1 D2 : Deed) : Deed := D1.map fun p => ((atD D2 p.1).1, p.2 ++ (atD D2 p.1).2)

/-- a pair in the heap -/
theorem HD.pair {h : Heap} {v : Value} {p : Int × Str} (x : HD h v (dPair p)) : ∃ a n t u, v = .ref a ∧ h.get? a = some (listOf #[.int p.1 t, .str p.2 u] n) := by
  obtain ⟨a, vs, n, rfl, e, y⟩ := HD.list x
  match vs, y with
  | [], y => exact absurd y.length (by simp)
  | [_], y => exact absurd y.length (by simp)
  | _ :: _ :: _ :: _, y => exact absurd y.length (by simp)
  | [v1, v2], y =>
    obtain ⟨y1, y2⟩ := y.head
    obtain ⟨y2, _⟩ := y2.head
    obtain ⟨_, _, y1⟩ := y1
    obtain ⟨_, _, y2⟩ := y2
    cases y1; cases y2
    exact ⟨a, n, _, _, rfl, e⟩

end Mine
end

section
open PySem PySem.W PySem.Calls PyProof.Rows
namespace Mine
set_option maxRecDepth 100000

theorem HDs.pairs {h : Heap} {vs : List Value} {D : Deed} (x : HDs h vs (D.map dPair)) :
    ∃ q : Nat → Addr × Nat × Tok × Tok, ∀ i, i < D.length → vs[i]? = some (.ref (q i).1) ∧ h.get? (q i).1 = some (listOf #[.int (D.getD i (0, "")).1 (q i).2.2.1, .str (D.getD i (0, "")).2 (q i).2.2.2] (q i).2.1) := by
  have : ∀ i, ∃ q : Addr × Nat × Tok × Tok, i < D.length → vs[i]? = some (.ref q.1) ∧ h.get? q.1 = some (listOf #[.int (D.getD i (0, "")).1 q.2.2.1, .str (D.getD i (0, "")).2 q.2.2.2] q.2.1) := by
    intro i
    by_cases hi : i < D.length
    · obtain ⟨v, e, y⟩ := x.get (k := i) (d := dPair (D.getD i (0, ""))) (by simp [hi])
      obtain ⟨a, n, t, u, rfl, g⟩ := y.pair
      exact ⟨(a, n, t, u), fun _ => ⟨e, g⟩⟩
    · exact ⟨default, fun q => absurd q hi⟩
  exact Classical.axiomOfChoice this

theorem getD_mem {D : Deed} {i : Nat} (hi : i < D.length) : D.getD i (0, "") ∈ D := by
  rw [List.getD_eq_getElem?_getD, List.getElem?_eq_getElem hi]; exact List.getElem_mem hi

theorem datAll_of {l : List (Addr × Obj)} {f : Nat → Dat} : ∀ {is : List Nat} {ys : List Value}, Paired (fun i y => DatIn l y (f i)) is ys → DatAll l ys (is.map f)
  | _, _, .nil => .nil
  | _, _, .cons h t => .cons h (datAll_of t)
theorem filter_true (n : Nat) : (List.range n).filter (fun _ => true) = List.range n := List.filter_eq_self.mpr fun _ _ => rfl
theorem map_range {α β : Type} (D : List α) (d : α) (f : α → β) : (List.range D.length).map (fun i => f (D.getD i d)) = D.map f := by
  apply List.ext_getElem
  · simp
  · intro i h1 h2
    simp at h1 h2
    simp [h1]

/-- what a comprehension hands back, as new data -/
theorem comp_fresh {g g2 h' : Heap} {D : Addr} {ys : Array Value} {k : Nat} {l : List (Addr × Obj)} {f : Nat → Dat} {is : List Nat} (old : g.StaysIn g2 ∨ ∀ b, g2.get? b = none → g.get? b = none)
    (hD : g2.get? D = none) (hl : h'.get? D = some (listOf ys k)) (hF : Fresh g2 h' l) (hP : Paired (fun i y => DatIn l y (f i)) is ys.toList) :
    Fresh g h' ((D, listOf ys k) :: l) ∧ DatIn ((D, listOf ys k) :: l) (.ref D) (.list (is.map f)) := by
  have nn : ∀ b, g2.get? b = none → g.get? b = none := by
    rcases old with o | o
    · intro b e
      cases x : g.get? b with
      | none => rfl
      | some ob => rw [o b ob x] at e; cases e
    · exact o
  constructor
  · intro q hq
    rcases List.mem_cons.mp hq with rfl | hq
    · exact ⟨hl, nn _ hD⟩
    · exact ⟨(hF q hq).1, nn _ (hF q hq).2⟩
  · have := datAll_of hP
    exact DatIn.list (vs := ys.toList) (n := k) (by simp) (this.mono fun q hq => .tail _ hq)

theorem elt_pair {s₁ s' : Shared} {i : Int} {t : Tok} {x : Str} {u : Tok} (hh : s'.heap = s₁.heap.push (listOf #[.int i t, .str x u] 0)) (hg : s' = { s₁ with heap := s'.heap, toks := s'.toks }) :
    ∃ h' tk' l, s' = { s₁ with heap := h', toks := tk' } ∧ s₁.heap.StaysIn h' ∧ Fresh s₁.heap h' l ∧ DatIn l (.ref s₁.heap.objs.size) (dPair (i, x)) := by
  refine ⟨s'.heap, s'.toks, [(s₁.heap.objs.size, listOf #[.int i t, .str x u] 0)], hg, ?_, ?_, ?_⟩
  · rw [hh]; exact fun b o e => Heap.get?_push_of_some _ e
  · intro q hq
    rw [List.mem_singleton.mp hq, hh]
    exact ⟨Heap.get?_push_size _ rfl, fresh_none (Nat.le_refl _)⟩
  · exact DatIn.list (vs := [.int i t, .str x u]) (.head _) (.cons (.int _ _) (.cons (.str _ _) .nil))

theorem then_spec {prog : Program} {w : World} {A : Around} {E : Value → Shared → Prop} {s : Shared} {Q : Value → Shared → Prop} {v1 v2 : Value} {D1 D2 : Deed}
    (X : (KF w).In s.heap) (hlim : s.heap.NoLimit) (hh : A.handled = none) (hroom : A.depth < recursionLimit)
    (h1 : HD s.heap v1 (dDeed D1)) (h2 : HD s.heap v2 (dDeed D2)) (hr : ∀ p ∈ D1, 0 ≤ p.1 ∧ p.1.toNat < D2.length) (hz1 : D1.length ≤ 100) (hz2 : D2.length ≤ 100) (hs1 : ∀ p ∈ D1, p.2.length ≤ 1000) (hs2 : ∀ p ∈ D2, p.2.length ≤ 1000)
    (h : ∀ r h' tk l, s.heap.StaysIn h' → Fresh s.heap h' l → DatIn l r (dDeed (thenD D1 D2)) → Q r { s with heap := h', toks := tk }) :
    wpAny (model prog w) A (call (.ref 67) [v1, v2]) Q E s := by
  obtain ⟨a1, vs1, n1, rfl, e1, y1⟩ := HD.list h1
  obtain ⟨a2, vs2, n2, rfl, e2, y2⟩ := HD.list h2
  have hl1 : vs1.length = D1.length := by simpa using y1.length
  have hl2 : vs2.length = D2.length := by simpa using y2.length
  obtain ⟨q1, hq1⟩ := y1.pairs
  obtain ⟨q2, hq2⟩ := y2.pairs
  refine enterC X hlim (by exact rfl) (by rfl) hroom rfl rfl ?_ rfl rfl rfl
  intro s₁ hC
  obtain ⟨h₁, tk₁, rfl, hk₁⟩ := hC.done
  have hn := hC.toInCall.ns
  have hcell : h₁.IsCell (s.heap.objs.size + 1) (some (.ref a2)) := hC.cell (Str.ofString "two") _ rfl
  refine wpAny_execs_cons (wpAny_Return_some (comp_expr (cl := [(Str.ofString "two", s.heap.objs.size + 1)]) (by with_unfolding_all rfl) (by decide) rfl (by decide) ?_ (by intro _; rfl)))
  refine nm_local hn (v := .ref a1) rfl ?_ rfl rfl (by decide)
  have hL1 : h₁.IsList a1 vs1.toArray := ⟨_, hk₁ _ _ e1, rfl, _, rfl⟩
  refine wpAny_pyIter_list hL1 ?_
  have hI : a1 ≠ h₁.objs.size := Nat.ne_of_lt (Heap.lt_size (hk₁ _ _ e1))
  have lt1 : ∀ b o, s.heap.get? b = some o → b < (h₁.push { cls := .type "list_iterator", data := .fields #[.ref a1, .int 0 0] }).objs.size ∧ b ≠ h₁.objs.size := fun b o e => by
    have := Heap.lt_size (hk₁ b o e)
    rw [Heap.size_push]
    exact ⟨Nat.lt_succ_of_lt this, Nat.ne_of_lt this⟩
  refine ⟨h₁.objs.size, [h₁.objs.size], vs1.toArray.size, _, _, fun _ => true, fun i l y => DatIn l y (dPair ((atD D2 (D1.getD i (0, "")).1).1, (D1.getD i (0, "")).2 ++ (atD D2 (D1.getD i (0, "")).1).2)), rfl,
    ⟨Src.pairs (l := a1) (items := vs1.toArray) (f1 := fun i => .int (D1.getD i (0, "")).1 (q1 i).2.2.1) (f2 := fun i => .str (D1.getD i (0, "")).2 (q1 i).2.2.2) (bs := fun i => (q1 i).1) (ks := fun i => (q1 i).2.1)
      (x := Str.ofString "state") (y := Str.ofString "text") hh hI (by rw [Heap.size_push]; exact Nat.lt_succ_self _) (lt1 _ _ e1).1 ?_ ?_ rfl rfl (by decide) rfl, ?_, ?_, ?_, ?_, ?_⟩, ?_⟩
  · intro i hi
    exact lt1 _ _ (hq1 i (by simpa [hl1] using hi)).2
  · intro i hi
    simpa using (hq1 i (by simpa [hl1] using hi)).1
  · rw [sizeLine_eq]; simp; omega
  · refine ⟨⟨_, Heap.get?_push_size _ rfl, rfl, rfl⟩, hL1.push _, fun j hj => Heap.get?_push_of_some _ (hk₁ _ _ (hq1 j (by simpa [hl1] using hj)).2)⟩
  · intro C i s₁ m _ _ _ _ _
    exact wpAny_tests_nil ⟨rfl, s₁.heap, s₁.toks, rfl, fun _ _ e => e⟩
  · rintro C i s₁ m hC9 hi _ ⟨hm1, hm2⟩ hn9 hk9
    have up : ∀ b o, s.heap.get? b = some o → s₁.heap.get? b = some o := fun b o e => hk9 b o (fun q => (lt1 b o e).2 (List.mem_singleton.mp q)) (Heap.get?_push_of_some _ (hk₁ b o e))
    have hcell9 : s₁.heap.IsCell (s.heap.objs.size + 1) (some (.ref a2)) := by
      obtain ⟨oc, ho, hd⟩ := hcell
      exact ⟨oc, hk9 _ _ (fun q => absurd (Heap.lt_size ho) (by rw [List.mem_singleton.mp q]; exact Nat.lt_irrefl _)) (Heap.get?_push_of_some _ ho), hd⟩
    have hi' : i < D1.length := by simpa [hl1] using hi
    have hp := hr _ (getD_mem hi')
    have hj := hq2 (D1.getD i (0, "")).1.toNat hp.2
    have hlt : (D1.getD i (0, "")).1 < 2 ^ 63 := by have := hp.1; have := hp.2; omega
    refine wpAny_List_spliced ?_
    refine spliced_cons ?_
    refine Subscript_ ?_
    refine Subscript_ ?_
    refine nm_cell hcell9 ?_ rfl rfl rfl (by decide)
    refine nm_local hn9 hm1 ?_ rfl rfl (by decide)
    refine item_list (up _ _ e2) hp.1 hlt (v := .ref (q2 (D1.getD i (0, "")).1.toNat).1) (by simpa using hj.1) ?_ (by with_unfolding_all rfl)
    refine wpAny_Constant_int ?_
    refine item_list (up _ _ hj.2) (by decide) (by decide) rfl ?_ (by with_unfolding_all rfl)
    refine spliced_cons ?_
    refine wpAny_BinOp ?_
    refine nm_local hn9 hm2 ?_ rfl rfl (by decide)
    refine Subscript_ ?_
    refine Subscript_ ?_
    refine nm_cell hcell9 ?_ rfl rfl rfl (by decide)
    refine nm_local hn9 hm1 ?_ rfl rfl (by decide)
    refine item_list (up _ _ e2) hp.1 hlt (v := .ref (q2 (D1.getD i (0, "")).1.toNat).1) (by simpa using hj.1) ?_ (by with_unfolding_all rfl)
    refine wpAny_Constant_int ?_
    refine item_list (up _ _ hj.2) (by decide) (by decide) rfl ?_ (by with_unfolding_all rfl)
    have z1 := hs1 _ (getD_mem hi')
    have z2 := hs2 _ (getD_mem hp.2)
    refine PyProof.Rows.add_str (fun t' tk' => ?_) (by rw [sizeLine_eq]; omega)
    refine spliced_nil ?_
    refine ⟨by rw [sizeLine_eq]; exact Nat.le_of_ble_eq_true rfl, ?_⟩
    exact elt_pair rfl rfl
  · intro i l l' y hR hs
    exact hR.mono hs
  · intro D h' tk ys l k hD hl hF hlD hP hk
    rw [filter_true] at hP
    have st : s.heap.StaysIn (h₁.push { cls := .type "list_iterator", data := .fields #[.ref a1, .int 0 0] }) := fun b o e => Heap.get?_push_of_some _ (hk₁ b o e)
    obtain ⟨f1, f2⟩ := comp_fresh (g := s.heap) (f := fun i => dPair ((atD D2 (D1.getD i (0, "")).1).1, (D1.getD i (0, "")).2 ++ (atD D2 (D1.getD i (0, "")).1).2)) (.inl st) hD hl hF hP
    refine h _ h' tk _ (fun b o e => hk b o (fun q => (lt1 b o e).2 (List.mem_singleton.mp q)) (st b o e)) f1 ?_
    rw [show vs1.toArray.size = D1.length from by simp [hl1], map_range D1 (0, "") (fun p => dPair ((atD D2 p.1).1, p.2 ++ (atD D2 p.1).2))] at f2
    simpa [dDeed, thenD, Function.comp_def] using f2
end Mine
end

section
open PySem PySem.W PySem.Calls PyProof.Rows
namespace Mine
set_option maxRecDepth 100000

section
variable {prog : Program} {w : World} {A : Around}

/-- what a for-loop wants, once its iterator stands: T says what holds between the turns, of the frame's map and of a ledger of data that are new against g -/
structure LoopT (prog : Program) (w : World) (A : Around) (env : Env) (x : Str) (body : List Stmt) (g : Heap) (I : Addr) (fp wr : List Addr) (n : Nat) (P : Nat → Value → Prop) (St : Nat → Heap → Prop)
    (T : Nat → (Str → Option Value) → List (Addr × Obj) → Prop) (Q : Flow → Shared → Prop) (s₂ : Shared) : Prop where
  W : Walks prog w A I fp wr n P St
  hLf : env.locals ∉ fp
  hwr : ∀ b ∈ wr, g.get? b = none
  held : ∀ i h, St i h → ∀ b ∈ wr, ∃ o, h.get? b = some o
  hst : St 0 s₂.heap
  hgL : g.get? env.locals = none
  hg : g.StaysIn s₂.heap
  start : ∃ m l, s₂.heap.Ns env.locals m ∧ Fresh g s₂.heap l ∧ (∀ q ∈ l, q.1 ≠ env.locals ∧ q.1 ∉ wr) ∧ T 0 m l
  step : ∀ i v m₁ l₁ h₁ tk, i < n → P i v → T i m₁ l₁ → g.StaysIn h₁ → Fresh g h₁ l₁ → (∀ q ∈ l₁, q.1 ≠ env.locals) → (∀ b o, b ∉ wr → b ≠ env.locals → s₂.heap.get? b = some o → h₁.get? b = some o) → h₁.Ns env.locals (fun y => if y = x then some v else m₁ y) →
    wpAny (model prog w) A (execs body env) (fun f s' => match f with
      | .next | .cont => ∃ h' tk' m' l', s' = { s₂ with heap := h', toks := tk' } ∧ (∀ b o, b ≠ env.locals → h₁.get? b = some o → h'.get? b = some o) ∧ h'.Ns env.locals m' ∧
          (∀ q ∈ l', h'.get? q.1 = some q.2 ∧ (q ∈ l₁ ∨ h₁.get? q.1 = none)) ∧ T (i + 1) m' l'
      | .brk => Q .next s'
      | .ret v => Q (.ret v) s') NE { s₂ with heap := h₁, toks := tk }
  done : ∀ m' l' h' tk, T n m' l' → g.StaysIn h' → Fresh g h' l' → h'.Ns env.locals m' → (∀ q ∈ l', q.1 ≠ env.locals) → (∀ b o, b ∉ wr → b ≠ env.locals → s₂.heap.get? b = some o → h'.get? b = some o) → Q .next { s₂ with heap := h', toks := tk }

def FInv (env : Env) (g : Heap) (wr : List Addr) (n : Nat) (St : Nat → Heap → Prop) (T : Nat → (Str → Option Value) → List (Addr × Obj) → Prop) (s₂ : Shared) (k : Nat) (s' : Shared) : Prop :=
  ∃ h' tk m' l' i, s' = { s₂ with heap := h', toks := tk } ∧ St i h' ∧ h'.Ns env.locals m' ∧ g.StaysIn h' ∧ Fresh g h' l' ∧ (∀ q ∈ l', q.1 ≠ env.locals ∧ q.1 ∉ wr) ∧ T i m' l' ∧ i ≤ n ∧ k = n + 1 - i ∧
    (∀ b o, b ∉ wr → b ≠ env.locals → s₂.heap.get? b = some o → h'.get? b = some o)

theorem for_T {env : Env} {x : Str} {px pos : Pos} {iter : Expr} {body : List Stmt} {g : Heap} {Q : Flow → Shared → Prop} {E : Value → Shared → Prop} {s : Shared}
    (hx : env.kindOf x = some .local) (hp : (env.scope.kind == .class || (env.scope.kind == .module && env.locals != env.globals)) = false)
    (h : wpAny (model prog w) A (eval iter env) (fun xv s₁ => wpAny (model prog w) A (pyIter xv) (fun it s₂ => ∃ I fp wr n P St T, it = .ref I ∧ LoopT prog w A env x body g I fp wr n P St T Q s₂) E s₁) E s)
    (hs : ∀ x, foldedSetIterable iter env x = pure x) :
    wpAny (model prog w) A (exec (.For (.Name x px) iter body [] pos) env) Q E s := by
  refine wpAny_For (wpAny_mono h (fun xv s₁ h₁ => wpAny_mono h₁ (fun it s₂ h₂ => ?_) fun _ _ e => e) fun _ _ e => e) hs
  obtain ⟨I, fp, wr, n, P, St, T, rfl, c⟩ := h₂
  have hLw : env.locals ∉ wr := fun h => c.hLf (c.W.sub _ h)
  obtain ⟨m, l, hn, hl, hlD, hT⟩ := c.start
  refine codeAny_forLoop (FInv env g wr n St T s₂) ?_ (n + 1) ⟨s₂.heap, s₂.toks, m, l, 0, rfl, c.hst, hn, c.hg, hl, hlD, hT, Nat.zero_le _, rfl, fun _ _ _ _ e => e⟩
  rintro k s' ⟨H, tk, m', l', i, rfl, hst', hn', hg', hl', hlD', hT', hi, rfl, hk'⟩
  by_cases hlt : i < n
  · refine c.W.item i _ _ _ hlt hst' fun v h₁ tk₁ hP hst₁ hk₁ => ?_
    refine wpAny_assign_Name (wpAny_storeName_local hx (hn'.at' fun o e => hk₁ _ o hLw e) (fun h₂ hn₂ hs₂ => ?_) hp)
    have up : ∀ b o, b ∉ wr → b ≠ env.locals → H.get? b = some o → h₂.get? b = some o := fun b o hb hL e => hs₂.extBut b o hL (hk₁ b o hb e)
    have hst₂ : St (i + 1) h₂ := c.W.frame _ _ _ hst₁ fun b hb o e => hs₂.extBut b o (fun q => c.hLf (q ▸ hb)) e
    have hg₂ : g.StaysIn h₂ := fun b o e => up b o (fun hw => by rw [c.hwr b hw] at e; cases e) (fun q => by rw [q, c.hgL] at e; cases e) (hg' b o e)
    have hl₂ : Fresh g h₂ l' := fun q hq => ⟨up _ _ (hlD' q hq).2 (hlD' q hq).1 (hl' q hq).1, (hl' q hq).2⟩
    refine wpAny_mono (c.step i v m' l' h₂ _ hlt hP hT' hg₂ hl₂ (fun q hq => (hlD' q hq).1) (fun b o hb hL e => up b o hb hL (hk' b o hb hL e)) hn₂) (fun f s₃ h₃ => ?_) fun _ _ e => e.elim
    have fin : (∃ h' tk' m' l'', s₃ = { s₂ with heap := h', toks := tk' } ∧ (∀ b o, b ≠ env.locals → h₂.get? b = some o → h'.get? b = some o) ∧ h'.Ns env.locals m' ∧
          (∀ q ∈ l'', h'.get? q.1 = some q.2 ∧ (q ∈ l' ∨ h₂.get? q.1 = none)) ∧ T (i + 1) m' l'') → ∃ m, m < n + 1 - i ∧ FInv env g wr n St T s₂ m s₃ := by
      rintro ⟨h₃', tk₃, m₃, l₃, rfl, hk₃, hn₃, hl₃, hT₃⟩
      refine ⟨n + 1 - (i + 1), by omega, h₃', tk₃, m₃, l₃, i + 1, rfl, ?_, hn₃, ?_, ?_, ?_, hT₃, hlt, rfl, ?_⟩
      · exact c.W.frame _ _ _ hst₂ fun b hb o e => hk₃ b o (fun q => c.hLf (q ▸ hb)) e
      · exact fun b o e => hk₃ b o (fun q => by rw [q, c.hgL] at e; cases e) (hg₂ b o e)
      · intro q hq
        refine ⟨(hl₃ q hq).1, ?_⟩
        rcases (hl₃ q hq).2 with h | h
        · exact (hl' q h).2
        · cases e : g.get? q.1 with
          | none => rfl
          | some o => rw [hg₂ _ _ e] at h; cases h
      · intro q hq
        rcases (hl₃ q hq).2 with h | h
        · exact hlD' q h
        · refine ⟨fun e => ?_, fun hw => ?_⟩
          · obtain ⟨o, _, _, ho, _⟩ := hn₂
            rw [e, ho] at h; cases h
          · obtain ⟨o, ho⟩ := c.held _ _ hst₂ _ hw
            rw [ho] at h; cases h
      · exact fun b o hb hL e => hk₃ b o hL (up b o hb hL (hk' b o hb hL e))
    cases f with
    | ret v => exact h₃
    | brk => exact h₃
    | cont => exact fin h₃
    | next => exact fin h₃
  · have hin : i = n := by omega
    subst hin
    refine c.W.done _ _ _ hst' fun h₁ tk₁ hk₁ => wpAny_execs_nil ?_
    refine c.done m' l' h₁ tk₁ hT' (fun b o e => hk₁ b o (fun hw => by rw [c.hwr b hw] at e; cases e) (hg' b o e)) (fun q hq => ⟨hk₁ _ _ (hlD' q hq).2 (hl' q hq).1, (hl' q hq).2⟩) (hn'.at' fun o e => hk₁ _ o hLw e) (fun q hq => (hlD' q hq).1) fun b o hb hL e => hk₁ b o hb (hk' b o hb hL e)

/-- a text's signs -/
theorem pyIter_str {E : Value → Shared → Prop} {s : Shared} {x : Str} {t : Tok} {Q : Value → Shared → Prop}
    (hQ : ∀ (o : Obj) (St : Nat → Heap → Prop), (∀ A' : Around, A'.handled = none → Walks prog w A' s.heap.objs.size [s.heap.objs.size] [s.heap.objs.size] x.cps.size (SignAt x) St) →
      (∀ i h, St i h → ∃ o, h.get? s.heap.objs.size = some o) → St 0 (s.heap.push o) → Q (.ref s.heap.objs.size) { s with heap := s.heap.push o }) : wpAny (model prog w) A (pyIter (.str x t)) Q E s := by
  cases ha : x.cps.all (· < 128)
  · exact wpAny_pyIter_wide ha (hQ _ _ (fun A' hA => Walks.strWide hA _ x t) (fun i h st => let ⟨o, ho, _⟩ := st; ⟨o, ho⟩) ⟨_, Heap.get?_push_size _ rfl, rfl, rfl⟩)
  · exact wpAny_pyIter_ascii ha (hQ _ _ (fun A' hA => Walks.strAscii hA _ x t) (fun i h st => let ⟨o, ho, _⟩ := st; ⟨o, ho⟩) ⟨_, Heap.get?_push_size _ rfl, rfl, rfl⟩)

/-- an expression that makes nothing, over h and what extends it -/
def Gives (prog : Program) (w : World) (A : Around) (env : Env) (h : Heap) (e : Expr) (mk : Tok → Value) : Prop :=
  ∀ (s : Shared) (Q E : Value → Shared → Prop), h.StaysIn s.heap → (∀ t tk, Q (mk t) { s with toks := tk }) → wpAny (model prog w) A (eval e env) Q E s
theorem Gives.int {env : Env} {h : Heap} (i : Int) (k : Nat) (pos : Pos) : Gives prog w A env h (.Constant (.int i) k pos) (fun t => .int i t) := fun _ _ _ _ q => wpAny_Constant_int (q _ _)
theorem Gives.str {env : Env} {h : Heap} (x : Str) (k : Nat) (pos : Pos) : Gives prog w A env h (.Constant (.str x) k pos) (fun t => .str x t) := fun _ _ _ _ q => Constant_str (q _ _)
theorem Gives.local {env : Env} {h : Heap} {x : Str} {pos : Pos} {m : Str → Option Value} {v : Value} (hn : h.Ns env.locals m) (hv : m x = some v)
    (hk : env.scope.kind = .function) (hl : env.kindOf x = some .local) (hd : (x == ("__debug__" : Str)) = false) : Gives prog w A env h (.Name x pos) (fun _ => v) :=
  fun s _ _ st q => nm_local (hn.keeps st) hv (q 0 s.toks) hk hl hd

/-- [a, b], an int and a text -/
theorem disp_pair {env : Env} {s : Shared} {Q E : Value → Shared → Prop} {h : Heap} {a b : Expr} {pos : Pos} {i : Int} {x : Str} {mi ms : Tok → Value} (st : h.StaysIn s.heap) (ga : Gives prog w A env h a mi) (gb : Gives prog w A env h b ms)
    (hi : ∀ t, ∃ u, mi t = .int i u) (hx : ∀ t, ∃ u, ms t = .str x u)
    (he : starEach [a, b] env = [(false, eval a env), (false, eval b env)])
    (hQ : ∀ r h' tk l, s.heap.StaysIn h' → Fresh s.heap h' l → DatIn l r (dPair (i, x)) → Q r { s with heap := h', toks := tk }) : wpAny (model prog w) A (eval (.List [a, b] pos) env) Q E s := by
  refine wpAny_List_spliced ?_
  rw [he]
  refine spliced_cons (ga _ _ _ st fun t tk => ?_)
  refine spliced_cons (gb _ _ _ st fun t' tk' => ?_)
  refine spliced_nil ⟨by rw [sizeLine_eq]; exact Nat.le_of_ble_eq_true rfl, ?_⟩
  obtain ⟨u, e1⟩ := hi t
  obtain ⟨u', e2⟩ := hx t'
  rw [e1, e2]
  obtain ⟨h', tk9, l, e, a1, a2, a3⟩ := elt_pair (s₁ := s) (s' := { s with heap := s.heap.push (listOf #[.int i u, .str x u'] 0), toks := tk' }) rfl rfl
  have := hQ _ h' tk9 l a1 a2 a3
  rw [← e] at this
  exact this

theorem Fresh.later {g g' h h' : Heap} {l : List (Addr × Obj)} (f : Fresh g' h l) (a : g.StaysIn g') (b : h.StaysIn h') : Fresh g h' l := fun q hq => by
  refine ⟨b _ _ (f q hq).1, ?_⟩
  cases e : g.get? q.1 with
  | none => rfl
  | some o => have := (f q hq).2; rw [a _ _ e] at this; cases this
theorem StaysIn.refl (h : Heap) : h.StaysIn h := fun _ _ e => e
theorem StaysIn.trans {a b c : Heap} (x : a.StaysIn b) (y : b.StaysIn c) : a.StaysIn c := fun _ _ e => y _ _ (x _ _ e)
theorem Fresh.append {g h : Heap} {l l' : List (Addr × Obj)} (a : Fresh g h l) (b : Fresh g h l') : Fresh g h (l ++ l') := fun q hq => (List.mem_append.mp hq).elim (a q) (b q)

/-- [[a1, b1], [a2, b2], [a3, b3]] -/
theorem disp_deed {env : Env} {s : Shared} {Q E : Value → Shared → Prop} {h : Heap} {a1 b1 a2 b2 a3 b3 : Expr} {p1 p2 p3 pos : Pos} {i1 i2 i3 : Int} {x1 x2 x3 : Str} {mi1 ms1 mi2 ms2 mi3 ms3 : Tok → Value} (st : h.StaysIn s.heap)
    (ga1 : Gives prog w A env h a1 mi1) (gb1 : Gives prog w A env h b1 ms1) (ga2 : Gives prog w A env h a2 mi2) (gb2 : Gives prog w A env h b2 ms2) (ga3 : Gives prog w A env h a3 mi3) (gb3 : Gives prog w A env h b3 ms3)
    (hi1 : ∀ t, ∃ u, mi1 t = .int i1 u) (hx1 : ∀ t, ∃ u, ms1 t = .str x1 u) (hi2 : ∀ t, ∃ u, mi2 t = .int i2 u) (hx2 : ∀ t, ∃ u, ms2 t = .str x2 u) (hi3 : ∀ t, ∃ u, mi3 t = .int i3 u) (hx3 : ∀ t, ∃ u, ms3 t = .str x3 u)
    (he1 : starEach [a1, b1] env = [(false, eval a1 env), (false, eval b1 env)]) (he2 : starEach [a2, b2] env = [(false, eval a2 env), (false, eval b2 env)]) (he3 : starEach [a3, b3] env = [(false, eval a3 env), (false, eval b3 env)])
    (hQ : ∀ r h' tk l, s.heap.StaysIn h' → Fresh s.heap h' l → DatIn l r (dDeed [(i1, x1), (i2, x2), (i3, x3)]) → Q r { s with heap := h', toks := tk }) :
    wpAny (model prog w) A (eval (.List [.List [a1, b1] p1, .List [a2, b2] p2, .List [a3, b3] p3] pos) env) Q E s := by
  refine wpAny_List_spliced ?_
  show wpAny _ _ (spliced [(false, eval (.List [a1, b1] p1) env), (false, eval (.List [a2, b2] p2) env), (false, eval (.List [a3, b3] p3) env)]) _ _ s
  refine spliced_cons (disp_pair st ga1 gb1 hi1 hx1 he1 fun r1 h1 tk1 l1 k1 f1 d1 => ?_)
  refine spliced_cons (disp_pair (StaysIn.trans st k1) ga2 gb2 hi2 hx2 he2 fun r2 h2 tk2 l2 k2 f2 d2 => ?_)
  refine spliced_cons (disp_pair (StaysIn.trans (StaysIn.trans st k1) k2) ga3 gb3 hi3 hx3 he3 fun r3 h3 tk3 l3 k3 f3 d3 => ?_)
  refine spliced_nil ⟨by rw [sizeLine_eq]; exact Nat.le_of_ble_eq_true rfl, ?_⟩
  have kp : h3.StaysIn (h3.push (listOf #[r1, r2, r3] 0)) := fun b o e => Heap.get?_push_of_some _ e
  refine hQ _ _ _ ((h3.objs.size, listOf #[r1, r2, r3] 0) :: (l1 ++ (l2 ++ l3))) (StaysIn.trans k1 (StaysIn.trans k2 (StaysIn.trans k3 kp))) ?_ ?_
  · intro q hq
    rcases List.mem_cons.mp hq with rfl | hq
    · refine ⟨Heap.get?_push_size _ rfl, ?_⟩
      cases e : s.heap.get? h3.objs.size with
      | none => rfl
      | some o => exact absurd (Heap.lt_size (k3 _ _ (k2 _ _ (k1 _ _ e)))) (Nat.lt_irrefl _)
    · exact (Fresh.append (f1.later (StaysIn.refl _) (StaysIn.trans k2 (StaysIn.trans k3 kp))) (Fresh.append (f2.later k1 (StaysIn.trans k3 kp)) (f3.later (StaysIn.trans k1 k2) kp))) q hq
  · refine DatIn.list (vs := [r1, r2, r3]) (.head _) (.cons (d1.mono ?_) (.cons (d2.mono ?_) (.cons (d3.mono ?_) .nil)))
    · exact fun q hq => .tail _ (List.mem_append.mpr (.inl hq))
    · exact fun q hq => .tail _ (List.mem_append.mpr (.inr (List.mem_append.mpr (.inl hq))))
    · exact fun q hq => .tail _ (List.mem_append.mpr (.inr (List.mem_append.mpr (.inr hq))))
end
end Mine
end

section
open PySem PySem.W PySem.Calls PyProof.Rows
namespace Mine
set_option maxRecDepth 100000

abbrev quo : Str := Str.ofString "\""
def idD : Deed := [(0, ""), (1, ""), (2, "")]
def signD (c : Str) : Deed := if c == quo then [(1, ""), (0, quo), (2, "")] else [(0, c), (2, ""), (2, "")]
def deedL (cs : List Nat) : Deed := cs.foldl (fun D c => thenD D (signD ⟨#[c]⟩)) idD

theorem signD_len (c : Str) : (signD c).length = 3 := by unfold signD; split <;> rfl
theorem signD_ok {c : Str} (hc : c.length ≤ 1) {p : Int × Str} (hp : p ∈ signD c) : 0 ≤ p.1 ∧ p.1.toNat < 3 ∧ p.2.length ≤ 1 := by
  unfold signD at hp
  split at hp
  · simp only [List.mem_cons, List.not_mem_nil, or_false] at hp
    rcases hp with rfl | rfl | rfl <;> refine ⟨by decide, by decide, by decide⟩
  · simp only [List.mem_cons, List.not_mem_nil, or_false] at hp
    rcases hp with rfl | rfl | rfl
    · exact ⟨Int.le_refl _, Nat.le_of_ble_eq_true rfl, hc⟩
    · refine ⟨by decide, by decide, by decide⟩
    · refine ⟨by decide, by decide, by decide⟩
theorem one_len (c : Nat) : (Str.mk #[c]).length ≤ 1 := Nat.le_refl _

structure DOk (D : Deed) (k : Nat) : Prop where
  len : D.length = 3
  st : ∀ p ∈ D, 0 ≤ p.1 ∧ p.1.toNat < 3
  tx : ∀ p ∈ D, p.2.length ≤ k
theorem idD_ok : DOk idD 0 := ⟨rfl, by decide, by decide⟩
theorem signD_DOk {c : Str} (hc : c.length ≤ 1) : DOk (signD c) 1 := ⟨signD_len c, fun p hp => ⟨(signD_ok hc hp).1, (signD_ok hc hp).2.1⟩, fun p hp => (signD_ok hc hp).2.2⟩
theorem atD_mem {D : Deed} {i : Int} (h : i.toNat < D.length) : atD D i ∈ D := getD_mem h
theorem thenD_ok {D E : Deed} {j k : Nat} (a : DOk D j) (b : DOk E k) : DOk (thenD D E) (j + k) := by
  refine ⟨by simp [thenD, a.len], fun p hp => ?_, fun p hp => ?_⟩
  · obtain ⟨q, hq, rfl⟩ := List.mem_map.mp hp
    exact b.st (atD E q.1) (atD_mem (by rw [b.len]; exact (a.st q hq).2))
  · obtain ⟨q, hq, rfl⟩ := List.mem_map.mp hp
    have := a.tx q hq
    have := b.tx _ (atD_mem (i := q.1) (by rw [b.len]; exact (a.st q hq).2))
    simp only [Str.length_append]
    omega
theorem deedL_snoc (cs : List Nat) (c : Nat) : deedL (cs ++ [c]) = thenD (deedL cs) (signD ⟨#[c]⟩) := by simp [deedL]
theorem deedL_ok (cs : List Nat) : DOk (deedL cs) cs.length := by
  suffices ∀ (cs : List Nat) D k, DOk D k → DOk (cs.foldl (fun D c => thenD D (signD ⟨#[c]⟩)) D) (k + cs.length) by simpa [deedL] using this cs idD 0 idD_ok
  intro cs
  induction cs with
  | nil => intro D k h; exact h
  | cons c r ih =>
    intro D k h
    have := ih _ _ (thenD_ok h (signD_DOk (one_len c)))
    rw [List.foldl_cons, List.length_cons, show k + (r.length + 1) = k + 1 + r.length from by omega]
    exact this

/-- a value that bears d is made, all that stood stays -/
def Makes (s : Shared) (d : Dat) : Value → Shared → Prop := fun r s' => ∃ h' tk l, s' = { s with heap := h', toks := tk } ∧ s.heap.StaysIn h' ∧ Fresh s.heap h' l ∧ DatIn l r d
theorem via {α : Type} {M : Model} {A : Around} {t : Sem α} {Q : α → Shared → Prop} {E : Value → Shared → Prop} {s : Shared} (P : α → Shared → Prop) (h1 : wpAny M A t P NE s) (h2 : ∀ a s', P a s' → Q a s') : wpAny M A t Q E s :=
  wpAny_mono h1 h2 fun _ _ x => x.elim
theorem stays_of_ext {h h' : Heap} {L : Addr} {g : Heap} (hL : g.get? L = none) (k : g.StaysIn h) (e : ∀ b o, b ≠ L → h.get? b = some o → h'.get? b = some o) : g.StaysIn h' :=
  fun b o x => e b o (fun q => by rw [q, hL] at x; cases x) (k b o x)

section
variable {prog : Program} {w : World} {A : Around}

/-- a def of the top's called by its name -/
theorem call_top {E : Value → Shared → Prop} {s : Shared} {env : Env} {x : Str} {np pos : Pos} {e : Expr} {rest : List Expr} {K : Frag} {mg : Str → Option Value} {f : Addr} {o : Obj} {fd : FuncData} {Q : Value → Shared → Prop}
    (X : K.In s.heap) (g : s.heap.Ns mainGlobals mg) (hf : nsIn K mainGlobals x = some (some (.ref f))) (ho : K.lookup f = some o) (hd : o.data = .func fd)
    (h : wpAny (model prog w) A (spliced (backTo pos (starEach (e :: rest) env))) (fun vs s₁ => s.heap.StaysIn s₁.heap ∧ wpAny (model prog w) A (call (.ref f) vs) Q E s₁) E s)
    (hg : env.globals = mainGlobals) (hk : env.scope.kind = .function) (hx : env.kindOf x = some .globalImplicit) (hdd : (x == ("__debug__" : Str)) = false)
    (he : starEach (e :: rest) env = (false, eval e env) :: starEach rest env) :
    wpAny (model prog w) A (eval (.Call (.Name x np) (e :: rest) [] pos) env) Q E s := by
  refine wpAny_Call_ofName (nm_global X g hf ?_ hg hk hx hdd)
  exact callWith_def hd (wpAny_mono h (fun vs s₁ h₁ => ⟨h₁.1 _ _ (X _ _ ho), h₁.2⟩) fun _ _ x => x) he

theorem deed_spec {mg : Str → Option Value} {E : Value → Shared → Prop} {s : Shared} {Q : Value → Shared → Prop} {x : Str} {t : Tok}
    (X : (KF w).In s.heap) (g : s.heap.Ns mainGlobals mg) (hlim : s.heap.NoLimit) (hh : A.handled = none) (hroom : A.depth + 1 < recursionLimit) (hx : x.cps.size ≤ 900)
    (h : ∀ r h' tk l, s.heap.StaysIn h' → Fresh s.heap h' l → DatIn l r (dDeed (deedL x.cps.toList)) → Q r { s with heap := h', toks := tk }) :
    wpAny (model prog w) A (call (.ref 74) [.str x t]) Q E s := by
  refine' enter X hlim ?ho ?hcd (Nat.lt_of_succ_lt hroom) ?hb ?hl ?_ ?c1 ?c2 ?c3 ?c4
  case ho => exact rfl
  case hcd => rfl
  case hb => exact BindsTo.of_eq rfl
  case hl => exact locs rfl
  case c1 => rfl
  case c2 => rfl
  case c3 => rfl
  case c4 => decide
  intro h₁ F
  have k₁ : s.heap.StaysIn h₁ := F.keep
  have hnL : s.heap.get? s.heap.objs.size = none := fresh_none (Nat.le_refl _)
  refine wpAny_execs_cons ?_
  refine wpAny_Assign_Name ?_
  refine disp_deed (StaysIn.refl _) (Gives.int _ _ _) (Gives.str _ _ _) (Gives.int _ _ _) (Gives.str _ _ _) (Gives.int _ _ _) (Gives.str _ _ _) (fun t => ⟨t, rfl⟩) (fun t => ⟨t, rfl⟩) (fun t => ⟨t, rfl⟩) (fun t => ⟨t, rfl⟩) (fun t => ⟨t, rfl⟩) (fun t => ⟨t, rfl⟩) rfl rfl rfl ?_
  intro r h₂ tk₂ l₂ k₂ f₂ d₂
  refine wpAny_storeName_local rfl (F.ns.keeps k₂) (fun h₃ n₃ s₃ => ?_) rfl
  dsimp only
  refine wpAny_execs_cons ?_
  refine for_T (g := s.heap) rfl rfl ?_ (by intro _; rfl)
  refine nm_local n₃ (v := .str x t) rfl ?_ rfl rfl (by decide)
  refine pyIter_str fun o St W held st0 => ?_
  have hr : r = r := rfl
  have kk : s.heap.StaysIn h₃ := fun b o e => s₃.extBut b o (fun q => by rw [show b = s.heap.objs.size from q, hnL] at e; cases e) (k₂ _ _ (k₁ _ _ e))
  have hI : ∀ b o, h₃.get? b = some o → b ≠ h₃.objs.size := fun b o e => Nat.ne_of_lt (Heap.lt_size e)
  refine ⟨h₃.objs.size, _, _, _, _, _, fun i m l => ∃ v, m (Str.ofString "text") = some (.str x t) ∧ m (Str.ofString "deed") = some v ∧ DatIn l v (dDeed (deedL (x.cps.toList.take i))), rfl, ⟨W _ hh, ?_, ?_, ?_, st0, hnL, ?_, ?_, ?_, ?_⟩⟩
  · obtain ⟨o9, _, _, ho9, _⟩ := n₃
    exact fun q => hI _ _ ho9 (List.mem_singleton.mp q)
  · intro b hb
    rw [List.mem_singleton.mp hb]
    cases e : s.heap.get? h₃.objs.size with
    | none => rfl
    | some o => exact absurd rfl (hI _ _ (kk _ _ e))
  · intro i h st b hb
    rw [List.mem_singleton.mp hb]
    exact held i h st
  · exact fun b o e => Heap.get?_push_of_some _ (kk b o e)
  · have f₃ : Fresh s.heap h₃ l₂ := fun q hq => by
      have hL : q.1 ≠ s.heap.objs.size := fun e => by
        obtain ⟨o9, _, _, ho9, _⟩ := F.ns
        have := (f₂ q hq).2
        rw [e] at this
        rw [show Heap.get? h₁ s.heap.objs.size = _ from ho9] at this; cases this
      exact ⟨s₃.extBut _ _ hL (f₂ q hq).1, (f₂.later k₁ (StaysIn.refl _) q hq).2⟩
    refine ⟨_, l₂, n₃.keeps fun b o e => Heap.get?_push_of_some _ e, f₃.later (StaysIn.refl _) fun b o e => Heap.get?_push_of_some _ e, fun q hq => ⟨?_, ?_⟩, r, rfl, rfl, ?_⟩
    · intro e
      obtain ⟨o9, _, _, ho9, _⟩ := F.ns
      have := (f₂ q hq).2
      rw [show q.1 = s.heap.objs.size from e] at this
      rw [show Heap.get? h₁ s.heap.objs.size = _ from ho9] at this; cases this
    · exact fun hq' => hI _ _ (f₃ q hq).1 (List.mem_singleton.mp hq')
    · exact d₂
  · rintro i v m₁ l₁ h₄ tk hi ⟨c, u, hc, rfl⟩ ⟨vd, ht, hd, dd⟩ hg4 hl4 _ hup4 hn4
    have hsz : (x.cps.toList.take i).length ≤ 900 := by simp; omega
    have ok := deedL_ok (x.cps.toList.take i)
    have X4 : (KF w).In h₄ := X.keeps hg4
    refine wpAny_execs_cons ?_
    refine wpAny_Assign_Name ?_
    refine call_top (K := KF w) (f := 67) X4 (g.keeps hg4) (by rfl) (by exact rfl) rfl ?_ rfl rfl rfl (by decide) rfl
    refine spliced_more ?_
    refine nm_local hn4 (v := vd) hd ?_ rfl rfl (by decide)
    refine spliced_more ?_
    refine via (Makes { s with heap := h₄, toks := tk } (dDeed (signD ⟨#[c]⟩))) ?_ ?_
    · refine wpAny_IfExp ?_
      refine wpAny_isTrue_Compare1 ?_
      refine nm_local hn4 (v := .str ⟨#[c]⟩ u) (by simp) ?_ rfl rfl (by decide)
      refine Constant_str ?_
      refine PyProof.Rows.eq_str ?_
      refine wpAny_truthy_bool ?_
      by_cases hq : (Str.mk #[c]) == quo
      · rw [if_pos hq]
        refine disp_deed (StaysIn.refl _) (Gives.int _ _ _) (Gives.str _ _ _) (Gives.int _ _ _) (Gives.str _ _ _) (Gives.int _ _ _) (Gives.str _ _ _) (fun t => ⟨t, rfl⟩) (fun t => ⟨t, rfl⟩) (fun t => ⟨t, rfl⟩) (fun t => ⟨t, rfl⟩) (fun t => ⟨t, rfl⟩) (fun t => ⟨t, rfl⟩) rfl rfl rfl ?_
        intro r h' tk' l a b d
        refine ⟨h', tk', l, rfl, a, b, ?_⟩
        rw [signD, if_pos hq]
        exact d
      · rw [if_neg hq]
        refine disp_deed (StaysIn.refl _) (Gives.int _ _ _) (Gives.local hn4 (v := .str ⟨#[c]⟩ u) (if_pos rfl) rfl rfl (by decide)) (Gives.int _ _ _) (Gives.str _ _ _) (Gives.int _ _ _) (Gives.str _ _ _) (fun t => ⟨t, rfl⟩) (fun t => ⟨u, rfl⟩) (fun t => ⟨t, rfl⟩) (fun t => ⟨t, rfl⟩) (fun t => ⟨t, rfl⟩) (fun t => ⟨t, rfl⟩) rfl rfl rfl ?_
        intro r h' tk' l a b d
        refine ⟨h', tk', l, rfl, a, b, ?_⟩
        rw [signD, if_neg hq]
        exact d
    · rintro r5 s5 ⟨h5, tk5, l5, rfl, k5, f5, d5⟩
      refine spliced_none ⟨k5, ?_⟩
      have g5 : s.heap.StaysIn h5 := StaysIn.trans hg4 k5
      refine then_spec (D1 := deedL (x.cps.toList.take i)) (D2 := signD ⟨#[c]⟩) (X.keeps g5) (hlim.keeps g5) hh hroom (HD.keep (HD.of_fresh hl4 dd) k5) (HD.of_fresh f5 d5) (fun p hp => ⟨(ok.st p hp).1, by rw [signD_len]; exact (ok.st p hp).2⟩)
        (by rw [ok.len]; decide) (by rw [signD_len]; decide) (fun p hp => Nat.le_trans (ok.tx p hp) (by omega)) (fun p hp => Nat.le_trans (signD_ok (one_len c) hp).2.2 (by decide)) ?_
      intro r6 h6 tk6 l6 k6 f6 d6
      refine wpAny_storeName_local rfl (hn4.keeps (StaysIn.trans k5 k6)) (fun h7 n7 s7 => ?_) rfl
      refine wpAny_execs_nil ?_
      have hL6 : ∀ q ∈ l6, q.1 ≠ s.heap.objs.size := fun q hq e => by
        obtain ⟨o9, _, _, ho9, _⟩ := hn4.keeps k5
        have := (f6 q hq).2
        rw [e] at this
        rw [show Heap.get? h5 s.heap.objs.size = _ from ho9] at this; cases this
      refine ⟨h7, _, _, l6, rfl, fun b o hb e => s7.extBut b o hb (k6 _ _ (k5 _ _ e)), n7, fun q hq => ⟨s7.extBut _ _ (hL6 q hq) (f6 q hq).1, .inr ?_⟩, r6, ?_, ?_, ?_⟩
      · cases e : h₄.get? q.1 with
        | none => rfl
        | some o => have := (f6 q hq).2; rw [show Heap.get? h5 q.1 = _ from k5 _ _ e] at this; cases this
      · rw [if_neg (by decide), if_neg (by decide)]; exact ht
      · rw [if_pos rfl]
      · rw [show x.cps.toList.take (i + 1) = x.cps.toList.take i ++ [c] from by simp [List.take_add_one, hc], deedL_snoc]
        exact d6
  · rintro m' l' h' tk ⟨v, _, hd, dd⟩ hg hl hn _ _
    refine wpAny_execs_cons ?_
    refine wpAny_Return_some ?_
    refine nm_local hn hd ?_ rfl rfl (by decide)
    refine h v h' tk l' hg hl ?_
    rwa [show x.cps.toList.take x.cps.size = x.cps.toList from List.take_of_length_le (by simp)] at dd
end
end Mine
end

section
open PySem PySem.W PySem.Calls PyProof.Rows Builtin Builtin.Str StrLaws
namespace Mine
set_option maxRecDepth 100000

/-- a slice between two written places is a cut of the signs, whatever the length -/
theorem slice_nat (x : Str) {a b : Nat} (hab : a ≤ b) : Txt.slice x (some (a : Int)) (some (b : Int)) = ⟨((x.cps.toList.drop a).take (b - a)).toArray⟩ := by
  have e : strSliceIndices (some (a : Int)) (some (b : Int)) 1 x.length = strSliceIndices (some ((min a x.length : Nat) : Int)) (some ((min b x.length : Nat) : Int)) 1 x.length := by
    have a1 : ¬ ((a : Int) < 0) := by omega
    have b1 : ¬ ((b : Int) < 0) := by omega
    have a2 : ¬ (((min a x.length : Nat) : Int) < 0) := by omega
    have b2 : ¬ (((min b x.length : Nat) : Int) < 0) := by omega
    simp only [strSliceIndices, a1, b1, a2, b2, if_false, show (1 : Int) > 0 from by decide, if_true]
    congr 1 <;> omega
  have e2 : Txt.slice x (some (a : Int)) (some (b : Int)) = sliceText x (some ((min a x.length : Nat) : Int)) (some ((min b x.length : Nat) : Int)) := by
    unfold Txt.slice sliceText
    rw [e]
  rw [e2, sliceText_nat x (by omega) (by omega)]
  congr 2
  apply List.ext_getElem?
  intro i
  have hl : x.cps.toList.length = x.length := by simp [Str.length]
  simp only [List.getElem?_take, List.getElem?_drop]
  by_cases h1 : i < b - a
  · by_cases h2 : a + i < x.length
    · rw [if_pos (by omega), if_pos h1]
      congr 1
      omega
    · rw [if_pos h1]
      have : x.cps.toList[a + i]? = none := List.getElem?_eq_none (by omega)
      rw [this]
      split
      · exact List.getElem?_eq_none (by omega)
      · rfl
  · rw [if_neg h1]
    split
    · exact List.getElem?_eq_none (by omega)
    · rfl
theorem slice_to (x : Str) {b : Nat} : Txt.slice x none (some (b : Int)) = ⟨(x.cps.toList.take b).toArray⟩ := by
  have e : Txt.slice x none (some (b : Int)) = Txt.slice x (some ((0 : Nat) : Int)) (some (b : Int)) := by
    unfold Txt.slice
    rw [sliceIdx_none_lo]
    rfl
  rw [e, slice_nat x (Nat.zero_le _)]
  simp

/-- what parse257 reads behind the opening quote -/
def scan : List Nat → List Nat
  | [] => []
  | c :: r => if c = 34 then (match r with
      | [] => []
      | d :: r' => if d = 34 then 34 :: scan r' else [])
    else c :: scan r

theorem scan_ne {c : Nat} {r : List Nat} (h : c ≠ 34) : scan (c :: r) = c :: scan r := by rw [scan.eq_def]; simp [h]
theorem scan_end : scan [34] = [] := by rw [scan.eq_def]; simp
theorem scan_two {r : List Nat} : scan (34 :: 34 :: r) = 34 :: scan r := by rw [scan.eq_def]; simp
theorem scan_stop {d : Nat} {r : List Nat} (h : d ≠ 34) : scan (34 :: d :: r) = [] := by rw [scan.eq_def]; simp [h]
theorem str_app (D E : List Nat) : (Str.mk D.toArray) ++ (Str.mk E.toArray) = Str.mk (D ++ E).toArray := by
  apply Str.ext'
  rw [Str.cps_append]
  simp

theorem scan_len : ∀ (n : Nat) (l : List Nat), l.length ≤ n → (scan l).length ≤ l.length
  | _, [], _ => Nat.le_refl _
  | 0, _ :: _, h => by simp at h
  | n + 1, c :: r, h => by
    unfold scan
    split
    · cases r with
      | nil => simp
      | cons d r' =>
        simp only
        split
        · have := scan_len n r' (by simp at h; omega)
          simp; omega
        · simp
    · have := scan_len n r (by simp at h; omega)
      simp; omega

def L257 : List Nat := [50, 53, 55]
def Lop : List Nat := [32, 34]
/-- parse257, where it tells -/
def told257 (l : List Nat) : List Nat := if (l.drop 3).take 2 = Lop then scan (l.drop 5) else []

theorem str_eq_iff {x y : Str} : x = y ↔ x.cps.toList = y.cps.toList := by
  constructor
  · rintro rfl; rfl
  · intro h
    cases x; cases y
    simp at h
    rw [h]
theorem beq_str {x y : Str} : (x == y) = decide (x.cps.toList = y.cps.toList) := by
  by_cases h : x = y
  · subst h; simp
  · rw [beq_eq_false_iff_ne.mpr h]
    exact (decide_eq_false fun q => h (str_eq_iff.mpr q)).symm
theorem bne_str {x y : Str} : (x != y) = !decide (x.cps.toList = y.cps.toList) := by rw [bne, beq_str]

section
variable {prog : Program} {w : World} {A : Around}

theorem nm_builtin {M : Model} {E : Value → Shared → Prop} {s : Shared} {env : Env} {x : Str} {pos : Pos} {K : Frag} {mg mb : Str → Option Value} {v : Value} {Q : Value → Shared → Prop} (X : K.In s.heap) (g : s.heap.Ns mainGlobals mg) (b : s.heap.Ns builtinsNs mb)
    (hb : ∀ x : Str, x ≠ "__name__" → mb x = bootBuiltins x)
    (e : nsIn K mainGlobals x = some none) (hv : bootBuiltins x = some v) (h : Q v s)
    (hg : env.globals = mainGlobals) (hbn : env.builtins = builtinsNs) (hn : x ≠ "__name__") (hk : env.scope.kind = .function) (hx : env.kindOf x = some .globalImplicit) (hd : (x == ("__debug__" : Str)) = false) : wpAny M A (eval (.Name x pos) env) Q E s :=
  Name_function_global hk hx (loadGlobal_builtin (env := env) (by rw [hg]; exact g) (mg_none_of X g e) (by rw [hbn]; exact b) ((hb x hn).trans hv) h) hd

theorem item_str1 {E : Value → Shared → Prop} {s : Shared} {value slice : Expr} {x : Str} {t u : Tok} {i : Nat} {c : Nat} {Q : Value → Shared → Prop} (hi : i < 2 ^ 62) (hc : x.cps[i]? = some c)
    (h : Q (.str ⟨#[c]⟩ s.toks) { s with toks := s.toks + 1 })
    (hs : subscripted slice false (.str x t) (.int i u) = operate [.str x t, .int i u] (getItem (.str x t) (.int i u))) :
    wpAny (model prog w) A (subscriptTail value slice (.str x t) (.int (i : Int) u)) Q E s :=
  tail_any (typeIs_str s x t) F.slot_str_getitem.lookup (PyProof.Rows.getItem_str (by simp; omega) (at_nonneg (by omega) (by simpa using hc)) h) hs

/-- a while that raises nothing -/
theorem while_T {env : Env} {test : Expr} {body : List Stmt} {pos : Pos} {Q : Flow → Shared → Prop} {E : Value → Shared → Prop} {s : Shared} (I : Nat → Shared → Prop)
    (turn : ∀ n s, I n s → wpAny (model prog w) A (isTrue test env (eval test env)) (fun b s₂ =>
        if b = true then wpAny (model prog w) A (execs body env) (fun f s₃ => match f with
            | .next | .cont => ∃ m, m < n ∧ I m s₃
            | .brk => Q .next s₃
            | .ret v => Q (.ret v) s₃) NE s₂
        else Q .next s₂) NE s)
    (n : Nat) (h : I n s) : wpAny (model prog w) A (exec (.While test body [] pos) env) Q E s := by
  refine wpAny_While (codeAny_whileLoop I (fun n s hI => ?_) n h)
  refine wpAny_mono (turn n s hI) (fun b s₂ h₂ => ?_) fun _ _ x => x.elim
  cases b with
  | false => exact wpAny_execs_nil h₂
  | true =>
    refine wpAny_mono h₂ (fun f s₃ h₃ => ?_) fun _ _ x => x.elim
    cases f <;> exact h₃


/-- the frame's facts at parse257's loop -/
def PInv (s : Shared) (x : Str) (t : Tok) (L : Addr) (k : Nat) (s' : Shared) : Prop :=
  ∃ h tk m i D, s' = { s with heap := h, toks := tk } ∧ s.heap.StaysIn h ∧ h.Ns L m ∧ m (Str.ofString "resp") = some (.str x t) ∧ (∃ ti, m (Str.ofString "i") = some (.int (i : Nat) ti)) ∧ (∃ td, m (Str.ofString "dirname") = some (.str ⟨List.toArray D⟩ td)) ∧
    (∃ tn, m (Str.ofString "n") = some (.int x.cps.size tn)) ∧ i ≤ x.cps.size ∧ D.length ≤ i ∧ D ++ scan (x.cps.toList.drop i) = scan (x.cps.toList.drop 5) ∧ k = x.cps.size - i

theorem drop_cons {l : List Nat} {i c : Nat} (h : l[i]? = some c) : l.drop i = c :: l.drop (i + 1) := by
  obtain ⟨hi, rfl⟩ := List.getElem?_eq_some_iff.mp h
  exact List.drop_eq_getElem_cons hi

theorem parse_tells {mg mb : Str → Option Value} {E : Value → Shared → Prop} {s : Shared} {Q : Value → Shared → Prop} {x : Str} {t : Tok}
    (X : (KF w).In s.heap) (g : s.heap.Ns mainGlobals mg) (b : s.heap.Ns builtinsNs mb) (hb : ∀ x : Str, x ≠ "__name__" → mb x = bootBuiltins x) (hlim : s.heap.NoLimit) (hroom : A.depth < recursionLimit) (hx : x.cps.size ≤ 900)
    (h3 : x.cps.toList.take 3 = L257)
    (h : ∀ t' h' tk, s.heap.StaysIn h' → Q (.str ⟨(told257 x.cps.toList).toArray⟩ t') { s with heap := h', toks := tk }) :
    wpAny (model prog w) A (call (.ref 46) [.str x t]) Q E s := by
  refine' enter (binds := [(Str.ofString "resp", .str x t)]) X hlim ?ho ?hcd hroom ?hb ?hl ?_ ?c1 ?c2 ?c3 ?c4
  case ho => exact rfl
  case hcd => rfl
  case hb => exact BindsTo.of_eq rfl
  case hl => exact locs rfl
  case c1 => rfl
  case c2 => rfl
  case c3 => rfl
  case c4 => decide
  intro h₁ F
  have hnL : s.heap.get? s.heap.objs.size = none := fresh_none (Nat.le_refl _)
  have hzx : x.length ≤ sizeLine := by rw [sizeLine_eq]; show x.cps.size ≤ _; omega
  refine wpAny_execs_cons ?_
  refine wpAny_If ?_
  refine wpAny_isTrue_Compare1 ?_
  refine Subscript_ ?_
  refine nm_local F.ns (v := .str x t) rfl ?_ rfl rfl (by decide)
  refine wpAny_Slice ?_
  refine evalPart_none_step ?_
  refine evalPart_some_step ?_
  refine wpAny_Constant_int ?_
  refine evalPart_none_step ?_
  refine slice_str_ns (s := { s with heap := h₁, toks := _ }) F (fun h₂ t₂ k₂ F₂ => ?_) (by with_unfolding_all rfl) (by intro _; with_unfolding_all rfl) hzx
  refine Constant_str ?_
  refine PyProof.Rows.ne_str ?_
  refine wpAny_truthy_bool ?_
  rw [if_neg (by rw [show (3 : Int) = ((3 : Nat) : Int) from rfl, slice_to, bne_str]; simp [h3]; decide)]
  refine wpAny_execs_nil ?_
  refine wpAny_execs_cons ?_
  refine wpAny_If ?_
  refine wpAny_isTrue_Compare1 ?_
  refine Subscript_ ?_
  refine nm_local F₂.ns (v := .str x t) rfl ?_ rfl rfl (by decide)
  refine wpAny_Slice ?_
  refine evalPart_some_step ?_
  refine wpAny_Constant_int ?_
  refine evalPart_some_step ?_
  refine wpAny_Constant_int ?_
  refine evalPart_none_step ?_
  refine slice_str_ss (s := { s with heap := h₂, toks := _ }) F₂ (fun h₃ t₃ k₃ F₃ => ?_) (by with_unfolding_all rfl) (by intro _; with_unfolding_all rfl) hzx
  refine Constant_str ?_
  refine PyProof.Rows.ne_str ?_
  refine wpAny_truthy_bool ?_
  rw [show Txt.slice x (some 3) (some 5) = _ from slice_nat x (a := 3) (b := 5) (by decide), bne_str]
  by_cases hop : (x.cps.toList.drop 3).take 2 = Lop
  · rw [if_neg (by simp [hop]; decide)]
    refine wpAny_execs_nil ?_
    refine wpAny_execs_cons ?_
    refine wpAny_Assign_Name ?_
    refine Constant_str ?_
    refine wpAny_storeName_local rfl F₃.ns (fun h₄ n₄ s₄ => ?_) rfl
    refine wpAny_execs_cons ?_
    refine wpAny_Assign_Name ?_
    refine wpAny_Constant_int ?_
    refine wpAny_storeName_local rfl n₄ (fun h₅ n₅ s₅ => ?_) rfl
    have k₅ : s.heap.StaysIn h₅ := stays_of_ext hnL (stays_of_ext hnL F₃.keep fun b o => s₄.extBut b o) fun b o => s₅.extBut b o
    refine wpAny_execs_cons ?_
    refine wpAny_Assign_Name ?_
    refine wpAny_Call_ofName ?_
    refine nm_builtin (K := KF w) (v := .builtin "len") (X.keeps k₅) (g.keeps k₅) (b.keeps k₅) hb (by rfl) (by rfl) ?_ rfl rfl (by decide) rfl rfl (by decide)
    refine PyProof.Rows.callWith_builtin1 ?_
    refine spliced_more ?_
    refine nm_local n₅ (v := .str x t) rfl ?_ rfl rfl (by decide)
    refine spliced_none ?_
    refine PyProof.Rows.len_str (by show ¬ ((x.cps.size : Nat) : Int) ≥ 2 ^ 63; omega) ?_
    refine wpAny_storeName_local rfl n₅ (fun h₆ n₆ s₆ => ?_) rfl
    have k₆ : s.heap.StaysIn h₆ := stays_of_ext hnL k₅ fun b o => s₆.extBut b o
    have hlen : 5 ≤ x.cps.size := by
      have := congrArg List.length hop
      simp [Lop] at this
      omega
    refine wpAny_execs_cons ?_
    refine while_T (PInv s x t s.heap.objs.size) ?_ (x.cps.size - 5) ⟨h₆, _, _, 5, [], rfl, k₆, n₆, ?_, ?_, ?_, ?_, hlen, Nat.zero_le _, rfl, rfl⟩
    · rintro k s' ⟨h7, tk7, m7, i, D, rfl, k7, n7, mr, ⟨ti, mi⟩, ⟨td, md⟩, ⟨tn, mn⟩, hi, hD, hscan, rfl⟩
      refine wpAny_isTrue_Compare1 ?_
      refine nm_local n7 mi ?_ rfl rfl (by decide)
      refine nm_local n7 mn ?_ rfl rfl (by decide)
      refine PyProof.Rows.lt_int ?_
      refine wpAny_truthy_bool ?_
      by_cases hlt : i < x.cps.size
      · rw [if_pos (by simp; omega)]
        obtain ⟨c, hc⟩ : ∃ c, x.cps[i]? = some c := ⟨x.cps[i], by simp [hlt]⟩
        have hcl : x.cps.toList[i]? = some c := by simpa using hc
        have hdr := drop_cons hcl
        have hi62 : i < 2 ^ 62 := by omega
        refine wpAny_execs_cons ?_
        refine wpAny_Assign_Name ?_
        refine Subscript_ ?_
        refine nm_local n7 mr ?_ rfl rfl (by decide)
        refine nm_local n7 mi ?_ rfl rfl (by decide)
        refine item_str1 hi62 hc ?_ (by with_unfolding_all rfl)
        refine wpAny_storeName_local rfl n7 (fun h8 n8 s8 => ?_) rfl
        refine wpAny_execs_cons ?_
        refine wpAny_Assign_Name ?_
        refine wpAny_BinOp ?_
        refine nm_local n8 (v := .int i ti) (by rw [if_neg (by decide)]; exact mi) ?_ rfl rfl (by decide)
        refine wpAny_Constant_int ?_
        refine PyProof.Rows.add_int ?_
        refine wpAny_storeName_local rfl n8 (fun h9 n9 s9 => ?_) rfl
        have k9 : s.heap.StaysIn h9 := stays_of_ext hnL (stays_of_ext hnL k7 fun b o => s8.extBut b o) fun b o => s9.extBut b o
        refine wpAny_execs_cons ?_
        refine wpAny_If ?_
        refine wpAny_isTrue_Compare1 ?_
        refine nm_local n9 (v := .str ⟨#[c]⟩ tk7) (by rw [if_neg (by decide), if_pos rfl]) ?_ rfl rfl (by decide)
        refine Constant_str ?_
        refine PyProof.Rows.eq_str ?_
        refine wpAny_truthy_bool ?_
        have hq : ((Str.mk #[c]) == Str.ofString "\"") = decide (c = 34) := by
          rw [beq_str]
          have : (Str.ofString "\"").cps.toList = [34] := by decide
          rw [this]
          simp
        by_cases hc34 : c = 34
        · rw [if_pos (by rw [hq]; simp [hc34])]
          subst hc34
          refine wpAny_execs_cons ?_
          refine wpAny_If ?_
          refine via (fun bb s' => (∃ tk', s' = { s with heap := h9, toks := tk' }) ∧ bb = decide (x.cps.toList[i + 1]? ≠ some 34)) ?_ ?_
          · refine isTrue_or ?_
            refine wpAny_isTrue_Compare1 ?_
            refine nm_local n9 (v := .int ((i + 1 : Nat) : Int) _) (if_pos rfl) ?_ rfl rfl (by decide)
            refine nm_local n9 (v := .int x.cps.size tn) ((if_neg (by decide)).trans ((if_neg (by decide)).trans mn)) ?_ rfl rfl (by decide)
            refine PyProof.Rows.ge_int ?_
            refine wpAny_truthy_bool ?_
            by_cases hge : x.cps.size ≤ i + 1
            · rw [if_pos (by simp; omega)]
              refine ⟨⟨_, rfl⟩, ?_⟩
              rw [List.getElem?_eq_none (by simp; omega)]
              rfl
            · rw [if_neg (by simp; omega)]
              obtain ⟨d, hd⟩ : ∃ d, x.cps[i + 1]? = some d := ⟨x.cps[i + 1]'(by omega), by simp⟩
              have hdl : x.cps.toList[i + 1]? = some d := by simpa using hd
              refine isTrue_or ?_
              refine wpAny_isTrue_Compare1 ?_
              refine Subscript_ ?_
              refine nm_local n9 (v := .str x t) ((if_neg (by decide)).trans ((if_neg (by decide)).trans mr)) ?_ rfl rfl (by decide)
              refine nm_local n9 (v := .int ((i + 1 : Nat) : Int) _) (if_pos rfl) ?_ rfl rfl (by decide)
              refine item_str1 (by omega) hd ?_ (by with_unfolding_all rfl)
              refine Constant_str ?_
              refine PyProof.Rows.ne_str ?_
              refine wpAny_truthy_bool ?_
              have hq2 : ((Str.mk #[d]) != Str.ofString "\"") = decide (d ≠ 34) := by
                rw [bne_str]
                have : (Str.ofString "\"").cps.toList = [34] := by decide
                rw [this]
                simp
              rw [hq2, hdl]
              by_cases hd34 : d = 34
              · rw [if_neg (by simp [hd34])]
                refine isTrue_or_nil ⟨⟨_, rfl⟩, ?_⟩
                simp [hd34]
              · rw [if_pos (by simp [hd34])]
                refine ⟨⟨_, rfl⟩, ?_⟩
                simp [hd34]
          · rintro bb s' ⟨⟨tk', rfl⟩, rfl⟩
            by_cases hd : x.cps.toList[i + 1]? = some 34
            · rw [if_neg (by simp [hd])]
              refine wpAny_execs_nil ?_
              refine wpAny_execs_cons ?_
              refine wpAny_Assign_Name ?_
              refine wpAny_BinOp ?_
              refine nm_local n9 (v := .int ((i + 1 : Nat) : Int) _) (if_pos rfl) ?_ rfl rfl (by decide)
              refine wpAny_Constant_int ?_
              refine PyProof.Rows.add_int ?_
              refine wpAny_storeName_local rfl n9 (fun h10 n10 s10 => ?_) rfl
              refine wpAny_execs_nil ?_
              refine wpAny_execs_cons ?_
              refine wpAny_Assign_Name ?_
              refine wpAny_BinOp ?_
              refine nm_local n10 (v := .str ⟨D.toArray⟩ td) ((if_neg (by decide)).trans ((if_neg (by decide)).trans ((if_neg (by decide)).trans md))) ?_ rfl rfl (by decide)
              refine nm_local n10 (v := .str ⟨#[34]⟩ tk7) ((if_neg (by decide)).trans ((if_neg (by decide)).trans (if_pos rfl))) ?_ rfl rfl (by decide)
              refine PyProof.Rows.add_str (fun t' tk' => ?_) (by rw [sizeLine_eq]; show D.toArray.size + 1 ≤ _; simp; omega)
              refine wpAny_storeName_local rfl n10 (fun h11 n11 s11 => ?_) rfl
              refine wpAny_execs_nil ?_
              have hlt2 : i + 1 < x.cps.size := by
                have := (List.getElem?_eq_some_iff.mp hd).1
                simpa using this
              refine ⟨x.cps.size - (i + 2), by omega, h11, _, _, i + 2, D ++ [34], rfl, stays_of_ext hnL (stays_of_ext hnL k9 fun b o => s10.extBut b o) fun b o => s11.extBut b o, n11, ?_, ?_, ?_, ?_, hlt2, ?_, ?_, rfl⟩
              · exact (if_neg (by decide)).trans ((if_neg (by decide)).trans ((if_neg (by decide)).trans ((if_neg (by decide)).trans mr)))
              · exact ⟨_, (if_neg (by decide)).trans (if_pos rfl)⟩
              · exact ⟨t', (if_pos rfl).trans (by rw [str_app D [34]])⟩
              · exact ⟨tn, (if_neg (by decide)).trans ((if_neg (by decide)).trans ((if_neg (by decide)).trans ((if_neg (by decide)).trans mn)))⟩
              · simp; omega
              · rw [← hscan, hdr, drop_cons hd, scan_two]; simp
            · rw [if_pos (decide_eq_true hd)]
              refine wpAny_execs_cons ?_
              refine wpAny_Break ?_
              refine wpAny_execs_cons ?_
              refine wpAny_Return_some ?_
              refine nm_local n9 (v := .str ⟨D.toArray⟩ td) ((if_neg (by decide)).trans ((if_neg (by decide)).trans md)) ?_ rfl rfl (by decide)
              have q := h td h9 tk' k9
              have e : scan (x.cps.toList.drop i) = [] := by
                rw [hdr]
                cases hr : x.cps.toList.drop (i + 1) with
                | nil => exact scan_end
                | cons d r =>
                  refine scan_stop fun q => hd ?_
                  have := congrArg (·[0]?) hr
                  simp at this
                  simpa [q] using this
              rw [told257, if_pos hop, ← hscan, e, List.append_nil] at q
              exact q
        · rw [if_neg (by rw [hq]; simp [hc34])]
          refine wpAny_execs_nil ?_
          refine wpAny_execs_cons ?_
          refine wpAny_Assign_Name ?_
          refine wpAny_BinOp ?_
          refine nm_local n9 (v := .str ⟨D.toArray⟩ td) (by rw [if_neg (by decide), if_neg (by decide)]; exact md) ?_ rfl rfl (by decide)
          refine nm_local n9 (v := .str ⟨#[c]⟩ tk7) (by rw [if_neg (by decide), if_pos rfl]) ?_ rfl rfl (by decide)
          refine PyProof.Rows.add_str (fun t' tk' => ?_) (by rw [sizeLine_eq]; show D.toArray.size + 1 ≤ _; simp; omega)
          refine wpAny_storeName_local rfl n9 (fun h10 n10 s10 => ?_) rfl
          refine wpAny_execs_nil ?_
          refine ⟨x.cps.size - (i + 1), by omega, h10, _, _, i + 1, D ++ [c], rfl, stays_of_ext hnL k9 fun b o => s10.extBut b o, n10, ?_, ?_, ?_, ?_, hlt, ?_, ?_, rfl⟩
          · exact (if_neg (by decide)).trans ((if_neg (by decide)).trans ((if_neg (by decide)).trans mr))
          · exact ⟨_, (if_neg (by decide)).trans (if_pos rfl)⟩
          · exact ⟨t', (if_pos rfl).trans (by rw [str_app D [c]])⟩
          · exact ⟨tn, (if_neg (by decide)).trans ((if_neg (by decide)).trans ((if_neg (by decide)).trans mn))⟩
          · simp; omega
          · rw [← hscan, hdr, scan_ne hc34]; simp
      · rw [if_neg (by simp; omega)]
        have hin : i = x.cps.size := by omega
        subst hin
        refine wpAny_execs_cons ?_
        refine wpAny_Return_some ?_
        refine nm_local n7 md ?_ rfl rfl (by decide)
        have := h td h7 tk7 k7
        rw [told257, if_pos hop, ← hscan, show x.cps.toList.drop x.cps.size = [] from List.drop_eq_nil_of_le (by simp)] at this
        simpa [scan] using this
    · exact (if_neg (by decide)).trans ((if_neg (by decide)).trans (if_neg (by decide)))
    · exact ⟨_, (if_neg (by decide)).trans (if_pos rfl)⟩
    · exact ⟨_, (if_neg (by decide)).trans ((if_neg (by decide)).trans (if_pos rfl))⟩
    · exact ⟨_, if_pos rfl⟩
  · rw [if_pos (by simp; exact hop)]
    refine wpAny_execs_cons ?_
    refine wpAny_Return_some ?_
    refine Constant_str ?_
    have := h (k₃ + 1) h₃ (k₃ + 1 + 1) F₃.keep
    rw [told257, if_neg hop] at this
    exact this
end
end Mine
end

section
open PySem PySem.W PySem.Calls PyProof.Rows
namespace Mine
set_option maxRecDepth 100000

section
variable {prog : Program} {w : World} {A : Around}

theorem call_iter {E : Value → Shared → Prop} {s : Shared} {v : Value} {Q : Value → Shared → Prop} (h : wpAny (model prog w) A.in1 (pyIter v) Q E s) :
    wpAny (model prog w) A (call (.builtin "iter") [v]) Q E s := by
  refine call_function_entry (by decide +kernel) (by decide +kernel) kdk_entry_iter (kdk_args_iter _) ?_
  unfold Builtin.«iter»
  refine wpAny_bind (m := someArgs "iter" 1 2 _) (wpAny_of_eq (a := [v]) (by first | rfl | kernel_rfl!) ?_)
  show wpAny _ _ (pyIter v >>= _) _ _ _
  exact wpAny_bind (wpAny_mono h (fun r s' q => wpAny_pure ⟨_, rfl, q⟩) fun _ _ x => x)

theorem call_next_item {E : Value → Shared → Prop} {s : Shared} {it l : Addr} {i : Nat} {items : Array Value} {x : Value} {Q : Value → Shared → Prop} (hit : s.heap.IsListIter it l i)
    (hl : s.heap.IsList l items) (hx : items[i]? = some x) (hQ : ∀ h', h'.IsListIter it l (i + 1) → Heap.SameBut it s.heap h' → Q x { s with heap := h' }) :
    wpAny (model prog w) A (call (.builtin "next") [.ref it]) Q E s := by
  refine call_function_entry (by decide +kernel) (by decide +kernel) kdk_entry_next (kdk_args_next _) ?_
  unfold Builtin.«next»
  refine wpAny_bind (m := someArgs "next" 1 2 _) (wpAny_of_eq (a := [Value.ref it]) (by first | rfl | kernel_rfl!) ?_)
  dsimp only
  refine wpAny_bind (wpAny_specialOf (name := Str.ofString "__next__") hit.typeIs slot_listiter_next.lookup ?_)
  refine wpAny_ite_split (fun hab => absurd hab (by decide)) (fun _ => ?_)
  obtain ⟨o, ho, hc, hd⟩ := id hit
  obtain ⟨ol, hol, _, nl, hdl⟩ := hl
  refine wpAny_bind (wpAny_callSpecial?_slot (name := Str.ofString "__next__") hit.typeIs slot_listiter_next
    (wpAny_call_entry slot_listiter_next hit.typeIs entry_listiter_next ?_ (args_listiter_next _)))
  show wpAny _ _ (field (.ref it) 0 >>= _) _ _ s
  refine wpAny_bind (wpAny_field ho hd (x := .ref l) rfl ?_)
  show wpAny _ _ (if (Value.ref l == Value.none) = true then _ else _) _ _ s
  rw [if_neg (show ¬ ((Value.ref l == Value.none) = true) from Bool.false_ne_true)]
  show wpAny _ _ (field (.ref it) 1 >>= _) _ _ s
  refine wpAny_bind (wpAny_field ho hd (x := .int i 0) rfl ?_)
  show wpAny _ _ (seqItems? (.ref l) >>= _) _ _ s
  refine wpAny_bind (wpAny_seqItems hol hdl ?_)
  simp only [Int.toNat_natCast, hx]
  refine wpAny_bind (wpAny_setField ho hd (by simp) (wpAny_pure ⟨x, rfl, wpAny_pure ⟨x, rfl, hQ _ ?_ (Heap.SameBut.update ..)⟩⟩))
  exact ⟨_, Heap.get?_update_self _ ho (Obj.isFreed_of_fields (Obj.data_mapFields hd _)), (Obj.cls_mapFields ..).trans hc, by
    rw [Obj.data_mapFields hd]; simp [rawInt]⟩

theorem walks_from (hh : A.handled = none) (I l : Addr) (hne : l ≠ I) (items : Array Value) (k0 : Nat) (hk : k0 ≤ items.size) :
    Walks prog w A I [I, l] [I] (items.size - k0) (fun i v => items[k0 + i]? = some v) (fun i h => h.IsListIter I l (k0 + i) ∧ h.IsList l items) where
  sub := fun b hb => by simp at hb; simp [hb]
  frame := fun _ _ _ st hk => ⟨st.1.at fun o e => hk I (by simp) o e, st.2.at fun o e => hk l (by simp) o e⟩
  item := fun i s Q E hi st hQ => by
    refine wpAny_pyNext_list_item st.1 st.2 (x := items[k0 + i]'(by omega)) (by simp) fun h' hit' hs' => ?_
    exact hQ _ h' s.toks (by simp) ⟨by rw [← Nat.add_assoc]; exact hit', st.2.extBut hs'.extBut hne⟩ fun b o hb e => hs'.extBut b o (fun h => hb (by simp [h])) e
  done := fun s Q E st hQ => wpAny_pyNext_list_end hh st.1 st.2 (by simp; omega) fun h' he' => hQ h' s.toks fun b o hb e => he' b o (fun h => hb (by simp [h])) e
  self := fun _ _ _ _ st hQ => wpAny_pyIter_listiter st.1 hQ

theorem is_ref_same {M : Model} {E : Value → Shared → Prop} {s : Shared} {a : Addr} {Q : Value → Shared → Prop} (h : Q (.bool true) s) : wpAny M A (compareOp .Is (.ref a) (.ref a)) Q E s := by
  show wpAny M A (isSame (.ref a) (.ref a) >>= fun c => pure (Value.bool c)) Q E s
  refine wpAny_bind ?_
  unfold isSame
  simp only [beq_self_eq_true, if_true]
  exact wpAny_pure (wpAny_pure h)
theorem is_ref_list {M : Model} {E : Value → Shared → Prop} {s : Shared} {a b : Addr} {vs : Array Value} {n : Nat} {o : Obj} {Q : Value → Shared → Prop} (hab : a ≠ b) (ha : s.heap.get? a = some (listOf vs n)) (hb : s.heap.get? b = some o) (h : Q (.bool false) s) :
    wpAny M A (compareOp .Is (.ref a) (.ref b)) Q E s := by
  show wpAny M A (isSame (.ref a) (.ref b) >>= fun c => pure (Value.bool c)) Q E s
  refine wpAny_bind ?_
  unfold isSame
  have e : (a == b) = false := beq_eq_false_iff_ne.mpr hab
  simp only [e, Bool.false_eq_true, if_false]
  refine wpAny_bind (wpAny_load ha ?_)
  refine wpAny_bind (wpAny_load hb ?_)
  exact wpAny_pure (wpAny_pure h)
theorem is_none_ref {M : Model} {E : Value → Shared → Prop} {s : Shared} {b : Addr} {Q : Value → Shared → Prop} (h : Q (.bool false) s) : wpAny M A (compareOp .Is .none (.ref b)) Q E s := wpAny_pure (a := Value.bool false) h
theorem is_str_ref {M : Model} {E : Value → Shared → Prop} {s : Shared} {x : Str} {t : Tok} {b : Addr} {Q : Value → Shared → Prop} (h : Q (.bool false) s) : wpAny M A (compareOp .Is (.str x t) (.ref b)) Q E s := wpAny_pure (a := Value.bool false) h
end

/-- what reduce asks of its function: over heaps that hold g -/
def FnC (prog : Program) (w : World) (g : Heap) (f : Addr) {δ ε : Type} (e1 : δ → Dat) (e2 : ε → Dat) (F : δ → ε → δ) (Ok : δ → ε → Prop) (dep : Nat) : Prop :=
  ∀ (A : Around) (s : Shared) (Q : Value → Shared → Prop) (v1 v2 : Value) (a : δ) (b : ε) (l : List (Addr × Obj)), A.handled = none → A.depth ≤ dep → g.StaysIn s.heap → (∀ p ∈ l, s.heap.get? p.1 = some p.2) → DatIn l v1 (e1 a) → HD g v2 (e2 b) → Ok a b →
    (∀ r h' tk l', s.heap.StaysIn h' → (∀ p ∈ l', h'.get? p.1 = some p.2 ∧ (p ∈ l ∨ s.heap.get? p.1 = none)) → DatIn l' r (e1 (F a b)) → Q r { s with heap := h', toks := tk }) →
    wpAny (model prog w) A (call (.ref f) [v1, v2]) Q NE s

theorem nest_spec {prog : Program} {w : World} {A : Around} {E : Value → Shared → Prop} {s : Shared} {Q : Value → Shared → Prop} {v1 v2 : Value}
    (X : (KF w).In s.heap) (hlim : s.heap.NoLimit) (hroom : A.depth < recursionLimit)
    (h : ∀ h' tk a, s.heap.StaysIn h' → h'.get? a = some (listOf #[v1, v2] 0) → s.heap.get? a = none → Q (.ref a) { s with heap := h', toks := tk }) :
    wpAny (model prog w) A (call (.ref 98) [v1, v2]) Q E s := by
  refine' enter (binds := [(Str.ofString "told", v1), (Str.ofString "one", v2)]) X hlim ?ho ?hcd hroom ?hb ?hl ?_ ?c1 ?c2 ?c3 ?c4
  case ho => exact rfl
  case hcd => rfl
  case hb => exact BindsTo.of_eq rfl
  case hl => exact locs rfl
  case c1 => rfl
  case c2 => rfl
  case c3 => rfl
  case c4 => decide
  intro h₁ F
  refine wpAny_execs_cons ?_
  refine wpAny_Return_some ?_
  refine wpAny_List_spliced ?_
  refine spliced_more ?_
  refine nm_local F.ns (v := v1) rfl ?_ rfl rfl (by decide)
  refine spliced_more ?_
  refine nm_local F.ns (v := v2) rfl ?_ rfl rfl (by decide)
  refine spliced_none ⟨by rw [sizeLine_eq]; exact Nat.le_of_ble_eq_true rfl, ?_⟩
  refine h _ _ _ (fun b o e => Heap.get?_push_of_some _ (F.keep b o e)) (Heap.get?_push_size _ rfl) ?_
  cases e : s.heap.get? h₁.objs.size with
  | none => rfl
  | some o => exact absurd (Heap.lt_size (F.keep _ _ e)) (Nat.lt_irrefl _)

def Scalar : Dat → Prop
  | .none => True
  | .str _ => True
  | _ => False

theorem scalar_in {h : Heap} {v : Value} {d : Dat} (x : HD h v d) (hs : Scalar d) : DatIn [] v d := by
  obtain ⟨l, _, x⟩ := x
  cases x <;> first | exact .none | exact .str _ _ | exact hs.elim

theorem nest_fn {prog : Program} {w : World} {g : Heap} (X : (KF w).In g) (hlim : g.NoLimit) : FnC prog w g 98 (δ := Dat) (ε := Dat) id id (fun a b => .list [a, b]) (fun _ b => Scalar b) (recursionLimit - 1) := by
  intro A s Q v1 v2 a b l hh hd hg hl h1 h2 hok h
  refine nest_spec (X.keeps hg) (hlim.keeps hg) (Nat.lt_of_le_of_lt hd (by decide)) fun h' tk c k e en => ?_
  refine h _ h' tk ((c, listOf #[v1, v2] 0) :: l) k (fun p hp => ?_) (DatIn.list (vs := [v1, v2]) (.head _) (.cons (h1.mono fun q hq => .tail _ hq) (.cons ((scalar_in h2 hok).mono fun q hq => absurd hq List.not_mem_nil) .nil)))
  rcases List.mem_cons.mp hp with rfl | hp
  · exact ⟨e, .inr en⟩
  · exact ⟨k _ _ (hl p hp), .inl hp⟩

theorem then_fn {prog : Program} {w : World} {g : Heap} (X : (KF w).In g) (hlim : g.NoLimit) :
    FnC prog w g 67 dDeed dDeed thenD (fun a b => DOk a 900 ∧ DOk b 900) (recursionLimit - 1) := by
  intro A s Q v1 v2 a b l hh hd hg hl h1 h2 hok h
  refine then_spec (X.keeps hg) (hlim.keeps hg) hh (Nat.lt_of_le_of_lt hd (by decide)) ⟨l, hl, h1⟩ (h2.keep hg) (fun p hp => ⟨(hok.1.st p hp).1, by rw [hok.2.len]; exact (hok.1.st p hp).2⟩) (by rw [hok.1.len]; decide) (by rw [hok.2.len]; decide)
    (fun p hp => Nat.le_trans (hok.1.tx p hp) (by decide)) (fun p hp => Nat.le_trans (hok.2.tx p hp) (by decide)) fun r h' tk l' k f d => ?_
  exact h r h' tk l' k (fun p hp => ⟨(f p hp).1, .inr (f p hp).2⟩) d

noncomputable def fdOf (K : Frag) (f : Addr) (d : FuncData) : FuncData := match K.lookup f with
  | some ⟨_, _, .func fd, _⟩ => fd
  | _ => d

/-- the iterator stands, at place k0 of the list l of items -/
def RedAt (g : Heap) (L l : Addr) (items : Array Value) (f : Addr) (k0 : Nat) (h : Heap) (m : Str → Option Value) : Prop :=
  g.StaysIn h ∧ h.Ns L m ∧ m (Str.ofString "function") = some (.ref f) ∧ ∃ I, m (Str.ofString "it") = some (.ref I) ∧ I ≠ L ∧ l ≠ I ∧ g.get? I = none ∧ h.IsListIter I l k0

/-- what is asked of reduce's second argument: a list, or an iterator at its first item -/
def SeqArg (g h : Heap) (l : Addr) (sv : Value) : Prop := sv = .ref l ∨ ∃ I, sv = .ref I ∧ h.IsListIter I l 0 ∧ g.get? I = none ∧ l ≠ I

set_option maxHeartbeats 4000000 in
theorem reduce_spec {prog : Program} {w : World} {A : Around} {mg mb : Str → Option Value} {E : Value → Shared → Prop} {s : Shared} {Q : Value → Shared → Prop} {g : Heap} {f l : Addr} {vs : List Value} {nl : Nat} {sv : Value} {args : List Value}
    {δ ε : Type} {e1 : δ → Dat} {e2 : ε → Dat} {F : δ → ε → δ} {Ok : δ → ε → Prop} {d0 : δ} {ds : List ε} {fo : Obj} {fd : FuncData}
    (hg : g.StaysIn s.heap) (X : (KF w).In g) (G : g.Ns mainGlobals mg) (b : g.Ns builtinsNs mb) (hb : ∀ x : Str, x ≠ "__name__" → mb x = bootBuiltins x) (hlim : g.NoLimit) (hh : A.handled = none) (hroom : A.depth + 2 < recursionLimit)
    (hf : (KF w).lookup f = some fo) (hfd : fo.data = .func fd) (C : FnC prog w g f e1 e2 F Ok (recursionLimit - 1))
    (hl : g.get? l = some (listOf vs.toArray nl)) (hz : vs.length ≤ 900) (hsv : SeqArg g s.heap l sv)
    (hargs : (args = [.ref f, sv] ∧ ∃ v0 vs', vs = v0 :: vs' ∧ HD g v0 (e1 d0) ∧ HDs g vs' (ds.map e2)) ∨
      (∃ v0, args = [.ref f, sv, v0] ∧ HD g v0 (e1 d0) ∧ HDs g vs (ds.map e2) ∧ (∀ a, v0 = .ref a → a ≠ 47 ∧ ∃ xs n, g.get? a = some (listOf xs n)) ∧ (v0 = .none ∨ (∃ x t, v0 = .str x t) ∨ ∃ a, v0 = .ref a)))
    (hok : ∀ i d, ds[i]? = some d → Ok ((ds.take i).foldl F d0) d)
    (h : ∀ r h' tk, g.StaysIn h' → HD h' r (e1 (ds.foldl F d0)) → Q r { s with heap := h', toks := tk }) :
    wpAny (model prog w) A (call (.ref 55) args) Q E s := by
  have hb3 : ∃ vi, BindsTo s (fdOf (KF w) 55 fd) ⟨args, []⟩ [(Str.ofString "function", .ref f), (Str.ofString "sequence", sv), (Str.ofString "initial", vi)] ∧
      ((vi = .ref 47 ∧ ∃ v0 vs', vs = v0 :: vs' ∧ HD g v0 (e1 d0) ∧ HDs g vs' (ds.map e2)) ∨
      (HD g vi (e1 d0) ∧ HDs g vs (ds.map e2) ∧ (∀ a, vi = .ref a → a ≠ 47 ∧ ∃ xs n, g.get? a = some (listOf xs n)) ∧ (vi = .none ∨ (∃ x t, vi = .str x t) ∨ ∃ a, vi = .ref a))) := by
    rcases hargs with ⟨rfl, hm⟩ | ⟨v0, rfl, hm⟩
    · refine ⟨.ref 47, ?_, .inl ⟨rfl, hm⟩⟩
      exact binds_K (X.keeps hg) (by exact rfl) (by exact rfl) (by exact rfl) (by exact rfl) (by exact rfl)
    · refine ⟨v0, ?_, .inr hm⟩
      exact binds_K (X.keeps hg) (by exact rfl) (by exact rfl) (by exact rfl) (by exact rfl) (by exact rfl)
  obtain ⟨vi, hbi, hcase⟩ := hb3
  refine' enter (binds := [(Str.ofString "function", .ref f), (Str.ofString "sequence", sv), (Str.ofString "initial", vi)]) (X.keeps hg) (hlim.keeps hg) ?ho ?hcd (by omega) ?hb ?hl ?_ ?c1 ?c2 ?c3 ?c4
  case ho => exact rfl
  case hcd => rfl
  case hb => exact hbi
  case hl => exact locs rfl
  case c1 => rfl
  case c2 => rfl
  case c3 => rfl
  case c4 => decide
  intro h₁ Fm
  have hnL : s.heap.get? s.heap.objs.size = none := fresh_none (Nat.le_refl _)
  have hgL : g.get? s.heap.objs.size = none := by
    cases e : g.get? s.heap.objs.size with
    | none => rfl
    | some o => rw [hg _ _ e] at hnL; cases hnL
  have k₁ : g.StaysIn h₁ := StaysIn.trans hg Fm.keep
  refine wpAny_execs_cons ?_
  refine via (fun fl s' => fl = .next ∧ ∃ h tk m, s' = { s with heap := h, toks := tk } ∧ RedAt g s.heap.objs.size l vs.toArray f 0 h m ∧ m (Str.ofString "initial") = some vi) ?_ ?_
  · refine wpAny_Assign_Name ?_
    refine wpAny_Call_ofName ?_
    refine nm_builtin (K := KF w) (v := .builtin "iter") (X.keeps k₁) (G.keeps k₁) (b.keeps k₁) hb (by rfl) (by rfl) ?_ rfl rfl (by decide) rfl rfl (by decide)
    refine PyProof.Rows.callWith_builtin1 ?_
    refine spliced_more ?_
    refine nm_local Fm.ns (v := sv) rfl ?_ rfl rfl (by decide)
    refine spliced_none ?_
    refine call_iter ?_
    rcases hsv with rfl | ⟨I, rfl, hit, hgI, hlI⟩
    · have hL1 : h₁.IsList l vs.toArray := ⟨_, k₁ _ _ hl, rfl, _, rfl⟩
      refine wpAny_pyIter_list hL1 ?_
      refine wpAny_storeName_local rfl (Fm.ns.push _) (fun h₂ n₂ s₂ => ?_) rfl
      have hLlt : s.heap.objs.size < h₁.objs.size := by obtain ⟨o, _, _, ho, _⟩ := Fm.ns; exact Heap.lt_size ho
      have hne : h₁.objs.size ≠ s.heap.objs.size := Nat.ne_of_gt hLlt
      refine ⟨rfl, h₂, _, _, rfl, ⟨?_, n₂, rfl, h₁.objs.size, rfl, hne, ?_, ?_, ?_⟩, rfl⟩
      · exact stays_of_ext hgL (fun b o e => Heap.get?_push_of_some _ (k₁ b o e)) fun b o => s₂.extBut b o
      · exact Nat.ne_of_lt (Heap.lt_size (k₁ _ _ hl))
      · cases e : g.get? h₁.objs.size with
        | none => rfl
        | some o => exact absurd (Heap.lt_size (k₁ _ _ e)) (Nat.lt_irrefl _)
      · exact ⟨_, s₂.extBut _ _ hne (Heap.get?_push_size _ rfl), rfl, rfl⟩
    · have hit1 : h₁.IsListIter I l 0 := hit.at fun o e => Fm.keep _ _ e
      refine wpAny_pyIter_listiter hit1 ?_
      refine wpAny_storeName_local rfl Fm.ns (fun h₂ n₂ s₂ => ?_) rfl
      have hne : I ≠ s.heap.objs.size := by obtain ⟨o, ho, _⟩ := hit; exact Nat.ne_of_lt (Heap.lt_size ho)
      refine ⟨rfl, h₂, _, _, rfl, ⟨stays_of_ext hgL k₁ fun b o => s₂.extBut b o, n₂, rfl, I, rfl, hne, hlI, hgI, ?_⟩, rfl⟩
      exact hit1.at fun o e => s₂.extBut _ _ hne e
  · rintro fl s' ⟨rfl, h₂, tk₂, m₂, rfl, ⟨k₂, n₂, mf₂, I, mi₂, hIL, hlI, hgI, hit₂⟩, min₂⟩
    refine wpAny_execs_cons ?_
    refine via (fun fl s' => fl = .next ∧ ∃ h tk m k0 v0, s' = { s with heap := h, toks := tk } ∧ RedAt g s.heap.objs.size l vs.toArray f k0 h m ∧ m (Str.ofString "value") = some v0 ∧ HD g v0 (e1 d0) ∧ HDs g (vs.drop k0) (ds.map e2) ∧ k0 ≤ vs.length) ?_ ?_
    · refine wpAny_If ?_
      refine wpAny_isTrue_Compare1 ?_
      refine nm_local n₂ min₂ ?_ rfl rfl (by decide)
      refine nm_global (K := KF w) (v := .ref 47) (X.keeps k₂) (G.keeps k₂) (by rfl) ?_ rfl rfl rfl (by decide)
      rcases hcase with ⟨rfl, v0, vs', rfl, hv0, hvs⟩ | ⟨hvi, hvs, hr, hkind⟩
      · refine is_ref_same ?_
        refine wpAny_truthy_bool ?_
        rw [if_pos rfl]
        refine wpAny_execs_cons ?_
        refine wpAny_Try_except ?_
        refine wpAny_of_NE ?_
        refine wpAny_execs_cons ?_
        refine wpAny_Assign_Name ?_
        refine wpAny_Call_ofName ?_
        refine nm_builtin (K := KF w) (v := .builtin "next") (X.keeps k₂) (G.keeps k₂) (b.keeps k₂) hb (by rfl) (by rfl) ?_ rfl rfl (by decide) rfl rfl (by decide)
        refine PyProof.Rows.callWith_builtin1 ?_
        refine spliced_more ?_
        refine nm_local n₂ mi₂ ?_ rfl rfl (by decide)
        refine spliced_none ?_
        have hL2 : h₂.IsList l (v0 :: vs').toArray := ⟨_, k₂ _ _ hl, rfl, _, rfl⟩
        refine call_next_item hit₂ hL2 (x := v0) (by simp) fun h₃ hit₃ s₃ => ?_
        refine wpAny_storeName_local rfl (n₂.sameBut s₃ (Ne.symm hIL)) (fun h₄ n₄ s₄ => ?_) rfl
        refine wpAny_execs_nil ?_
        refine wpAny_execs_nil ?_
        refine wpAny_execs_nil ?_
        have k₄ : g.StaysIn h₄ := stays_of_ext hgL (stays_of_ext hgI k₂ fun b o => s₃.extBut b o) fun b o => s₄.extBut b o
        refine ⟨rfl, h₄, _, _, 1, v0, rfl, ⟨k₄, n₄, ?_, I, ?_, hIL, hlI, hgI, ?_⟩, ?_, hv0, ?_, ?_⟩
        · exact (if_neg (by decide)).trans mf₂
        · exact (if_neg (by decide)).trans mi₂
        · exact hit₃.at fun o e => s₄.extBut _ _ hIL e
        · exact if_pos rfl
        · simpa using hvs
        · simp
      · have hfalse : ∀ (Q' : Value → Shared → Prop) (A' : Around) (s' : Shared), s'.heap = h₂ → Q' (.bool false) s' → wpAny (model prog w) A' (compareOp .Is vi (.ref 47)) Q' NE s' := by
          intro Q' A' s' es hq
          rcases hkind with rfl | ⟨x, t, rfl⟩ | ⟨a, rfl⟩
          · exact is_none_ref hq
          · exact is_str_ref hq
          · obtain ⟨hne, xs, n, ea⟩ := hr a rfl
            have e47 : g.get? 47 = some _ := X 47 _ (by exact rfl)
            exact is_ref_list hne (by rw [es]; exact k₂ _ _ ea) (by rw [es]; exact k₂ _ _ e47) hq
        refine hfalse _ _ _ rfl ?_
        refine wpAny_truthy_bool ?_
        rw [if_neg (by decide)]
        refine wpAny_execs_cons ?_
        refine wpAny_Assign_Name ?_
        refine nm_local n₂ min₂ ?_ rfl rfl (by decide)
        refine wpAny_storeName_local rfl n₂ (fun h₄ n₄ s₄ => ?_) rfl
        refine wpAny_execs_nil ?_
        refine ⟨rfl, h₄, _, _, 0, vi, rfl, ⟨stays_of_ext hgL k₂ fun b o => s₄.extBut b o, n₄, ?_, I, ?_, hIL, hlI, hgI, ?_⟩, ?_, hvi, ?_, ?_⟩
        · exact (if_neg (by decide)).trans mf₂
        · exact (if_neg (by decide)).trans mi₂
        · exact hit₂.at fun o e => s₄.extBut _ _ hIL e
        · exact if_pos rfl
        · simpa using hvs
        · simp
    · rintro fl s' ⟨rfl, h₃, tk₃, m₃, k0, v0, rfl, ⟨k₃, n₃, mf₃, I', mi₃, hIL', hlI', hgI', hit₃⟩, mv₃, hv0, hvs, hk0⟩
      refine wpAny_execs_cons ?_
      refine for_T (g := g) rfl rfl ?_ (by intro _; rfl)
      refine nm_local n₃ mi₃ ?_ rfl rfl (by decide)
      refine wpAny_pyIter_listiter hit₃ ?_
      have hL3 : h₃.IsList l vs.toArray := ⟨_, k₃ _ _ hl, rfl, _, rfl⟩
      have hlen : (vs.drop k0).length = ds.length := by simpa using hvs.length
      refine ⟨I', [I', l], [I'], vs.toArray.size - k0, _, _, fun i m ll => m (Str.ofString "function") = some (.ref f) ∧ ∃ v l', m (Str.ofString "value") = some v ∧ DatIn l' v (e1 ((ds.take i).foldl F d0)) ∧ ∀ p ∈ l', p ∈ ll ∨ g.get? p.1 = some p.2, rfl,
        ⟨walks_from (by exact hh) I' l hlI' vs.toArray k0 (by simpa using hk0), ?_, ?_, ?_, ⟨by simpa using hit₃, hL3⟩, hgL, k₃, ?_, ?_, ?_⟩⟩
      · intro hm
        rcases List.mem_cons.mp hm with e | hm
        · exact hIL' e.symm
        · have : s.heap.objs.size = l := List.mem_singleton.mp hm
          rw [← this, hgL] at hl; cases hl
      · intro b hb
        rw [List.mem_singleton.mp hb]; exact hgI'
      · intro i h st b hb
        rw [List.mem_singleton.mp hb]
        obtain ⟨o, ho, _⟩ := st.1
        exact ⟨o, ho⟩
      · obtain ⟨l0, hl0, dv0⟩ := hv0
        exact ⟨m₃, [], n₃, fun _ hp => (nomatch hp), fun _ hp => (nomatch hp), mf₃, v0, l0, mv₃, dv0, fun p hp => .inr (hl0 p hp)⟩
      · rintro i v m₄ l₄ h₄ tk₄ hi hv ⟨mf₄, v4, l4, mv₄, dv4, hl4⟩ hg4 hl4f hlL4 hup4 hn4
        have hi' : i < ds.length := by rw [← hlen]; simp at hi ⊢; omega
        obtain ⟨d, hd⟩ : ∃ d, ds[i]? = some d := ⟨ds[i], List.getElem?_eq_getElem hi'⟩
        obtain ⟨v', ev', hv'⟩ := hvs.get (k := i) (d := e2 d) (by simp [hd])
        have evv : v' = v := by
          simp at hv
          rw [List.getElem?_drop] at ev'
          rw [hv] at ev'
          exact (Option.some.inj ev').symm
        subst evv
        refine wpAny_execs_cons ?_
        refine wpAny_Assign_Name ?_
        refine wpAny_Call_ofName ?_
        refine nm_local hn4 (v := .ref f) ((if_neg (by decide)).trans mf₄) ?_ rfl rfl (by decide)
        refine callWith_def hfd ?_ (by rfl)
        refine spliced_more ?_
        refine nm_local hn4 (v := v4) ((if_neg (by decide)).trans mv₄) ?_ rfl rfl (by decide)
        refine spliced_more ?_
        refine nm_local hn4 (v := v') (if_pos rfl) ?_ rfl rfl (by decide)
        refine spliced_none ⟨hg4 _ _ (X _ _ hf), ?_⟩
        have hl4' : ∀ p ∈ l4, h₄.get? p.1 = some p.2 := fun p hp => (hl4 p hp).elim (fun q => (hl4f p q).1) fun q => hg4 _ _ q
        refine C _ _ _ _ _ _ d l4 hh (by show A.depth + 1 ≤ _; omega) hg4 hl4' dv4 hv' (hok i d hd) ?_
        intro r h5 tk5 l5 k5 hl5 dr
        refine wpAny_storeName_local rfl (hn4.keeps k5) (fun h6 n6 s6 => ?_) rfl
        refine wpAny_execs_nil ?_
        have hL4 : ∃ o, h₄.get? s.heap.objs.size = some o := by obtain ⟨o, _, _, ho, _⟩ := hn4; exact ⟨o, ho⟩
        refine ⟨h6, _, _, l5.filter (fun p => (h₄.get? p.1).isNone) ++ l₄, rfl, fun b o hb e => s6.extBut b o hb (k5 _ _ e), n6, ?_, (if_neg (by decide)).trans ((if_neg (by decide)).trans mf₄), r, l5, if_pos rfl, ?_, ?_⟩
        · intro q hq
          rcases List.mem_append.mp hq with hq | hq
          · obtain ⟨hq1, hq2⟩ := List.mem_filter.mp hq
            have hnone : h₄.get? q.1 = none := by simpa using hq2
            refine ⟨s6.extBut _ _ (fun e => ?_) (hl5 q hq1).1, .inr hnone⟩
            obtain ⟨o, ho⟩ := hL4
            rw [show q.1 = s.heap.objs.size from e, ho] at hnone; cases hnone
          · exact ⟨s6.extBut _ _ (hlL4 q hq) (k5 _ _ (hl4f q hq).1), .inl hq⟩
        · rw [show ds.take (i + 1) = ds.take i ++ [d] from by simp [List.take_add_one, hd], List.foldl_append]
          exact dr
        · intro p hp
          rcases (hl5 p hp).2 with hq | hq
          · rcases hl4 p hq with q | q
            · exact .inl (List.mem_append.mpr (.inr q))
            · exact .inr q
          · exact .inl (List.mem_append.mpr (.inl (List.mem_filter.mpr ⟨hp, by simp [show Heap.get? h₄ p.1 = none from hq]⟩)))
      · rintro m' l' h' tk ⟨_, v4, l4, mv₄, dv4, hl4⟩ hg4 hl4f hn4 _ _
        refine wpAny_execs_cons ?_
        refine wpAny_Return_some ?_
        refine nm_local hn4 mv₄ ?_ rfl rfl (by decide)
        refine h _ _ _ hg4 ⟨l4, fun p hp => (hl4 p hp).elim (fun q => (hl4f p q).1) fun q => hg4 _ _ q, ?_⟩
        rwa [show ds.take (vs.toArray.size - k0) = ds from List.take_of_length_le (by rw [← hlen]; simp)] at dv4
end Mine
end

section
open PySem PySem.W PySem.Calls PyProof.Rows
namespace Mine
set_option maxRecDepth 100000

/-- the sign of a number, and whether a piece ends behind it -/
def sgn (x : Int) : Nat := if x.fmod 4 < 2 then 34 else ((x.fdiv 4).fmod 55296).toNat
def ends (x : Int) : Bool := x.fmod 2 == 1
def pstep (a : List (List Nat) × List Nat) (x : Int) : List (List Nat) × List Nat := if ends x then (a.1 ++ [a.2 ++ [sgn x]], []) else (a.1, a.2 ++ [sgn x])
def pfold (ns : List Int) : List (List Nat) × List Nat := ns.foldl pstep ([], [])
def pcs (ns : List Int) : List (List Nat) := (pfold ns).1 ++ [(pfold ns).2]
def txt (l : List Nat) : Str := ⟨l.toArray⟩
def dTexts (ls : List (List Nat)) : List Dat := ls.map fun l => .str (txt l)

theorem sgn_lt (x : Int) : sgn x < 55296 := by
  unfold sgn
  split
  · decide
  · have := (fdiv_fmod_facts (x.fdiv 4) 55296).2.2.1 (by decide)
    omega
theorem pfold_snoc (ns : List Int) (x : Int) : pfold (ns ++ [x]) = pstep (pfold ns) x := by simp [pfold]
theorem pfold_len (ns : List Int) : (pfold ns).1.length ≤ ns.length ∧ (pfold ns).2.length ≤ ns.length := by
  suffices ∀ (ns : List Int) a k, a.1.length ≤ k → a.2.length ≤ k → (ns.foldl pstep a).1.length ≤ k + ns.length ∧ (ns.foldl pstep a).2.length ≤ k + ns.length by simpa [pfold] using this ns ([], []) 0 (by simp) (by simp)
  intro ns
  induction ns with
  | nil => intro a k h1 h2; exact ⟨h1, h2⟩
  | cons x r ih =>
    intro a k h1 h2
    have := ih (pstep a x) (k + 1) (by unfold pstep; split <;> simp <;> omega) (by unfold pstep; split <;> simp <;> omega)
    rw [List.foldl_cons, List.length_cons]
    omega

section
variable {prog : Program} {w : World} {A : Around}

theorem item_last {E : Value → Shared → Prop} {s : Shared} {value slice : Expr} {l : Addr} {vs : List Value} {u : Tok} {v : Value} {n : Nat} {Q : Value → Shared → Prop}
    (hl : s.heap.get? l = some (listOf (vs ++ [v]).toArray n)) (h : Q v s)
    (hs : subscripted slice false (.ref l) (.int (-1) u) = operate [.ref l, .int (-1) u] (getItem (.ref l) (.int (-1) u))) :
    wpAny (model prog w) A (subscriptTail value slice (.ref l) (.int (-1) u)) Q E s :=
  have hl' : s.heap.IsList l (vs ++ [v]).toArray := ⟨_, hl, rfl, _, rfl⟩
  tail_any hl'.typeIs slot_list_getitem.lookup (wpAny_getItem_list_neg hl' (by decide) (by simp; omega) (by decide) (by simp [show (-1 + ((vs.length : Int) + 1)).toNat = vs.length from by omega]) h) hs

theorem setItem_last {E : Value → Shared → Prop} {s : Shared} {l : Addr} {vs : List Value} {u : Tok} {v v' : Value} {n : Nat} {Q : Unit → Shared → Prop}
    (hl : s.heap.get? l = some (listOf (vs ++ [v]).toArray n))
    (hQ : ∀ h', h'.get? l = some (listOf (vs ++ [v']).toArray n) → Heap.SameBut l s.heap h' → Q () { s with heap := h' }) :
    wpAny (model prog w) A (setItem (.ref l) (.int (-1) u) v') Q E s := by
  have hl' : s.heap.IsList l (vs ++ [v]).toArray := ⟨_, hl, rfl, _, rfl⟩
  unfold setItem
  try with_reducible refine wpAny_holding ?_
  first | refine wpAny_bind (wpAny_pure ?_) | skip
  refine wpAny_bind (wpAny_sequenceKey hl'.typeIs (by decide) ?_)
  refine wpAny_bind (wpAny_callSpecial?_slot (name := Str.ofString "__setitem__") hl'.typeIs slot_list_setitem
    (wpAny_call_entry slot_list_setitem hl'.typeIs entry_list_setitem ?_ (args_list_setitem _ _ _)))
  show wpAny _ _ (Builtin.List.listSubscript? (.int (-1) u) >>= _) _ _ s
  refine wpAny_bind (wpAny_listSubscript_int (fitsIndex_neg (by decide) (by decide)) ?_)
  show wpAny _ _ ((Builtin.List.listItems (.ref l) >>= fun xs => pure ((seqIndex? (Int.negSucc 0) xs.size).bind fun i => xs[i]?.map (i, ·))) >>= _) _ _ s
  refine wpAny_bind (wpAny_bind ?_)
  show wpAny _ _ (seqItems? (.ref l) >>= _) _ _ s
  refine wpAny_bind (wpAny_seqItems hl rfl (wpAny_pure (wpAny_pure ?_)))
  rw [show seqIndex? (Int.negSucc 0) (vs ++ [v]).toArray.size = some vs.length from by
    rw [PySem.seqIndex_neg (by decide) (by simp; omega)]
    simp
    omega]
  simp only [Option.bind_some]
  rw [show (vs ++ [v]).toArray[vs.length]? = some v from by simp]
  simp only [Option.map_some]
  show wpAny _ _ (setSeqItemAt l vs.length v' >>= _) _ _ s
  have hfin : (s.heap.update l (Obj.mapSeq (·.setIfInBounds vs.length v'))).get? l = some (listOf (vs ++ [v']).toArray n) := by
    rw [Heap.get?_update_self _ hl (by rfl)]
    simp [Obj.mapSeq]
  refine wpAny_bind (wpAny_setSeqItemAt hl rfl ?_)
  first
    | exact wpAny_bind (wpAny_pure (wpAny_pure ⟨.none, rfl, wpAny_pure (hQ _ hfin (Heap.SameBut.update ..))⟩))
    | exact wpAny_pure ⟨.none, rfl, wpAny_pure (hQ _ hfin (Heap.SameBut.update ..))⟩


/-- between two numbers -/
def QInv (s s₂ : Shared) (L I l p : Addr) (ns : List Int) (k : Nat) (s' : Shared) : Prop :=
  ∃ h tk m vals v kk i, s' = { s₂ with heap := h, toks := tk } ∧ s.heap.StaysIn h ∧ h.Ns L m ∧ m (Str.ofString "pieces") = some (.ref p) ∧ h.get? p = some (listOf (vals ++ [v]).toArray kk) ∧
    DatAll [] vals (dTexts (pfold (ns.take i)).1) ∧ (∃ tt, v = .str (txt (pfold (ns.take i)).2) tt) ∧ h.IsListIter I l i ∧ i ≤ ns.length ∧ k = ns.length + 1 - i

set_option maxHeartbeats 4000000 in
theorem pieces_spec {mg mb : Str → Option Value} {E : Value → Shared → Prop} {s : Shared} {Q : Value → Shared → Prop} {v : Value} {ns : List Int}
    (X : (KF w).In s.heap) (G : s.heap.Ns mainGlobals mg) (b : s.heap.Ns builtinsNs mb) (hb : ∀ x : Str, x ≠ "__name__" → mb x = bootBuiltins x) (hlim : s.heap.NoLimit) (hh : A.handled = none) (hroom : A.depth < recursionLimit)
    (hv : HD s.heap v (.list (ns.map .int))) (hz : ns.length ≤ 100)
    (h : ∀ r h' tk l, s.heap.StaysIn h' → Fresh s.heap h' l → DatIn l r (.list (dTexts (pcs ns))) → Q r { s with heap := h', toks := tk }) :
    wpAny (model prog w) A (call (.ref 62) [v]) Q E s := by
  obtain ⟨l, vs, nl, rfl, hl, hvs⟩ := HD.list hv
  have hlen : vs.length = ns.length := by simpa using hvs.length
  refine' enter (binds := [(Str.ofString "numbers", .ref l)]) X hlim ?ho ?hcd hroom ?hb ?hl ?_ ?c1 ?c2 ?c3 ?c4
  case ho => exact rfl
  case hcd => rfl
  case hb => exact BindsTo.of_eq rfl
  case hl => exact locs rfl
  case c1 => rfl
  case c2 => rfl
  case c3 => rfl
  case c4 => decide
  intro h₁ F
  have hnL : s.heap.get? s.heap.objs.size = none := fresh_none (Nat.le_refl _)
  have hLlt : s.heap.objs.size < h₁.objs.size := by obtain ⟨o, _, _, ho, _⟩ := F.ns; exact Heap.lt_size ho
  refine wpAny_execs_cons ?_
  refine wpAny_Assign_Name ?_
  refine wpAny_List_spliced ?_
  refine spliced_more ?_
  refine Constant_str ?_
  refine spliced_none ⟨by rw [sizeLine_eq]; exact Nat.le_of_ble_eq_true rfl, ?_⟩
  refine wpAny_storeName_local rfl (F.ns.push _) (fun h₂ n₂ s₂ => ?_) rfl
  have hpL : h₁.objs.size ≠ s.heap.objs.size := Nat.ne_of_gt hLlt
  have hps : s.heap.get? h₁.objs.size = none := by
    cases e : s.heap.get? h₁.objs.size with
    | none => rfl
    | some o => exact absurd (Heap.lt_size (F.keep _ _ e)) (Nat.lt_irrefl _)
  have k₂ : s.heap.StaysIn h₂ := stays_of_ext hnL (fun b o e => Heap.get?_push_of_some _ (F.keep b o e)) fun b o => s₂.extBut b o
  have hp₂ : h₂.get? h₁.objs.size = some (listOf ([] ++ [Value.str (Str.ofString "") (s.toks + 1)]).toArray 0) := s₂.extBut _ _ hpL (Heap.get?_push_size _ rfl)
  refine wpAny_execs_cons ?_
  refine wpAny_For ?_ (by intro _; rfl)
  refine nm_local n₂ (v := .ref l) rfl ?_ rfl rfl (by decide)
  have hL2 : h₂.IsList l vs.toArray := ⟨_, k₂ _ _ hl, rfl, _, rfl⟩
  refine wpAny_pyIter_list hL2 ?_
  have hI2 : ∀ b o, h₂.get? b = some o → b ≠ h₂.objs.size := fun b o e => Nat.ne_of_lt (Heap.lt_size e)
  refine codeAny_forLoop (QInv s _ s.heap.objs.size h₂.objs.size l h₁.objs.size ns) ?_ (ns.length + 1) ⟨_, _, _, [], _, 0, 0, rfl, ?_, n₂.push _, rfl, Heap.get?_push_of_some _ hp₂, .nil, ⟨_, rfl⟩, ⟨_, Heap.get?_push_size _ rfl, rfl, rfl⟩, Nat.zero_le _, rfl⟩
  · rintro k s' ⟨h3, tk3, m3, vals, v3, kk, i, rfl, k3, n3, mp3, hp3, hd3, ⟨tt, rfl⟩, hit3, hi, rfl⟩
    have hL3 : h3.IsList l vs.toArray := ⟨_, k3 _ _ hl, rfl, _, rfl⟩
    have hIp : h₂.objs.size ≠ h₁.objs.size := Ne.symm (hI2 _ _ hp₂)
    have hIL : h₂.objs.size ≠ s.heap.objs.size := by obtain ⟨o, _, _, ho, _⟩ := n₂; exact Ne.symm (hI2 _ _ ho)
    have hIs : s.heap.get? h₂.objs.size = none := by
      cases e : s.heap.get? h₂.objs.size with
      | none => rfl
      | some o => exact absurd rfl (hI2 _ _ (k₂ _ _ e))
    by_cases hlt : i < ns.length
    · obtain ⟨x, hx⟩ : ∃ x, ns[i]? = some x := ⟨ns[i], List.getElem?_eq_getElem hlt⟩
      obtain ⟨v', ev', hv'⟩ := hvs.get (k := i) (d := .int x) (by simp [hx])
      obtain ⟨tx, rfl⟩ : ∃ tx, v' = .int x tx := by obtain ⟨_, _, z⟩ := hv'; cases z; exact ⟨_, rfl⟩
      have hpl := pfold_len (ns.take i)
      have hti : (ns.take i).length ≤ 100 := by simp; omega
      refine wpAny_of_NE ?_
      refine wpAny_pyNext_list_item hit3 hL3 (by simpa using ev') fun h4 hit4 s4 => ?_
      refine wpAny_of_NE ?_
      refine wpAny_assign_Name (wpAny_storeName_local rfl (n3.sameBut s4 (Ne.symm hIL)) (fun h5 n5 s5 => ?_) rfl)
      have hp5 : h5.get? h₁.objs.size = some _ := s5.extBut _ _ hpL (s4.extBut _ _ (Ne.symm hIp) hp3)
      have k5 : s.heap.StaysIn h5 := stays_of_ext hnL (stays_of_ext hIs k3 fun b o => s4.extBut b o) fun b o => s5.extBut b o
      have hit5 : h5.IsListIter h₂.objs.size l (i + 1) := hit4.at fun o e => s5.extBut _ _ hIL e
      refine wpAny_of_NE ?_
      refine wpAny_execs_cons ?_
      refine wpAny_Assign_Subscript ?_
      refine wpAny_BinOp ?_
      refine Subscript_ ?_
      refine nm_local n5 (v := .ref h₁.objs.size) ((if_neg (by decide)).trans mp3) ?_ rfl rfl (by decide)
      refine UnaryOp_ ?_
      refine wpAny_Constant_int ?_
      refine PyProof.Rows.neg_int ?_
      refine item_last hp5 ?_ (by with_unfolding_all rfl)
      refine via (fun r s' => (∃ t9, r = .str ⟨#[sgn x]⟩ t9) ∧ ∃ tk9, s' = { s with heap := h5, toks := tk9 }) ?_ ?_
      · refine wpAny_IfExp ?_
        refine wpAny_isTrue_Compare1 ?_
        refine wpAny_BinOp ?_
        refine nm_local n5 (v := .int x tx) (if_pos rfl) ?_ rfl rfl (by decide)
        refine wpAny_Constant_int ?_
        refine PyProof.Rows.mod_int' (by decide) ?_
        refine wpAny_Constant_int ?_
        refine PyProof.Rows.lt_int ?_
        refine wpAny_truthy_bool ?_
        by_cases hm : x.fmod 4 < 2
        · rw [if_pos (decide_eq_true hm)]
          refine Constant_str ?_
          have e34 : Str.ofString "\"" = Str.mk #[sgn x] := by rw [sgn, if_pos hm]; decide
          exact ⟨⟨_, congrArg (fun y => Value.str y _) e34⟩, ⟨_, rfl⟩⟩
        · rw [if_neg (by simpa using hm)]
          refine wpAny_Call_ofName ?_
          refine nm_builtin (K := KF w) (v := .builtin "chr") (X.keeps k5) (G.keeps k5) (b.keeps k5) hb (by rfl) (by rfl) ?_ rfl rfl (by decide) rfl rfl (by decide)
          refine PyProof.Rows.callWith_builtin1 ?_
          refine spliced_more ?_
          refine wpAny_BinOp ?_
          refine wpAny_BinOp ?_
          refine nm_local n5 (v := .int x tx) (if_pos rfl) ?_ rfl rfl (by decide)
          refine wpAny_Constant_int ?_
          refine PyProof.Rows.floordiv_int (by decide) ?_ (Or.inl (PyProof.noPylong_of_log2 (by decide +kernel)))
          refine wpAny_Constant_int ?_
          refine PyProof.Rows.mod_int' (by decide) ?_
          refine spliced_none ?_
          have hr := (fdiv_fmod_facts (x.fdiv 4) 55296).2.2.1 (by decide)
          refine chr_of_range hr.1 (by omega) ?_
          have e9 : Str.mk #[((x.fdiv 4).fmod 55296).toNat] = Str.mk #[sgn x] := by rw [sgn, if_neg hm]
          exact ⟨⟨_, congrArg (fun y => Value.str y _) e9⟩, ⟨_, rfl⟩⟩
      · rintro r s' ⟨⟨t9, rfl⟩, ⟨tk9, rfl⟩⟩
        refine PyProof.Rows.add_str (fun t10 tk10 => ?_) (by rw [sizeLine_eq]; show (txt _).cps.size + 1 ≤ _; simp [txt]; omega)
        refine nm_local n5 (v := .ref h₁.objs.size) ((if_neg (by decide)).trans mp3) ?_ rfl rfl (by decide)
        refine UnaryOp_ ?_
        refine wpAny_Constant_int ?_
        refine PyProof.Rows.neg_int ?_
        refine setItem_last hp5 fun h6 hp6 s6 => ?_
        have k6 : s.heap.StaysIn h6 := stays_of_ext hps k5 fun b o => s6.extBut b o
        have n6 := n5.sameBut s6 (Ne.symm hpL)
        have hit6 : h6.IsListIter h₂.objs.size l (i + 1) := hit5.at fun o e => s6.extBut _ _ hIp e
        have etake : ns.take (i + 1) = ns.take i ++ [x] := by simp [List.take_add_one, hx]
        have etxt : txt (pfold (ns.take i)).2 ++ (Str.mk #[sgn x]) = txt ((pfold (ns.take i)).2 ++ [sgn x]) := str_app _ [sgn x]
        refine wpAny_execs_cons ?_
        refine wpAny_If ?_
        refine wpAny_isTrue_Compare1 ?_
        refine wpAny_BinOp ?_
        refine nm_local n6 (v := .int x tx) (if_pos rfl) ?_ rfl rfl (by decide)
        refine wpAny_Constant_int ?_
        refine PyProof.Rows.mod_int' (by decide) ?_
        refine wpAny_Constant_int ?_
        refine PyProof.Rows.eq_int ?_
        refine wpAny_truthy_bool ?_
        by_cases ho : ends x = true
        · rw [if_pos (by exact ho)]
          refine wpAny_execs_cons ?_
          refine wpAny_Expr ?_
          refine MethodCall_ ?_
          refine nm_local n6 (v := .ref h₁.objs.size) ((if_neg (by decide)).trans mp3) ?_ rfl rfl (by decide)
          refine getMethod_list_append hp6 rfl rfl ?_
          refine callWith_method1 ?_
          refine spliced_more ?_
          refine Constant_str ?_
          refine spliced_none ?_
          refine wpAny_list_append_plain (hsz := by rw [sizeLine_eq]; have := hd3.length; simp [dTexts] at this; simp; omega) ⟨_, hp6⟩ fun h7 hp7 s7 => ?_
          obtain ⟨k7n, hp7⟩ := hp7
          rw [etxt] at hp7
          obtain ⟨tX, hp8⟩ : ∃ tX, h7.get? h₁.objs.size = some (listOf ((vals ++ [Value.str (txt ((pfold (ns.take i)).2 ++ [sgn x])) t10]) ++ [Value.str (txt []) tX]).toArray k7n) :=
            ⟨_, hp7.trans (congrArg (fun z => some (listOf z k7n)) (List.push_toArray ..))⟩
          refine wpAny_execs_nil ?_
          refine wpAny_execs_nil ?_
          refine ⟨ns.length + 1 - (i + 1), by omega, h7, _, _, vals ++ [Value.str (txt ((pfold (ns.take i)).2 ++ [sgn x])) t10], Value.str (txt []) tX, k7n, i + 1, rfl, stays_of_ext hps k6 fun b o => s7.extBut b o, n6.sameBut s7 (Ne.symm hpL), (if_neg (by decide)).trans mp3, hp8, ?_, ?_, hit6.at fun o e => s7.extBut _ _ hIp e, hlt, rfl⟩
          · rw [etake, pfold_snoc, pstep, if_pos ho]
            rw [dTexts, List.map_append]
            exact hd3.append (.cons (.str _ _) .nil)
          · rw [etake, pfold_snoc, pstep, if_pos ho]
            exact ⟨_, rfl⟩
        · rw [if_neg (by exact ho)]
          refine wpAny_execs_nil ?_
          refine wpAny_execs_nil ?_
          rw [etxt] at hp6
          refine ⟨ns.length + 1 - (i + 1), by omega, h6, _, _, vals, Value.str (txt ((pfold (ns.take i)).2 ++ [sgn x])) t10, kk, i + 1, rfl, k6, n6, (if_neg (by decide)).trans mp3, hp6, ?_, ?_, hit6, hlt, rfl⟩
          · rw [etake, pfold_snoc, pstep, if_neg ho]
            exact hd3
          · rw [etake, pfold_snoc, pstep, if_neg ho]
            exact ⟨_, rfl⟩
    · have hin : i = ns.length := by omega
      subst hin
      refine wpAny_of_NE ?_
      refine wpAny_pyNext_list_end hh hit3 hL3 (by simp [hlen]) fun h4 he4 => ?_
      refine wpAny_execs_nil ?_
      refine wpAny_execs_cons ?_
      refine wpAny_Return_some ?_
      have k4 : s.heap.StaysIn h4 := stays_of_ext hIs k3 fun b o => he4 b o
      have hp4 := he4 _ _ (Ne.symm hIp) hp3
      refine nm_local (n3.extBut he4 (Ne.symm hIL)) mp3 ?_ rfl rfl (by decide)
      rw [List.take_length] at hd3 hp4
      refine h _ h4 _ [(h₁.objs.size, listOf (vals ++ [Value.str (txt (pfold ns).2) tt]).toArray kk)] k4 ?_ (DatIn.list (vs := vals ++ [Value.str (txt (pfold ns).2) tt]) (n := kk) (.head _) ?_)
      · intro q hq
        rw [List.mem_singleton.mp hq]
        exact ⟨hp4, hps⟩
      · rw [pcs, dTexts, List.map_append]
        exact (hd3.mono fun _ hq => absurd hq List.not_mem_nil).append (.cons (.str _ _) .nil)
  · exact fun b o e => Heap.get?_push_of_some _ (k₂ b o e)
end
end Mine
end

section
open PySem PySem.W PySem.Calls PyProof.Rows
namespace Mine
set_option maxRecDepth 100000

def nestD (d0 : Dat) (ds : List Dat) : Dat := ds.foldl (fun a b => .list [a, b]) d0

section
variable {prog : Program} {w : World} {A : Around}

theorem sub_from {E : Value → Shared → Prop} {s : Shared} {env : Env} {value : Expr} {i : Nat} {kk : Nat} {p q pos : Pos} {l : Addr} {vs : List Value} {n : Nat} {Q : Value → Shared → Prop}
    (hval : ∀ Q' : Value → Shared → Prop, Q' (.ref l) s → wpAny (model prog w) A (eval value env) Q' E s) (hl : s.heap.get? l = some (listOf vs.toArray n)) (hz : vs.length ≤ 900)
    (h : ∀ D h' tk, s.heap.StaysIn h' → h'.get? D = some (listOf (vs.drop i).toArray 0) → s.heap.get? D = none → Q (.ref D) { s with heap := h', toks := tk })
    (ht : ∀ o r, letTemporaryGo value o r = pure ()) :
    wpAny (model prog w) A (eval (.Subscript value (.Slice (some (.Constant (.int (i : Int)) kk q)) none none p) pos) env) Q E s := by
  refine wpAny_Subscript_Slice slot_list_getitem.lookup (hval _ ?_) ht
  refine wpAny_Slice ?_
  refine evalPart_some_step ?_
  refine wpAny_Constant_int ?_
  refine evalPart_none_step ?_
  refine evalPart_none_step ?_
  have hL : (s.heap.push { cls := .type "slice", data := .fields #[.int (i : Int) s.toks, .none, .none] }).IsList l vs.toArray := ⟨_, Heap.get?_push_of_some _ hl, rfl, _, rfl⟩
  refine ⟨hL.typeIs, ?_⟩
  refine wpAny_getItem_list_slice (lo := some (i : Int)) (hi := none) (st := none) hL ⟨_, Heap.get?_push_size _ rfl, rfl, rfl⟩ (.int _ _) .none .none (by decide) ?_ (by rw [sizeLine_eq]; simp; omega)
  rw [slicePick_from']
  refine h _ _ _ (fun b o e => Heap.get?_push_of_some _ (Heap.get?_push_of_some _ e)) (Heap.get?_push_size _ rfl) ?_
  refine fresh_none ?_
  rw [Heap.size_push]
  exact Nat.le_succ _

theorem sub_to {E : Value → Shared → Prop} {s : Shared} {env : Env} {value : Expr} {i : Nat} {kk : Nat} {p q pos : Pos} {l : Addr} {vs : List Value} {n : Nat} {Q : Value → Shared → Prop}
    (hval : ∀ Q' : Value → Shared → Prop, Q' (.ref l) s → wpAny (model prog w) A (eval value env) Q' E s) (hl : s.heap.get? l = some (listOf vs.toArray n)) (hz : vs.length ≤ 900)
    (h : ∀ D h' tk, s.heap.StaysIn h' → h'.get? D = some (listOf (vs.take i).toArray 0) → s.heap.get? D = none → Q (.ref D) { s with heap := h', toks := tk })
    (ht : ∀ o r, letTemporaryGo value o r = pure ()) :
    wpAny (model prog w) A (eval (.Subscript value (.Slice none (some (.Constant (.int (i : Int)) kk q)) none p) pos) env) Q E s := by
  refine wpAny_Subscript_Slice slot_list_getitem.lookup (hval _ ?_) ht
  refine wpAny_Slice ?_
  refine evalPart_none_step ?_
  refine evalPart_some_step ?_
  refine wpAny_Constant_int ?_
  refine evalPart_none_step ?_
  have hL : (s.heap.push { cls := .type "slice", data := .fields #[.none, .int (i : Int) s.toks, .none] }).IsList l vs.toArray := ⟨_, Heap.get?_push_of_some _ hl, rfl, _, rfl⟩
  refine ⟨hL.typeIs, ?_⟩
  refine wpAny_getItem_list_slice (lo := none) (hi := some (i : Int)) (st := none) hL ⟨_, Heap.get?_push_size _ rfl, rfl, rfl⟩ .none (.int _ _) .none (by decide) ?_ (by rw [sizeLine_eq]; simp; omega)
  rw [slicePick_upto']
  refine h _ _ _ (fun b o e => Heap.get?_push_of_some _ (Heap.get?_push_of_some _ e)) (Heap.get?_push_size _ rfl) ?_
  refine fresh_none ?_
  rw [Heap.size_push]
  exact Nat.le_succ _

set_option maxHeartbeats 4000000 in
theorem nested_spec {E : Value → Shared → Prop} {s : Shared} {Q : Value → Shared → Prop} {v : Value} {d0 : Dat} {ds : List Dat}
    (X : (KF w).In s.heap) (hlim : s.heap.NoLimit) (hh : A.handled = none) (hroom : A.depth < recursionLimit)
    (hv : HD s.heap v (.list (d0 :: ds))) (hz : ds.length ≤ 800) (hsc : ∀ d ∈ ds, Scalar d)
    (h : ∀ r h' tk, s.heap.StaysIn h' → HD h' r (nestD d0 ds) → Q r { s with heap := h', toks := tk }) :
    wpAny (model prog w) A (call (.ref 105) [v]) Q E s := by
  obtain ⟨l, vs, nl, rfl, hl, hvs⟩ := HD.list hv
  have hlen : vs.length = ds.length + 1 := by simpa using hvs.length
  obtain ⟨v0, vs', rfl⟩ : ∃ v0 vs', vs = v0 :: vs' := by cases vs with | nil => simp at hlen | cons a b => exact ⟨a, b, rfl⟩
  obtain ⟨hv0, hvs'⟩ := hvs.head
  refine' enter (binds := [(Str.ofString "things", .ref l)]) X hlim ?ho ?hcd hroom ?hb ?hl ?_ ?c1 ?c2 ?c3 ?c4
  case ho => exact rfl
  case hcd => rfl
  case hb => exact BindsTo.of_eq rfl
  case hl => exact locs rfl
  case c1 => rfl
  case c2 => rfl
  case c3 => rfl
  case c4 => decide
  intro h₁ F
  have hnL : s.heap.get? s.heap.objs.size = none := fresh_none (Nat.le_refl _)
  refine wpAny_execs_cons ?_
  refine wpAny_Assign_Name ?_
  refine Subscript_ ?_
  refine nm_local F.ns (v := .ref l) rfl ?_ rfl rfl (by decide)
  refine wpAny_Constant_int ?_
  refine item_list (F.keep _ _ hl) (by decide) (by decide) (v := v0) rfl ?_ (by with_unfolding_all rfl)
  refine wpAny_storeName_local rfl F.ns (fun h₂ n₂ s₂ => ?_) rfl
  have k₂ : s.heap.StaysIn h₂ := stays_of_ext hnL F.keep fun b o => s₂.extBut b o
  refine wpAny_execs_cons ?_
  refine for_T (g := s.heap) rfl rfl ?_ (by intro _; rfl)
  refine sub_from (i := 1) (l := l) (vs := v0 :: vs') (fun Q' q => nm_local n₂ (v := .ref l) rfl q rfl rfl (by decide)) (k₂ _ _ hl) (by simp at hlen ⊢; omega) ?_ (by intro _ _; rfl)
  intro D h₃ tk₃ k₃ hD hDn
  have hL3 : h₃.IsList D vs'.toArray := ⟨_, hD, rfl, _, rfl⟩
  refine wpAny_pyIter_list hL3 ?_
  have kk3 : s.heap.StaysIn h₃ := StaysIn.trans k₂ k₃
  have hDI : D ≠ h₃.objs.size := Nat.ne_of_lt (Heap.lt_size hD)
  have n3 := n₂.keeps k₃
  have hLn : ∃ o, h₂.get? s.heap.objs.size = some o := by obtain ⟨o, _, _, ho, _⟩ := n₂; exact ⟨o, ho⟩
  have hDL : D ≠ s.heap.objs.size := fun e => by obtain ⟨o, ho⟩ := hLn; rw [e, show Heap.get? h₂ s.heap.objs.size = _ from ho] at hDn; cases hDn
  have hIL : h₃.objs.size ≠ s.heap.objs.size := by obtain ⟨o, ho⟩ := hLn; exact Nat.ne_of_gt (Heap.lt_size (k₃ _ _ ho))
  have hlen' : vs'.length = ds.length := by simpa using hlen
  refine ⟨h₃.objs.size, _, _, _, _, _, fun i m ll => ∃ v l', m (Str.ofString "told") = some v ∧ DatIn l' v (nestD d0 (ds.take i)) ∧ ∀ p ∈ l', p ∈ ll ∨ s.heap.get? p.1 = some p.2, rfl,
    ⟨Walks.list (by exact hh) h₃.objs.size D hDI vs'.toArray, ?_, ?_, ?_, ⟨⟨_, Heap.get?_push_size _ rfl, rfl, rfl⟩, hL3.push _⟩, hnL, fun b o e => Heap.get?_push_of_some _ (kk3 b o e), ?_, ?_, ?_⟩⟩
  · intro hm
    rcases List.mem_cons.mp hm with e | hm
    · exact hIL e.symm
    · exact hDL (List.mem_singleton.mp hm).symm
  · intro b hb
    rw [List.mem_singleton.mp hb]
    cases e : s.heap.get? h₃.objs.size with
    | none => rfl
    | some o => exact absurd (Heap.lt_size (kk3 _ _ e)) (Nat.lt_irrefl _)
  · intro i h st b hb
    rw [List.mem_singleton.mp hb]
    obtain ⟨o, ho, _⟩ := st.1
    exact ⟨o, ho⟩
  · obtain ⟨l0, hl0, dv0⟩ := hv0
    exact ⟨_, [], n3.push _, fun _ hp => (nomatch hp), fun _ hp => (nomatch hp), v0, l0, rfl, dv0, fun p hp => .inr (hl0 p hp)⟩
  · rintro i v m₄ l₄ h₄ tk₄ hi hv ⟨v4, l4, mv₄, dv4, hl4⟩ hg4 hl4f hlL4 hup4 hn4
    have hi' : i < ds.length := by rw [← hlen']; simpa using hi
    obtain ⟨d, hd⟩ : ∃ d, ds[i]? = some d := ⟨ds[i], List.getElem?_eq_getElem hi'⟩
    obtain ⟨v', ev', hv'⟩ := hvs'.get (k := i) (d := d) hd
    have evv : v' = v := by
      simp at hv
      rw [hv] at ev'
      exact (Option.some.inj ev').symm
    subst evv
    have dsc := scalar_in hv' (hsc d (List.mem_of_getElem? hd))
    refine wpAny_execs_cons ?_
    refine wpAny_Assign_Name ?_
    refine wpAny_List_spliced ?_
    refine spliced_more ?_
    refine nm_local hn4 (v := v4) ((if_neg (by decide)).trans mv₄) ?_ rfl rfl (by decide)
    refine spliced_more ?_
    refine nm_local hn4 (v := v') (if_pos rfl) ?_ rfl rfl (by decide)
    refine spliced_none ⟨by rw [sizeLine_eq]; exact Nat.le_of_ble_eq_true rfl, ?_⟩
    refine wpAny_storeName_local rfl (hn4.push _) (fun h6 n6 s6 => ?_) rfl
    refine wpAny_execs_nil ?_
    have hL4 : s.heap.objs.size < h₄.objs.size := by obtain ⟨o, _, _, ho, _⟩ := hn4; exact Heap.lt_size ho
    have hne : h₄.objs.size ≠ s.heap.objs.size := Nat.ne_of_gt hL4
    refine ⟨h6, _, _, (h₄.objs.size, listOf #[v4, v'] 0) :: l₄, rfl, fun b o hb e => s6.extBut b o hb (Heap.get?_push_of_some _ e), n6, ?_, .ref h₄.objs.size, (h₄.objs.size, listOf #[v4, v'] 0) :: l4, if_pos rfl, ?_, ?_⟩
    · intro q hq
      rcases List.mem_cons.mp hq with rfl | hq
      · exact ⟨s6.extBut _ _ hne (Heap.get?_push_size _ rfl), .inr (fresh_none (Nat.le_refl _))⟩
      · exact ⟨s6.extBut _ _ (hlL4 q hq) (Heap.get?_push_of_some _ (hl4f q hq).1), .inl hq⟩
    · rw [show ds.take (i + 1) = ds.take i ++ [d] from by simp [List.take_add_one, hd], nestD, List.foldl_append]
      exact DatIn.list (vs := [v4, v']) (.head _) (.cons (dv4.mono fun q hq => .tail _ hq) (.cons (dsc.mono fun q hq => absurd hq List.not_mem_nil) .nil))
    · intro p hp
      rcases List.mem_cons.mp hp with rfl | hp
      · exact .inl (.head _)
      · exact (hl4 p hp).imp (fun q => .tail _ q) id
  · rintro m' l' h' tk ⟨v4, l4, mv₄, dv4, hl4⟩ hg4 hl4f hn4 _ _
    refine wpAny_execs_cons ?_
    refine wpAny_Return_some ?_
    refine nm_local hn4 mv₄ ?_ rfl rfl (by decide)
    refine h _ _ _ hg4 ⟨l4, fun p hp => (hl4 p hp).elim (fun q => (hl4f p q).1) fun q => hg4 _ _ q, ?_⟩
    rwa [show ds.take vs'.toArray.size = ds from List.take_of_length_le (by simp [hlen'])] at dv4
end
end Mine
end

section
open PySem PySem.W PySem.Calls PyProof.Rows
namespace Mine
set_option maxRecDepth 100000

/-- what is read from a state on -/
def scanS (st : Int) (l : List Nat) : List Nat := if st = 0 then scan l else if st = 1 then (match l with
    | [] => []
    | d :: r => if d = 34 then 34 :: scan r else []) else []

theorem scan_quote (r : List Nat) : scan (34 :: r) = scanS 1 r := by
  rw [scan.eq_def]
  cases r <;> simp [scanS]
theorem scanS0 (l : List Nat) : scanS 0 l = scan l := by simp [scanS]
theorem scanS2 (l : List Nat) : scanS 2 l = [] := by simp [scanS]
theorem scanS1_ne {d : Nat} {r : List Nat} (h : d ≠ 34) : scanS 1 (d :: r) = [] := by simp [scanS, h]

theorem quo_iff (c : Nat) : ((Str.mk #[c]) == quo) = decide (c = 34) := by
  rw [beq_str]
  have : quo.cps.toList = [34] := by decide
  rw [this]
  simp

def tx (s : Str) : List Nat := s.cps.toList
theorem tx_append (a b : Str) : tx (a ++ b) = tx a ++ tx b := by simp [tx, Str.cps_append]

theorem sign_run (c : Nat) (r : List Nat) (st : Int) (h0 : 0 ≤ st) (h3 : st.toNat < 3) :
    scanS st (c :: r) = tx (atD (signD ⟨#[c]⟩) st).2 ++ scanS (atD (signD ⟨#[c]⟩) st).1 r := by
  have hst : st = 0 ∨ st = 1 ∨ st = 2 := by omega
  unfold signD
  rw [quo_iff]
  by_cases hc : c = 34
  · subst hc
    simp only [decide_true, if_true]
    rcases hst with rfl | rfl | rfl
    · show scanS 0 (34 :: r) = tx "" ++ scanS 1 r
      rw [scanS0, scan_quote]; rfl
    · show scanS 1 (34 :: r) = tx quo ++ scanS 0 r
      rw [scanS0]
      show _ = [34] ++ scan r
      simp [scanS]
    · show scanS 2 (34 :: r) = tx "" ++ scanS 2 r
      rw [scanS2, scanS2]; rfl
  · simp only [hc, decide_false, Bool.false_eq_true, if_false]
    rcases hst with rfl | rfl | rfl
    · show scanS 0 (c :: r) = tx ⟨#[c]⟩ ++ scanS 0 r
      rw [scanS0, scanS0, scan_ne hc]; rfl
    · show scanS 1 (c :: r) = tx "" ++ scanS 2 r
      rw [scanS1_ne hc, scanS2]; rfl
    · show scanS 2 (c :: r) = tx "" ++ scanS 2 r
      rw [scanS2, scanS2]; rfl

theorem atD_then {D E : Deed} {st : Int} (h : st.toNat < D.length) : atD (thenD D E) st = ((atD E (atD D st).1).1, (atD D st).2 ++ (atD E (atD D st).1).2) := by
  have e : (thenD D E)[st.toNat]? = some ((atD E (D[st.toNat]).1).1, (D[st.toNat]).2 ++ (atD E (D[st.toNat]).1).2) := by simp [thenD, h]
  have e2 : atD D st = D[st.toNat] := by simp [atD, h]
  rw [e2, atD, List.getD_eq_getElem?_getD, e]
  rfl

theorem fold_run (l : List Nat) : ∀ (D : Deed) (k : Nat) (pre : List Nat), DOk D k → (∀ (r : List Nat) (st : Int), 0 ≤ st → st.toNat < 3 → scanS st (pre ++ r) = tx (atD D st).2 ++ scanS (atD D st).1 r) →
    ∀ (r : List Nat) (st : Int), 0 ≤ st → st.toNat < 3 → scanS st (pre ++ l ++ r) = tx (atD (l.foldl (fun D c => thenD D (signD ⟨#[c]⟩)) D) st).2 ++ scanS (atD (l.foldl (fun D c => thenD D (signD ⟨#[c]⟩)) D) st).1 r := by
  induction l with
  | nil => intro D k pre ok h r st h0 h3; simpa using h r st h0 h3
  | cons c l ih =>
    intro D k pre ok h r st h0 h3
    rw [List.foldl_cons, show pre ++ c :: l ++ r = (pre ++ [c]) ++ l ++ r from by simp]
    refine ih _ (k + 1) (pre ++ [c]) (thenD_ok ok (signD_DOk (one_len c))) ?_ r st h0 h3
    intro r st h0 h3
    have hm := ok.st _ (atD_mem (i := st) (by rw [ok.len]; exact h3))
    rw [atD_then (by rw [ok.len]; exact h3), List.append_assoc, h _ st h0 h3, tx_append, List.append_assoc]
    congr 1
    exact sign_run c r _ hm.1 hm.2
theorem deed_run (l r : List Nat) (st : Int) (h0 : 0 ≤ st) (h3 : st.toNat < 3) : scanS st (l ++ r) = tx (atD (deedL l) st).2 ++ scanS (atD (deedL l) st).1 r := by
  refine fold_run l idD 0 [] idD_ok ?_ r st h0 h3
  intro r st h0 h3
  have hst : st = 0 ∨ st = 1 ∨ st = 2 := by omega
  rcases hst with rfl | rfl | rfl <;> rfl

theorem deed_ext {D E : Deed} (h : D.length = E.length) (h2 : ∀ i, i < D.length → D.getD i (0, "") = E.getD i (0, "")) : D = E := by
  apply List.ext_getElem h
  intro i a b
  have := h2 i a
  simpa [a, b] using this
theorem thenD_assoc {A B C : Deed} {i j k : Nat} (a : DOk A i) (b : DOk B j) (c : DOk C k) : thenD (thenD A B) C = thenD A (thenD B C) := by
  apply List.ext_getElem (by simp [thenD])
  intro n h1 h2
  have hn : n < A.length := by simpa [thenD] using h1
  have hm : (A[n]).1.toNat < B.length := by rw [b.len]; exact (a.st _ (List.getElem_mem hn)).2
  have e := atD_then (D := B) (E := C) hm
  simp only [thenD, List.getElem_map, List.map_map] at e ⊢
  rw [e]
  simp only [Function.comp]
  rw [Str.append_assoc]
theorem thenD_id {D : Deed} {k : Nat} (d : DOk D k) : thenD idD D = D := by
  have hl := d.len
  match D, hl with
  | [p, q, r], _ =>
    simp only [thenD, idD, List.map_cons, List.map_nil]
    have e : ∀ x : Str, (Str.ofString "") ++ x = x := fun x => Str.empty_append x
    rw [e, e, e]
    rfl
theorem fold_then (l : List Nat) : ∀ (A B : Deed) (i j : Nat), DOk A i → DOk B j →
    l.foldl (fun D c => thenD D (signD ⟨#[c]⟩)) (thenD A B) = thenD A (l.foldl (fun D c => thenD D (signD ⟨#[c]⟩)) B) := by
  induction l with
  | nil => intros; rfl
  | cons c l ih =>
    intro A B i j a b
    rw [List.foldl_cons, List.foldl_cons, thenD_assoc a b (signD_DOk (one_len c))]
    exact ih A _ i (j + 1) a (thenD_ok b (signD_DOk (one_len c)))
theorem thenD_id_right {D : Deed} {k : Nat} (d : DOk D k) : thenD D idD = D := by
  apply List.ext_getElem (by simp [thenD])
  intro n h1 h2
  have hm := d.st _ (List.getElem_mem h2)
  have hst : (D[n]).1 = 0 ∨ (D[n]).1 = 1 ∨ (D[n]).1 = 2 := by omega
  have e : ∀ x : Str, x ++ (Str.ofString "") = x := fun x => by
    apply Str.ext'
    rw [Str.cps_append, show (Str.ofString "").cps = #[] from by decide]
    simp
  simp only [thenD, List.getElem_map]
  rcases hst with q | q | q
  · rw [q, show atD idD 0 = (0, Str.ofString "") from rfl, e, ← q]
  · rw [q, show atD idD 1 = (1, Str.ofString "") from rfl, e, ← q]
  · rw [q, show atD idD 2 = (2, Str.ofString "") from rfl, e, ← q]
/-- the deeds, one behind the other -/
theorem deedL_append (a b : List Nat) : deedL (a ++ b) = thenD (deedL a) (deedL b) := by
  have := fold_then b (deedL a) idD _ 0 (deedL_ok a) idD_ok
  rw [thenD_id_right (deedL_ok a)] at this
  rw [← show _ = thenD (deedL a) (deedL b) from this]
  simp [deedL]
theorem deedL_flatten (ls : List (List Nat)) : ∀ l, ls.foldl (fun D p => thenD D (deedL p)) (deedL l) = deedL (l ++ ls.flatten) := by
  induction ls with
  | nil => intro l; simp
  | cons p ls ih => intro l; rw [List.foldl_cons, ← deedL_append, ih]; simp
end Mine
end

section
open PySem PySem.W PySem.Calls PyProof.Rows
namespace Mine
set_option maxRecDepth 100000

section
variable {prog : Program} {w : World} {A : Around}

/-- a for-loop that raises nothing, its target any -/
theorem forLoop_turn {R : Result → Shared → Prop} {s : Shared} {target : Expr} {it : Value} {body : List Stmt} {env : Env} (I : Nat → Shared → Prop)
    (turn : ∀ n s, I n s → wpAny (model prog w) A (pyNext it) (fun r s₁ => match r with
      | none => R (.ok .next) s₁
      | some v => wpAny (model prog w) A (letOwnedTupleGo target it v) (fun _ s₁' => wpAny (model prog w) A (assign target env v) (fun _ s₂ => wpAny (model prog w) A (execs body env) (fun f s₃ => match f with
          | .next | .cont => ∃ m, m < n ∧ I m s₃
          | .brk => R (.ok .next) s₃
          | .ret v => R (.ok (.ret v)) s₃) NE s₂) NE s₁') NE s₁) NE s)
    (n : Nat) (h : I n s) : codeAny (model prog w) A (.forLoop target it body [] env) R s := by
  refine codeAny_loop' rfl I (fun n s hI => ?_) n h
  show wpAny _ _ ((forTurn target it body [] env).onRaise (fun x => do noteFrame x env; theTreesLotGoes x)) _ _ s
  refine wpAny_noted (wpAny_of_NE ?_)
  simp only [forTurn]
  refine wpAny_bind (wpAny_standAt (wpAny_bind (wpAny_onRaise (wpAny_mono (turn n s hI) (fun r s₁ h₁ => ?_) fun _ _ h' => h'.elim))))
  cases r with
  | none => exact wpAny_pure (.inr ⟨rfl, codeAny_block (wpAny_execs_nil h₁)⟩)
  | some v =>
    refine wpAny_bind (wpAny_mono h₁ (fun _ s₁' h₁' => ?_) fun _ _ h' => h')
    refine wpAny_bind (wpAny_mono h₁' (fun _ s₂ h₂ => wpAny_bind (wpAny_mono h₂ (fun f s₃ h₃ => ?_) fun _ _ h' => h')) fun _ _ h' => h')
    cases f with
    | next => exact wpAny_pure (.inl ⟨rfl, h₃⟩)
    | cont => exact wpAny_pure (.inl ⟨rfl, h₃⟩)
    | brk => exact wpAny_pure h₃
    | ret v => exact wpAny_pure h₃

/-- two names as the target, over pairs that an iterator makes -/
theorem Src.pairsT {scope : Scope} {cl : List (Str × Addr)} {env : Env} {x y : Str} {px py pos : Pos} {k0 : Nat} {I : Addr} {fp wr : List Addr} {z n : Nat} {f1 f2 : Nat → Value} {Pt : Nat → Array Value → Prop} {St : Nat → Heap → Prop} {Mid : Nat → Addr → Heap → Prop}
    (hh : A.handled = none) (W : WalksT prog w A I fp wr n Pt St Mid) (hPt : ∀ i vals, i < n → Pt i vals → vals = #[f1 i, f2 i]) (hfp : ∀ b ∈ fp, b < z) (held : ∀ i h, St i h → ∀ b ∈ wr, ∃ o, h.get? b = some o)
    (hx : scope.names.lookup x = some .local) (hy : scope.names.lookup y = some .local) (hxy : x ≠ y) (hkind : scope.kind = .function) :
    Src prog w A (.Tuple [.Name x px, .Name y py] k0 pos) I wr z n St (fun i m => m x = some (f1 i) ∧ m y = some (f2 i)) fun C => compEnvC scope cl C env where
  below := fun b hb => hfp b (W.sub b hb)
  held := held
  frame := fun i h h' st hk => W.frame i h h' st fun b hb o e => hk b o (hfp b hb) e
  next := fun C i s₁ m Q1 hz hi st hn hQ => by
    have hCf : C ∉ fp := fun hm => Nat.lt_irrefl _ (Nat.lt_of_lt_of_le (hfp _ hm) hz)
    have hCw : C ∉ wr := fun hm => hCf (W.sub _ hm)
    refine W.item i s₁ _ _ hi st fun T vals h' tk hP hT hTt hM hk => ?_
    obtain rfl := hPt i vals hi hP
    refine W.go _ _ _ i T _ _ _ hM fun h₂ st₂ hk₂ => ?_
    have hTw := W.apart _ _ _ hM
    refine assign_tup2 (env := compEnvC scope cl C env) hh (hTt.at fun o e => hk₂ _ _ hTw e) ((hn.at' fun o e => hk _ o hCw e).at' fun o e => hk₂ _ o hCw e) (lookup_relabel_local hx) (lookup_relabel_local hy) (by simp [compEnvC, relabel, hkind]) fun h₃ tk₃ hn₃ hk₃ => ?_
    refine hQ h₃ tk₃ _ (W.frame _ _ _ st₂ fun b hb o e => hk₃ b o (fun q => hCf (by rw [← show b = C from q]; exact hb)) e) hn₃ ?_ fun b o hb hw e => hk₃ b o hb (hk₂ b o hw (hk b o hw e))
    simp [hxy]
  done := fun s₁ Q1 st hQ => W.done s₁ _ _ st fun h' tk hk => ⟨rfl, hQ h' tk hk⟩
  self := fun s₁ Q1 st hQ => W.self 0 s₁ _ _ st hQ

theorem eqv_refl {n : Nat} {d : Dat} (hk : kqdOk n d = true) : PyData.eqv (kqdP d) (kqdP d) = true := (kqd_eqv n d d n hk hk).mpr rfl
theorem shaped_of {n : Nat} {d : Dat} (hk : kqdOk n d = true) (hn : n ≤ 60) : SeqAt.shaped (kqdP d) = true := by
  have l := kqd_lay n d hk
  unfold SeqAt.shaped
  rw [l.1, Bool.true_and]
  exact decide_eq_true (Nat.le_trans l.2 (by omega))

theorem ne_same {E : Value → Shared → Prop} {s : Shared} {a b : Value} {d : Dat} {n : Nat} {Q : Value → Shared → Prop} (ha : HD s.heap a d) (hb : HD s.heap b d) (hk : kqdOk n d = true) (hn : n ≤ 60) (hu : A.units + 64 < cLine) (h : Q (.bool false) s) :
    wpAny (model prog w) A (compareOp .NotEq a b) Q E s := by
  obtain ⟨as, ra⟩ := ha.reads n hk
  obtain ⟨bs, rb⟩ := hb.reads n hk
  exact ne_dataH ra rb (shaped_of hk hn) (shaped_of hk hn) hu (by rw [eqv_refl hk]; exact h)
theorem eq_same {E : Value → Shared → Prop} {s : Shared} {a b : Value} {d : Dat} {n : Nat} {Q : Value → Shared → Prop} (ha : HD s.heap a d) (hb : HD s.heap b d) (hk : kqdOk n d = true) (hn : n ≤ 60) (hu : A.units + 64 < cLine) (h : Q (.bool true) s) :
    wpAny (model prog w) A (compareOp .Eq a b) Q E s := by
  obtain ⟨as, ra⟩ := ha.reads n hk
  obtain ⟨bs, rb⟩ := hb.reads n hk
  exact eq_dataH ra rb (shaped_of hk hn) (shaped_of hk hn) hu (by rw [eqv_refl hk]; exact h)
end

/-- the three openings, and what is behind the text -/
def aheads (i : Nat) : List Nat := ([[], [34], [34, 120]] : List (List Nat)).getD i []
def behinds (j : Nat) : List Nat := ([[], [120], [34]] : List (List Nat)).getD j []
def opener : List Nat := [50, 53, 55, 32, 34]
/-- what is heard at place j, by the deed's pair -/
def heardBy (p : Int × Str) (j : Nat) : List Nat := ([tx p.2, if p.1 = 0 then tx p.2 ++ [120] else tx p.2, if p.1 = 1 then tx p.2 ++ [34] else tx p.2] : List (List Nat)).getD j []

theorem told_opener (r : List Nat) : told257 (opener ++ r) = scan r := by
  unfold told257 opener Lop
  simp
theorem scan_ahead (i : Nat) (hi : i < 3) (r : List Nat) : scan (aheads i ++ r) = scanS i r := by
  match i, hi with
  | 0, _ => exact (scanS0 r).symm
  | 1, _ => exact scan_quote r
  | 2, _ =>
    show scan (34 :: 120 :: r) = scanS 2 r
    rw [scanS2, scan_stop (by decide)]
theorem heard_law (l : List Nat) (i j : Nat) (hi : i < 3) (hj : j < 3) : told257 (opener ++ aheads i ++ l ++ behinds j) = heardBy (atD (deedL l) i) j := by
  have ok := deedL_ok l
  have hm := ok.st _ (atD_mem (i := (i : Int)) (by rw [ok.len]; simpa using hi))
  rw [List.append_assoc, List.append_assoc, told_opener, scan_ahead i hi, deed_run l _ i (by omega) (by simpa using hi)]
  generalize atD (deedL l) i = p at hm ⊢
  have hst : p.1 = 0 ∨ p.1 = 1 ∨ p.1 = 2 := by omega
  match j, hj with
  | 0, _ =>
    show tx p.2 ++ scanS p.1 [] = tx p.2
    rcases hst with q | q | q <;> rw [q] <;> simp [scanS, scan]
  | 1, _ =>
    show tx p.2 ++ scanS p.1 [120] = if p.1 = 0 then tx p.2 ++ [120] else tx p.2
    rcases hst with q | q | q <;> rw [q] <;> simp [scanS, scan_ne, scan]
  | 2, _ =>
    show tx p.2 ++ scanS p.1 [34] = if p.1 = 1 then tx p.2 ++ [34] else tx p.2
    rcases hst with q | q | q <;> rw [q] <;> simp [scanS, scan_end, scan]
end Mine
end

section
open PySem PySem.W PySem.Calls PyProof.Rows
namespace Mine
set_option maxRecDepth 100000

section
variable {prog : Program} {w : World} {A : Around}

/-- [a, b, c], three texts -/
theorem disp_texts3 {env : Env} {s : Shared} {Q E : Value → Shared → Prop} {h : Heap} {a b c : Expr} {pos : Pos} {x y z : Str} {ma mb mc : Tok → Value} (st : h.StaysIn s.heap) (ga : Gives prog w A env h a ma) (gb : Gives prog w A env h b mb) (gc : Gives prog w A env h c mc)
    (ha : ∀ t, ∃ u, ma t = .str x u) (hb : ∀ t, ∃ u, mb t = .str y u) (hc : ∀ t, ∃ u, mc t = .str z u)
    (he : starEach [a, b, c] env = [(false, eval a env), (false, eval b env), (false, eval c env)])
    (hQ : ∀ D h' tk u1 u2 u3, s.heap.StaysIn h' → h'.get? D = some (listOf #[.str x u1, .str y u2, .str z u3] 0) → s.heap.get? D = none → Q (.ref D) { s with heap := h', toks := tk }) :
    wpAny (model prog w) A (eval (.List [a, b, c] pos) env) Q E s := by
  refine wpAny_List_spliced ?_
  rw [he]
  refine spliced_cons (ga _ _ _ st fun t tk => ?_)
  refine spliced_cons (gb _ _ _ st fun t' tk' => ?_)
  refine spliced_cons (gc _ _ _ st fun t'' tk'' => ?_)
  refine spliced_nil ⟨by rw [sizeLine_eq]; exact Nat.le_of_ble_eq_true rfl, ?_⟩
  obtain ⟨u1, e1⟩ := ha t
  obtain ⟨u2, e2⟩ := hb t'
  obtain ⟨u3, e3⟩ := hc t''
  rw [e1, e2, e3]
  exact hQ _ _ _ u1 u2 u3 (fun b o e => Heap.get?_push_of_some _ e) (Heap.get?_push_size _ rfl) (fresh_none (Nat.le_refl _))

/-- between two turns of _law_heard's loop -/
def HInv (s s₂ : Shared) (x : Str) (t : Tok) (L ct ca : Addr) (St : Nat → Heap → Prop) (k : Nat) (s' : Shared) : Prop :=
  ∃ h tk m i, s' = { s₂ with heap := h, toks := tk } ∧ s.heap.StaysIn h ∧ h.Ns L m ∧ h.IsCell ct (some (.str x t)) ∧ (∃ va, h.IsCell ca va) ∧ St i h ∧ i ≤ 3 ∧ k = 4 - i

theorem cell_at {h h' : Heap} {c : Addr} {v : Option Value} (x : h.IsCell c v) (k : ∀ o, h.get? c = some o → h'.get? c = some o) : h'.IsCell c v := let ⟨o, ho, hd⟩ := x; ⟨o, k o ho, hd⟩

theorem ahead_item {u1 u2 u3 : Tok} {i : Nat} {x1 : Value} (hlt : i < 3) (ex : (#[.str (Str.ofString "") u1, .str (Str.ofString "\"") u2, .str (Str.ofString "\"x") u3] : Array Value)[i]? = some x1) : ∃ ua, x1 = .str (txt (aheads i)) ua := by
  have e0 : Str.ofString "" = txt (aheads 0) := by decide
  have e1 : Str.ofString "\"" = txt (aheads 1) := by decide
  have e2 : Str.ofString "\"x" = txt (aheads 2) := by decide
  rw [e0, e1, e2] at ex
  match i, hlt, ex with
  | 0, _, ex => exact ⟨u1, (Option.some.inj ex).symm⟩
  | 1, _, ex => exact ⟨u2, (Option.some.inj ex).symm⟩
  | 2, _, ex => exact ⟨u3, (Option.some.inj ex).symm⟩

theorem behind_item {u1 u2 u3 : Tok} {i : Nat} {x1 : Value} (hlt : i < 3) (ex : (#[.str (Str.ofString "") u1, .str (Str.ofString "x") u2, .str (Str.ofString "\"") u3] : Array Value)[i]? = some x1) : ∃ ua, x1 = .str (txt (behinds i)) ua := by
  have e0 : Str.ofString "" = txt (behinds 0) := by decide
  have e1 : Str.ofString "x" = txt (behinds 1) := by decide
  have e2 : Str.ofString "\"" = txt (behinds 2) := by decide
  rw [e0, e1, e2] at ex
  match i, hlt, ex with
  | 0, _, ex => exact ⟨u1, (Option.some.inj ex).symm⟩
  | 1, _, ex => exact ⟨u2, (Option.some.inj ex).symm⟩
  | 2, _, ex => exact ⟨u3, (Option.some.inj ex).symm⟩
theorem opener_tx : tx (Str.ofString "257 \"") = opener := by decide
theorem tx_txt (l : List Nat) : tx (txt l) = l := by simp [tx, txt]
theorem tx_len (x : Str) : x.length = (tx x).length := by simp [tx, Str.length]
theorem aheads_len (i : Nat) : (aheads i).length ≤ 2 := by
  match i with
  | 0 => decide
  | 1 => decide
  | 2 => decide
  | n + 3 => simp [aheads]
theorem behinds_len (i : Nat) : (behinds i).length ≤ 1 := by
  match i with
  | 0 => decide
  | 1 => decide
  | 2 => decide
  | n + 3 => simp [behinds]

theorem scan_mem : ∀ (n : Nat) (l : List Nat) (c : Nat), l.length ≤ n → c ∈ scan l → c ∈ l
  | _, [], _, _, h => by simp [scan] at h
  | 0, _ :: _, _, hl, _ => by simp at hl
  | n + 1, d :: r, c, hl, h => by
    by_cases hd : d = 34
    · subst hd
      cases r with
      | nil => rw [scan_end] at h; cases h
      | cons e r' =>
        by_cases he : e = 34
        · subst he
          rw [scan_two] at h
          rcases List.mem_cons.mp h with rfl | h
          · exact .head _
          · exact .tail _ (.tail _ (scan_mem n r' c (by simp at hl; omega) h))
        · rw [scan_stop he] at h; cases h
    · rw [scan_ne hd] at h
      rcases List.mem_cons.mp h with rfl | h
      · exact .head _
      · exact .tail _ (scan_mem n r c (by simp at hl; omega) h)
theorem told_mem {l : List Nat} {c : Nat} (h : c ∈ told257 l) : c ∈ l := by
  unfold told257 at h
  split at h
  · exact List.mem_of_mem_drop (scan_mem _ _ _ (Nat.le_refl _) h)
  · cases h
theorem strOk_txt {l : List Nat} (h : ∀ c ∈ l, c < 0x110000) : PyData.strOk (txt l) = true := by
  simp only [PyData.strOk, txt]
  simpa using h
theorem heard_ok {l : List Nat} (hl : ∀ c ∈ l, c < 0x110000) {i j : Nat} (hi : i < 3) (hj : j < 3) : PyData.strOk (txt (heardBy (atD (deedL l) i) j)) = true := by
  refine strOk_txt fun c hc => ?_
  rw [← heard_law l i j hi hj] at hc
  have hm := told_mem hc
  simp only [List.mem_append] at hm
  rcases hm with ((hm | hm) | hm) | hm
  · have : ∀ c ∈ opener, c < 0x110000 := by decide
    exact this c hm
  · have : ∀ i, i < 3 → ∀ c ∈ aheads i, c < 0x110000 := by decide
    exact this i hi c hm
  · exact hl c hm
  · have : ∀ i, i < 3 → ∀ c ∈ behinds i, c < 0x110000 := by decide
    exact this j hj c hm

set_option maxHeartbeats 8000000 in
theorem heard_spec {mg mb : Str → Option Value} {E : Value → Shared → Prop} {s : Shared} {Q : Value → Shared → Prop} {x : Str} {t : Tok} {v : Value}
    (X : (KF w).In s.heap) (G : s.heap.Ns mainGlobals mg) (b : s.heap.Ns builtinsNs mb) (hb : ∀ x : Str, x ≠ "__name__" → mb x = bootBuiltins x) (hlim : s.heap.NoLimit) (hh : A.handled = none) (hroom : A.depth + 2 < recursionLimit) (hu : A.units + 100 < cLine)
    (hx : x.cps.size ≤ 800) (hok : ∀ c ∈ x.cps.toList, c < 0x110000) (hv : HD s.heap v (dDeed (deedL x.cps.toList)))
    (h : ∀ h' tk, s.heap.StaysIn h' → Q (.bool true) { s with heap := h', toks := tk }) :
    wpAny (model prog w) A (call (.ref 79) [.str x t, v]) Q E s := by
  obtain ⟨l, vs, nl, rfl, hl, hvs⟩ := HD.list hv
  have dok := deedL_ok x.cps.toList
  have hlen : vs.length = 3 := by simpa [dok.len] using hvs.length
  obtain ⟨q1, hq1⟩ := hvs.pairs
  refine' enterC (binds := [(Str.ofString "text", .str x t), (Str.ofString "deed", .ref l)]) X hlim ?ho ?hcd (by omega) ?hb ?hl ?_ ?c1 ?c2 ?c3
  case ho => exact rfl
  case hcd => rfl
  case hb => rfl
  case hl => rfl
  case c1 => rfl
  case c2 => rfl
  case c3 => rfl
  intro s₁ hC
  obtain ⟨h₁, tk₁, rfl, hk₁⟩ := hC.done
  have hn : h₁.Ns s.heap.objs.size (fun y => if y = Str.ofString "deed" then some (.ref l) else none) := hC.toInCall.ns
  have hnL : s.heap.get? s.heap.objs.size = none := fresh_none (Nat.le_refl _)
  have ct : h₁.IsCell (s.heap.objs.size + 1) (some (.str x t)) := hC.cell (Str.ofString "text") _ rfl
  have ca : h₁.IsCell (s.heap.objs.size + 1 + 1) none := hC.cell (Str.ofString "ahead") _ rfl
  clear hC
  refine wpAny_execs_cons ?_
  refine wpAny_For ?_ (by intro _; rfl)
  refine wpAny_Call_ofName ?_
  refine nm_builtin (K := KF w) (v := .type "zip") (X.keeps hk₁) (G.keeps hk₁) (b.keeps hk₁) hb (by rfl) (by rfl) ?_ rfl rfl (by decide) rfl rfl (by decide)
  refine callWith_type1 ?_ (by rfl) (by rfl)
  refine spliced_more ?_
  refine disp_texts3 (StaysIn.refl _) (Gives.str _ _ _) (Gives.str _ _ _) (Gives.str _ _ _) (fun t => ⟨t, rfl⟩) (fun t => ⟨t, rfl⟩) (fun t => ⟨t, rfl⟩) rfl ?_
  intro D h₂ tk₂ u1 u2 u3 k₂ hD hDn
  refine spliced_more ?_
  refine nm_local (hn.keeps k₂) (v := .ref l) rfl ?_ rfl rfl (by decide)
  refine spliced_none ?_
  have hL2 : h₂.IsList l vs.toArray := ⟨_, k₂ _ _ (hk₁ _ _ hl), rfl, _, rfl⟩
  have hD2 : h₂.IsList D #[.str (Str.ofString "") u1, .str (Str.ofString "\"") u2, .str (Str.ofString "\"x") u3] := ⟨_, hD, rfl, _, rfl⟩
  refine call_zip_2 hD2 hL2 fun h₃ z1 z2 z3 z4 z5 z6 k₃ => ?_
  have kk3 : s.heap.StaysIn h₃ := fun b o e => k₃ _ _ (k₂ _ _ (hk₁ _ _ e))
  have Dlt : @LT.lt Nat _ D h₂.objs.size := Heap.lt_size hD
  have llt : @LT.lt Nat _ l h₂.objs.size := Heap.lt_size (k₂ _ _ (hk₁ _ _ hl))
  have Llt : @LT.lt Nat _ s.heap.objs.size h₂.objs.size := by obtain ⟨o, _, _, ho, _⟩ := hn; exact Heap.lt_size (k₂ _ _ ho)
  have clt : @LT.lt Nat _ (s.heap.objs.size + 1 + 1) h₂.objs.size := by obtain ⟨o, ho, _⟩ := ca; exact Heap.lt_size (k₂ _ _ ho)
  have ap : ZipApart (h₂.objs.size + 4) (h₂.objs.size + 2) (h₂.objs.size + 3) h₂.objs.size (h₂.objs.size + 1) D l := by
    constructor <;> (refine neN ?_; omega)
  have W : ∀ A' : Around, A'.handled = none → WalksT prog w A' _ _ _ _ _ _ _ := fun A' hA' => WalksT.zip2 (prog := prog) (w := w) (A := A') hA' _ _ _ _ _ _ _ ap #[.str (Str.ofString "") u1, .str (Str.ofString "\"") u2, .str (Str.ofString "\"x") u3] vs.toArray
  generalize hSt : (fun (i : Nat) (h : Heap) => IsZip h (h₂.objs.size + 4) (h₂.objs.size + 2) (h₂.objs.size + 3) Value.none ∧ IsPair h (h₂.objs.size + 2) (Value.ref h₂.objs.size) (Value.ref (h₂.objs.size + 1)) ∧ (∃ a b, IsPair h (h₂.objs.size + 3) a b) ∧
    h.IsListIter h₂.objs.size D i ∧ h.IsListIter (h₂.objs.size + 1) l i ∧ h.IsList D #[.str (Str.ofString "") u1, .str (Str.ofString "\"") u2, .str (Str.ofString "\"x") u3] ∧ h.IsList l vs.toArray) = St at W
  have hfp : ∀ b ∈ [h₂.objs.size + 4, h₂.objs.size + 2, h₂.objs.size + 3, h₂.objs.size, h₂.objs.size + 1, D, l], b ≠ s.heap.objs.size ∧ b ≠ s.heap.objs.size + 1 + 1 := by
    have hlL : @LT.lt Nat _ l s.heap.objs.size := Heap.lt_size hl
    have hDL : D ≠ s.heap.objs.size ∧ D ≠ s.heap.objs.size + 1 + 1 := by
      refine ⟨fun q => ?_, fun q => ?_⟩
      · obtain ⟨o, _, _, ho, _⟩ := hn
        rw [q, show Heap.get? h₁ s.heap.objs.size = _ from ho] at hDn; cases hDn
      · obtain ⟨o, ho, _⟩ := ca
        rw [q, show Heap.get? h₁ (s.heap.objs.size + 1 + 1) = _ from ho] at hDn; cases hDn
    intro b hb
    simp only [List.mem_cons, List.not_mem_nil, or_false] at hb
    rcases hb with rfl | rfl | rfl | rfl | rfl | rfl | rfl
    · exact ⟨by refine neN ?_; omega, by refine neN ?_; omega⟩
    · exact ⟨by refine neN ?_; omega, by refine neN ?_; omega⟩
    · exact ⟨by refine neN ?_; omega, by refine neN ?_; omega⟩
    · exact ⟨by refine neN ?_; omega, by refine neN ?_; omega⟩
    · exact ⟨by refine neN ?_; omega, by refine neN ?_; omega⟩
    · exact hDL
    · exact ⟨by refine neN ?_; omega, by refine neN ?_; omega⟩
  have hwr : ∀ b ∈ [h₂.objs.size + 4, h₂.objs.size + 3, h₂.objs.size, h₂.objs.size + 1], s.heap.get? b = none ∧ b ≠ s.heap.objs.size ∧ b ≠ s.heap.objs.size + 1 ∧ b ≠ s.heap.objs.size + 1 + 1 := by
    intro b hb
    simp only [List.mem_cons, List.not_mem_nil, or_false] at hb
    rcases hb with rfl | rfl | rfl | rfl
    · exact ⟨fresh_none (by show @LE.le Nat _ _ _; omega), by refine neN ?_; omega, by refine neN ?_; omega, by refine neN ?_; omega⟩
    · exact ⟨fresh_none (by show @LE.le Nat _ _ _; omega), by refine neN ?_; omega, by refine neN ?_; omega, by refine neN ?_; omega⟩
    · exact ⟨fresh_none (by show @LE.le Nat _ _ _; omega), by refine neN ?_; omega, by refine neN ?_; omega, by refine neN ?_; omega⟩
    · exact ⟨fresh_none (by show @LE.le Nat _ _ _; omega), by refine neN ?_; omega, by refine neN ?_; omega, by refine neN ?_; omega⟩
  refine wpAny_pyIter_zip z1 ?_
  refine forLoop_turn (HInv s _ x t s.heap.objs.size (s.heap.objs.size + 1) (s.heap.objs.size + 1 + 1) St) ?_ 4 ⟨h₃, _, _, 0, rfl, kk3, (hn.keeps k₂).keeps k₃, cell_at ct fun o e => k₃ _ _ (k₂ _ _ e), ⟨_, cell_at ca fun o e => k₃ _ _ (k₂ _ _ e)⟩, ?_, Nat.zero_le _, rfl⟩
  · rintro k s' ⟨h4, tk4, m4, i, rfl, k4, n4, ct4, ⟨va, ca4⟩, st4, hi, rfl⟩
    by_cases hlt : i < 3
    · refine (W _ (by exact hh)).item i _ _ _ (by simp [hlen]; omega) st4 fun T vals h5 tk5 hP hTge hT hM hk5 => ?_
      obtain ⟨x1, y1, ex, ey, rfl⟩ := hP
      refine (W _ (by exact hh)).go _ _ _ i T _ _ _ hM fun h6 st6 hk6 => ?_
      have hTw := (W A hh).apart _ _ _ hM
      have up6 : ∀ b o, b ∉ [h₂.objs.size + 4, h₂.objs.size + 3, h₂.objs.size, h₂.objs.size + 1] → h4.get? b = some o → h6.get? b = some o := fun b o hb e => hk6 b o hb (hk5 b o hb e)
      refine wpAny_assign_Tuple (items := #[x1, y1]) hh (hT.at fun o e => hk6 _ _ hTw e) rfl rfl fun h7 he7 => ?_
      have k7 := ext_all he7
      show wpAny _ _ (assignInOrder [assign (.Name (Str.ofString "ahead") _) _, assign (.Name (Str.ofString "told") _) _] [x1, y1]) _ _ _
      refine assignInOrder_cons ?_
      refine wpAny_assign_Name ?_
      have ca7 : h7.IsCell (s.heap.objs.size + 1 + 1) va := cell_at ca4 fun o e => k7 _ _ (up6 _ _ (fun hm => (hwr _ hm).2.2.2 rfl) e)
      refine wpAny_storeName_cell rfl rfl (c := s.heap.objs.size + 1 + 1) rfl ca7 fun h8 ca8 s8 => ?_
      refine assignInOrder_cons ?_
      refine wpAny_assign_Name ?_
      have hLw : s.heap.objs.size ∉ [h₂.objs.size + 4, h₂.objs.size + 3, h₂.objs.size, h₂.objs.size + 1] := fun hm => (hwr _ hm).2.1 rfl
      have hcL : s.heap.objs.size ≠ s.heap.objs.size + 1 + 1 := by refine neN ?_; omega
      refine wpAny_storeName_local rfl (((n4.at' fun o e => up6 _ _ hLw e).keeps k7).sameBut s8 hcL) (fun h9 n9 s9 => ?_) rfl
      refine assignInOrder_nil ?_
      have up9 : ∀ b o, b ∉ [h₂.objs.size + 4, h₂.objs.size + 3, h₂.objs.size, h₂.objs.size + 1] → b ≠ s.heap.objs.size → b ≠ s.heap.objs.size + 1 + 1 → h4.get? b = some o → h9.get? b = some o := fun b o hb hL hc e => s9.extBut _ _ hL (s8.extBut _ _ hc (k7 _ _ (up6 b o hb e)))
      have k9 : s.heap.StaysIn h9 := fun b o e => up9 b o (fun hm => by rw [(hwr _ hm).1] at e; cases e) (fun q => by rw [q, hnL] at e; cases e) (fun q => by rw [q, fresh_none (by exact Nat.le_succ_of_le (Nat.le_succ _))] at e; cases e) (k4 _ _ e)
      have ct9 : h9.IsCell (s.heap.objs.size + 1) (some (.str x t)) := cell_at ct4 fun o e => up9 _ _ (fun hm => (hwr _ hm).2.2.1 rfl) (by refine neN ?_; omega) (by refine neN ?_; omega) e
      have ca9 : h9.IsCell (s.heap.objs.size + 1 + 1) (some x1) := cell_at ca8 fun o e => s9.extBut _ _ (Ne.symm hcL) e
      have st9 : St (i + 1) h9 := (W A hh).frame _ _ _ st6 fun b hb o e => s9.extBut _ _ (hfp b hb).1 (s8.extBut _ _ (hfp b hb).2 (k7 _ _ e))
      have hi3 : i < (deedL x.cps.toList).length := by rw [dok.len]; exact hlt
      obtain ⟨ua, rfl⟩ := ahead_item hlt ex
      have ey' : y1 = .ref (q1 i).1 := by
        have := (hq1 i hi3).1
        simp at ey
        rw [this] at ey
        exact (Option.some.inj ey).symm
      subst ey'
      refine wpAny_execs_cons ?_
      refine Assign_Tuple ?_ (by rfl) (by rfl)
      refine nm_local n9 (v := .ref (q1 i).1) (if_pos rfl) ?_ rfl rfl (by decide)
      refine assign_list2 hh (k9 _ _ (hq1 i hi3).2) n9 rfl rfl rfl fun h10 tk10 n10 k10 => ?_
      have kk10 : s.heap.StaysIn h10 := stays_of_ext hnL k9 k10
      have ct10 : h10.IsCell (s.heap.objs.size + 1) (some (.str x t)) := cell_at ct9 fun o e => k10 _ _ (by refine neN ?_; show ¬ _; exact fun q => absurd q (Nat.succ_ne_self _)) e
      have ca10 : h10.IsCell (s.heap.objs.size + 1 + 1) (some (.str (txt (aheads i)) ua)) := cell_at ca9 fun o e => k10 _ _ (Ne.symm hcL) e
      have st10 : St (i + 1) h10 := (W A hh).frame _ _ _ st9 fun b hb o e => k10 _ _ (hfp b hb).1 e
      refine wpAny_execs_cons ?_
      refine' comp_assign (cl := [(Str.ofString "text", s.heap.objs.size + 1), (Str.ofString "ahead", s.heap.objs.size + 1 + 1)]) ?hsw ?hclos ?hcell ?hkind ?hnames ?hy ?hp ?_ ?hs
      case hsw => with_unfolding_all rfl
      case hclos => with_unfolding_all rfl
      case hcell => decide
      case hkind => rfl
      case hnames => decide
      case hy => rfl
      case hp => rfl
      case hs => intro _; rfl
      refine disp_texts3 (StaysIn.refl _) (Gives.str _ _ _) (Gives.str _ _ _) (Gives.str _ _ _) (fun t => ⟨t, rfl⟩) (fun t => ⟨t, rfl⟩) (fun t => ⟨t, rfl⟩) rfl ?_
      intro D2 h11 tk11 w1 w2 w3 k11 hD2 hD2n
      have hL11 : h11.IsList D2 #[.str (Str.ofString "") w1, .str (Str.ofString "x") w2, .str (Str.ofString "\"") w3] := ⟨_, hD2, rfl, _, rfl⟩
      refine wpAny_pyIter_list hL11 ?_
      have hDI : D2 ≠ h11.objs.size := Nat.ne_of_lt (Heap.lt_size hD2)
      have lt11 : ∀ b o, h11.get? b = some o → b ≠ h11.objs.size := fun b o e => Nat.ne_of_lt (Heap.lt_size e)
      have kk11 : s.heap.StaysIn h11 := StaysIn.trans kk10 k11
      have n11 := n10.keeps k11
      refine ⟨h11.objs.size, [h11.objs.size], 3, _, _, fun _ => true, fun j _ y => ∃ u, y = .str (txt (heardBy (atD (deedL x.cps.toList) i) j)) u, _, rfl,
        ⟨Src.of_walks (x := Str.ofString "behind") (Walks.list (by exact hh) h11.objs.size D2 hDI #[.str (Str.ofString "") w1, .str (Str.ofString "x") w2, .str (Str.ofString "\"") w3]) ?_ ?_ rfl rfl, by rw [sizeLine_eq]; decide, ?_, ?_, ?_, ?_⟩, ?_, n11.push _, ?_⟩
      · intro b hb
        rw [Heap.size_push]
        rcases List.mem_cons.mp hb with rfl | hb
        · exact Nat.lt_succ_self _
        · rw [List.mem_singleton.mp hb]; exact Nat.lt_succ_of_lt (Heap.lt_size hD2)
      · intro j h st b hb
        rw [List.mem_singleton.mp hb]
        obtain ⟨o, ho, _⟩ := st.1
        exact ⟨o, ho⟩
      · exact ⟨⟨_, Heap.get?_push_size _ rfl, rfl, rfl⟩, hL11.push _⟩
      · intro C j s₁ m _ _ _ _ _
        exact wpAny_tests_nil ⟨rfl, s₁.heap, s₁.toks, rfl, fun _ _ e => e⟩
      · rintro C j s12 m12 hC12 hj _ ⟨vb, hvb, hmb⟩ hn12 hk12
        obtain ⟨ub, rfl⟩ := behind_item hj hvb
        have k12 : h11.StaysIn s12.heap := fun b o e => hk12 b o (fun q => lt11 b o e (List.mem_singleton.mp q)) (Heap.get?_push_of_some _ e)
        have kk12 : s.heap.StaysIn s12.heap := StaysIn.trans kk11 k12
        have ct12 : s12.heap.IsCell (s.heap.objs.size + 1) (some (.str x t)) := cell_at ct10 fun o e => k12 _ _ (k11 _ _ e)
        have ca12 : s12.heap.IsCell (s.heap.objs.size + 1 + 1) (some (.str (txt (aheads i)) ua)) := cell_at ca10 fun o e => k12 _ _ (k11 _ _ e)
        refine call_top (K := KF w) (f := 46) (X.keeps kk12) (G.keeps kk12) (by rfl) (by exact rfl) rfl ?_ rfl rfl rfl (by decide) (by rfl)
        refine spliced_more ?_
        refine wpAny_BinOp ?_
        refine wpAny_BinOp ?_
        refine wpAny_BinOp ?_
        refine Constant_str ?_
        refine nm_cell ca12 ?_ rfl rfl rfl (by decide)
        have za := aheads_len i
        have zb := behinds_len j
        have zx : (tx x).length ≤ 800 := by rw [← tx_len]; exact hx
        refine PyProof.Rows.add_str (fun t13 tk13 => ?_) (by rw [sizeLine_eq, tx_len, tx_len, opener_tx, tx_txt]; show 5 + _ ≤ _; omega)
        refine nm_cell ct12 ?_ rfl rfl rfl (by decide)
        refine PyProof.Rows.add_str (fun t14 tk14 => ?_) (by rw [sizeLine_eq, tx_len, tx_len, tx_append, opener_tx, tx_txt, List.length_append]; show 5 + _ + _ ≤ _; omega)
        refine nm_local hn12 hmb ?_ rfl rfl (by decide)
        refine PyProof.Rows.add_str (fun t15 tk15 => ?_) (by rw [sizeLine_eq, tx_len, tx_len, tx_append, tx_append, opener_tx, tx_txt, tx_txt, List.length_append, List.length_append]; show 5 + _ + _ + _ ≤ _; omega)
        refine spliced_none ⟨StaysIn.refl _, ?_⟩
        have etx : tx (Str.ofString "257 \"" ++ txt (aheads i) ++ x ++ txt (behinds j)) = opener ++ aheads i ++ x.cps.toList ++ behinds j := by
          rw [tx_append, tx_append, tx_append, opener_tx, tx_txt, tx_txt]; rfl
        refine parse_tells (X.keeps kk12) (G.keeps kk12) (b.keeps kk12) hb (hlim.keeps kk12) (by show A.depth + 1 < _; omega) ?_ ?_ ?_
        · have := congrArg List.length etx
          simp [tx, opener] at this
          have hx' : x.cps.size ≤ 800 := hx
          omega
        · show (tx _).take 3 = L257
          rw [etx]; rfl
        · intro t16 h16 tk16 k16
          refine ⟨h16, tk16, [], rfl, k16, fun _ hp => (nomatch hp), t16, ?_⟩
          show Value.str (txt (told257 (tx _))) t16 = _
          rw [etx, heard_law x.cps.toList i j hlt hj]
      · intro j l' l'' y hR _
        exact hR
      · intro hm
        obtain ⟨o, _, _, ho, _⟩ := n11
        exact lt11 _ _ ho (List.mem_singleton.mp hm)
      · intro D3 h17 tk17 ys l17 k17 hD3n hD3 hF hlD hP n17 hk17
        generalize hpp : atD (deedL x.cps.toList) i = p at hP
        have epp : (deedL x.cps.toList).getD i (0, "") = p := by rw [← hpp]; rfl
        rw [epp] at n17
        have hpm : p ∈ deedL x.cps.toList := by rw [← epp]; exact getD_mem hi3
        have hpl := dok.tx p hpm
        rw [filter_true] at hP
        have hP' : Paired (fun j y => DatIn l17 y (.str (txt (heardBy p j)))) (List.range 3) ys.toList := hP.mono fun j y hy => by obtain ⟨u, rfl⟩ := hy; exact .str _ _
        obtain ⟨f1, f2⟩ := comp_fresh (g := h11) (f := fun j => .str (txt (heardBy p j))) (.inl fun b o e => Heap.get?_push_of_some _ e) hD3n hD3 hF hP'
        have hd3 : HD h17 (.ref D3) (.list [.str (txt (heardBy p 0)), .str (txt (heardBy p 1)), .str (txt (heardBy p 2))]) := HD.of_fresh f1 f2
        have k17 : ∀ b o, b ≠ s.heap.objs.size → h11.get? b = some o → h17.get? b = some o := fun b o hb e => hk17 b o hb (fun q => lt11 b o e (List.mem_singleton.mp q)) (Heap.get?_push_of_some _ e)
        have kk17 : s.heap.StaysIn h17 := stays_of_ext hnL kk11 k17
        refine wpAny_execs_cons ?_
        refine wpAny_If ?_
        refine wpAny_isTrue_Compare1 ?_
        refine nm_local n17 (v := .ref D3) (if_pos rfl) ?_ rfl rfl (by decide)
        refine disp_texts3 (h := h17) (x := p.2) (y := if p.1 = 0 then p.2 ++ Str.ofString "x" else p.2) (z := if p.1 = 1 then p.2 ++ Str.ofString "\"" else p.2) (ma := fun _ => .str p.2 (q1 i).2.2.2)
          (mb := fun t => if p.1 = 0 then .str (p.2 ++ Str.ofString "x") t else .str p.2 (q1 i).2.2.2) (mc := fun t => if p.1 = 1 then .str (p.2 ++ Str.ofString "\"") t else .str p.2 (q1 i).2.2.2)
          (StaysIn.refl _) ?_ ?_ ?_ (fun t => ⟨_, rfl⟩) (fun t => by by_cases e : p.1 = 0 <;> simp [e]) (fun t => by by_cases e : p.1 = 1 <;> simp [e]) rfl ?_
        · exact Gives.local n17 ((if_neg (by decide)).trans (if_pos rfl)) rfl rfl (by decide)
        · intro s9 Q9 E9 st9 q9
          refine wpAny_IfExp ?_
          refine wpAny_isTrue_Compare1 ?_
          refine nm_local (n17.keeps st9) (v := .int p.1 (q1 i).2.2.1) ((if_neg (by decide)).trans ((if_neg (by decide)).trans (if_pos rfl))) ?_ rfl rfl (by decide)
          refine wpAny_Constant_int ?_
          refine PyProof.Rows.eq_int ?_
          refine wpAny_truthy_bool ?_
          by_cases e9 : p.1 = 0
          · rw [if_pos (by simp [e9])]
            refine wpAny_BinOp ?_
            refine nm_local (n17.keeps st9) (v := .str p.2 (q1 i).2.2.2) ((if_neg (by decide)).trans (if_pos rfl)) ?_ rfl rfl (by decide)
            refine Constant_str ?_
            refine PyProof.Rows.add_str (fun t19 tk19 => ?_) (by rw [sizeLine_eq]; show _ + 1 ≤ _; simp at hpl; omega)
            have := q9 t19 tk19
            dsimp only at this
            rw [if_pos e9] at this
            exact this
          · rw [if_neg (by simp [e9])]
            refine nm_local (n17.keeps st9) (v := .str p.2 (q1 i).2.2.2) ((if_neg (by decide)).trans (if_pos rfl)) ?_ rfl rfl (by decide)
            have := q9 0 (s9.toks + 1)
            dsimp only at this
            rw [if_neg e9] at this
            exact this
        · intro s9 Q9 E9 st9 q9
          refine wpAny_IfExp ?_
          refine wpAny_isTrue_Compare1 ?_
          refine nm_local (n17.keeps st9) (v := .int p.1 (q1 i).2.2.1) ((if_neg (by decide)).trans ((if_neg (by decide)).trans (if_pos rfl))) ?_ rfl rfl (by decide)
          refine wpAny_Constant_int ?_
          refine PyProof.Rows.eq_int ?_
          refine wpAny_truthy_bool ?_
          by_cases e9 : p.1 = 1
          · rw [if_pos (by simp [e9])]
            refine wpAny_BinOp ?_
            refine nm_local (n17.keeps st9) (v := .str p.2 (q1 i).2.2.2) ((if_neg (by decide)).trans (if_pos rfl)) ?_ rfl rfl (by decide)
            refine Constant_str ?_
            refine PyProof.Rows.add_str (fun t19 tk19 => ?_) (by rw [sizeLine_eq]; show _ + 1 ≤ _; simp at hpl; omega)
            have := q9 t19 tk19
            dsimp only at this
            rw [if_pos e9] at this
            exact this
          · rw [if_neg (by simp [e9])]
            refine nm_local (n17.keeps st9) (v := .str p.2 (q1 i).2.2.2) ((if_neg (by decide)).trans (if_pos rfl)) ?_ rfl rfl (by decide)
            have := q9 0 (s9.toks + 1)
            dsimp only at this
            rw [if_neg e9] at this
            exact this
        · intro D4 h18 tk18 y1 y2 y3 k18 hD4 _
          have hd4 : HD h18 (.ref D4) (.list [.str (txt (heardBy p 0)), .str (txt (heardBy p 1)), .str (txt (heardBy p 2))]) := by
            have e0 : txt (heardBy p 0) = p.2 := by show txt (tx p.2) = p.2; rfl
            have e1 : txt (heardBy p 1) = if p.1 = 0 then p.2 ++ Str.ofString "x" else p.2 := by
              show txt (if p.1 = 0 then tx p.2 ++ [120] else tx p.2) = _
              split
              · rw [show tx p.2 ++ [120] = tx (p.2 ++ Str.ofString "x") from by rw [tx_append]; congr 1]; rfl
              · rfl
            have e2 : txt (heardBy p 2) = if p.1 = 1 then p.2 ++ Str.ofString "\"" else p.2 := by
              show txt (if p.1 = 1 then tx p.2 ++ [34] else tx p.2) = _
              split
              · rw [show tx p.2 ++ [34] = tx (p.2 ++ Str.ofString "\"") from by rw [tx_append]; congr 1]; rfl
              · rfl
            rw [e0, e1, e2]
            exact HD.mk (vs := [_, _, _]) hD4 (.cons (HD.str _ _) (.cons (HD.str _ _) (.cons (HD.str _ _) .nil)))
          refine ne_same (n := 1) (hd3.keep k18) hd4 ?_ (by decide) (by show A.units + 3 + 64 < cLine; omega) ?_
          · have o0 := heard_ok hok hlt (show 0 < 3 by decide)
            have o1 := heard_ok hok hlt (show 1 < 3 by decide)
            have o2 := heard_ok hok hlt (show 2 < 3 by decide)
            rw [hpp] at o0 o1 o2
            simp [kqdOk, o0, o1, o2]
          · refine wpAny_truthy_bool ?_
            rw [if_neg (by decide)]
            refine wpAny_execs_nil ?_
            refine wpAny_execs_nil ?_
            refine ⟨4 - (i + 1), by omega, h18, _, _, i + 1, rfl, StaysIn.trans kk17 k18, n17.keeps k18, ?_, ?_, ?_, hlt, rfl⟩
            · exact cell_at ct10 fun o e => k18 _ _ (k17 _ _ (by refine neN ?_; exact Nat.succ_ne_self _) (k11 _ _ e))
            · exact ⟨_, cell_at ca10 fun o e => k18 _ _ (k17 _ _ (Ne.symm hcL) (k11 _ _ e))⟩
            · exact (W A hh).frame _ _ _ st10 fun b hb o e => k18 _ _ (k17 _ _ (hfp b hb).1 (k11 _ _ e))
    · have hin : i = 3 := by omega
      subst hin
      refine (W _ (by exact hh)).done _ _ _ (by simpa [hlen] using st4) fun h5 tk5 hk5 => ?_
      refine wpAny_execs_cons ?_
      refine wpAny_Return_some ?_
      have k5 : s.heap.StaysIn h5 := fun b o e => hk5 b o (fun hm => by rw [(hwr _ hm).1] at e; cases e) (k4 _ _ e)
      exact wpAny_pure (h h5 tk5 k5)
  · rw [← hSt]
    exact ⟨z1, z2, ⟨_, _, z3⟩, z4, z5, hD2.at fun o e => k₃ _ _ e, hL2.at fun o e => k₃ _ _ e⟩
end
end Mine
end

section
open PySem PySem.W PySem.Calls PyProof.Rows Builtin Builtin.Str StrLaws
namespace Mine
set_option maxRecDepth 100000

theorem find_zero (x y : Str) : (Txt.find x y == 0) = decide ((tx x).take (tx y).length = tx y) := by
  have key : At x y x.length 0 ↔ (tx x).take (tx y).length = tx y := by
    unfold At
    rw [subAt_eq]
    simp only [List.drop_zero, beq_iff_eq, Nat.zero_add]
    constructor
    · rintro ⟨_, h⟩
      rw [← tx_len]; exact h
    · intro h
      rw [← tx_len] at h
      refine ⟨?_, h⟩
      have := congrArg List.length h
      rw [List.length_take] at this
      have e1 := tx_len x
      have e2 := tx_len y
      omega
  rcases find_whole x y with ⟨h1, h2⟩ | ⟨i, h1, h2, h3⟩
  · rw [h1, decide_eq_false (fun q => h2 0 (key.mpr q))]
    rfl
  · rw [h1]
    by_cases hi : i = 0
    · subst hi
      rw [decide_eq_true (key.mp h2)]
      rfl
    · rw [decide_eq_false (fun q => h3 0 (by omega) (key.mpr q))]
      simpa using hi

theorem slice_from (x : Str) {a : Nat} (h : a ≤ (tx x).length) : Txt.slice x (some (a : Int)) none = txt ((tx x).drop a) := by
  have e : Txt.slice x (some (a : Int)) none = Txt.slice x (some (a : Int)) (some ((x.length : Nat) : Int)) := by
    unfold Txt.slice
    rw [sliceIdx_none_hi]
  rw [e, slice_nat x (by rw [tx_len]; exact h)]
  show Str.mk _ = Str.mk _
  congr 2
  rw [tx_len]
  exact List.take_of_length_le (by simp [tx])

def dueD (l : List Nat) : Dat := if l.take 3 = L257 then .list [.str (Str.ofString "told"), .str (if l.take 5 = opener then (atD (deedL (l.drop 5)) 0).2 else Str.ofString "")] else .list [.str (Str.ofString "refused"), .str (txt l)]

section
variable {prog : Program} {w : World} {A : Around}

theorem eq_diff {E : Value → Shared → Prop} {s : Shared} {a b : Value} {d e : Dat} {n : Nat} {Q : Value → Shared → Prop} (ha : HD s.heap a d) (hb : HD s.heap b e) (hk : kqdOk n d = true) (hk' : kqdOk n e = true) (hde : d ≠ e) (hn : n ≤ 60) (hu : A.units + 64 < cLine) (h : Q (.bool false) s) :
    wpAny (model prog w) A (compareOp .Eq a b) Q E s := by
  obtain ⟨as, ra⟩ := ha.reads n hk
  obtain ⟨bs, rb⟩ := hb.reads n hk'
  have : PyData.eqv (kqdP d) (kqdP e) = false := Bool.eq_false_iff.mpr fun q => hde ((kqd_eqv n d e n hk hk').mp q)
  exact eq_dataH ra rb (shaped_of hk hn) (shaped_of hk' hn) hu (by rw [this]; exact h)

/-- [a, b], two texts -/
theorem disp_texts2 {env : Env} {s : Shared} {Q E : Value → Shared → Prop} {h : Heap} {a b : Expr} {pos : Pos} {x y : Str} {ma mb : Tok → Value} (st : h.StaysIn s.heap) (ga : Gives prog w A env h a ma) (gb : Gives prog w A env h b mb)
    (ha : ∀ t, ∃ u, ma t = .str x u) (hb : ∀ t, ∃ u, mb t = .str y u) (he : starEach [a, b] env = [(false, eval a env), (false, eval b env)])
    (hQ : ∀ D h' tk u1 u2, s.heap.StaysIn h' → h'.get? D = some (listOf #[.str x u1, .str y u2] 0) → s.heap.get? D = none → Q (.ref D) { s with heap := h', toks := tk }) :
    wpAny (model prog w) A (eval (.List [a, b] pos) env) Q E s := by
  refine wpAny_List_spliced ?_
  rw [he]
  refine spliced_cons (ga _ _ _ st fun t tk => ?_)
  refine spliced_cons (gb _ _ _ st fun t' tk' => ?_)
  refine spliced_nil ⟨by rw [sizeLine_eq]; exact Nat.le_of_ble_eq_true rfl, ?_⟩
  obtain ⟨u1, e1⟩ := ha t
  obtain ⟨u2, e2⟩ := hb t'
  rw [e1, e2]
  exact hQ _ _ _ u1 u2 (fun b o e => Heap.get?_push_of_some _ e) (Heap.get?_push_size _ rfl) (fresh_none (Nat.le_refl _))

theorem Gives.cell {env : Env} {h : Heap} {x : Str} {pos : Pos} {c : Addr} {v : Value} (hv : h.IsCell c (some v))
    (hk : env.scope.kind = .function) (hl : env.kindOf x = some .cell) (hc : env.cells.lookup x = some c) (hd : (x == ("__debug__" : Str)) = false) : Gives prog w A env h (.Name x pos) (fun _ => v) :=
  fun s _ _ st q => nm_cell (cell_at hv fun o e => st _ _ e) (q 0 s.toks) hk hl hc hd

theorem new_texts2 {g h' : Heap} {D : Addr} {x y : Str} {u1 u2 : Tok} (hD : h'.get? D = some (listOf #[.str x u1, .str y u2] 0)) (hn : g.get? D = none) :
    Fresh g h' [(D, listOf #[.str x u1, .str y u2] 0)] ∧ DatIn [(D, listOf #[.str x u1, .str y u2] 0)] (.ref D) (.list [.str x, .str y]) := by
  refine ⟨fun q hq => ?_, DatIn.list (vs := [.str x u1, .str y u2]) (.head _) (.cons (.str _ _) (.cons (.str _ _) .nil))⟩
  rw [List.mem_singleton.mp hq]
  exact ⟨hD, hn⟩
end
/-- the two heads -/
def heads (j : Nat) : List Nat := ([opener, L257] : List (List Nat)).getD j []
theorem head_item {u1 u2 : Tok} {i : Nat} {x1 : Value} (hlt : i < 2) (ex : (#[.str (Str.ofString "257 \"") u1, .str (Str.ofString "257") u2] : Array Value)[i]? = some x1) : ∃ ua, x1 = .str (txt (heads i)) ua := by
  have e0 : Str.ofString "257 \"" = txt (heads 0) := by decide
  have e1 : Str.ofString "257" = txt (heads 1) := by decide
  rw [e0, e1] at ex
  match i, hlt, ex with
  | 0, _, ex => exact ⟨u1, (Option.some.inj ex).symm⟩
  | 1, _, ex => exact ⟨u2, (Option.some.inj ex).symm⟩

theorem paired_head {α β : Type} {F : α → β → Prop} {a : α} {l : List α} {ys : List β} (h : Paired F (a :: l) ys) : ∃ y r, ys = y :: r ∧ F a y := by
  cases h with
  | cons h t => exact ⟨_, _, rfl, h⟩

set_option maxHeartbeats 8000000 in
theorem due_spec {prog : Program} {w : World} {A : Around} {mg mb : Str → Option Value} {E : Value → Shared → Prop} {s : Shared} {Q : Value → Shared → Prop} {x : Str} {t : Tok}
    (X : (KF w).In s.heap) (G : s.heap.Ns mainGlobals mg) (b : s.heap.Ns builtinsNs mb) (hb : ∀ x : Str, x ≠ "__name__" → mb x = bootBuiltins x) (hlim : s.heap.NoLimit) (hh : A.handled = none) (hroom : A.depth + 2 < recursionLimit) (hu : A.units + 100 < cLine)
    (hx : x.cps.size ≤ 800)
    (h : ∀ r h' tk l, s.heap.StaysIn h' → Fresh s.heap h' l → DatIn l r (dueD (tx x)) → Q r { s with heap := h', toks := tk }) :
    wpAny (model prog w) A (call (.ref 91) [.str x t]) Q E s := by
  refine' enterC (binds := [(Str.ofString "reply", .str x t)]) X hlim ?ho ?hcd (by omega) ?hb ?hl ?_ ?c1 ?c2 ?c3
  case ho => exact rfl
  case hcd => rfl
  case hb => rfl
  case hl => rfl
  case c1 => rfl
  case c2 => rfl
  case c3 => rfl
  intro s₁ hC
  obtain ⟨h₁, tk₁, rfl, hk₁⟩ := hC.done
  have hn : h₁.Ns s.heap.objs.size (fun y => none) := hC.toInCall.ns
  have hnL : s.heap.get? s.heap.objs.size = none := fresh_none (Nat.le_refl _)
  have cr : h₁.IsCell (s.heap.objs.size + 1) (some (.str x t)) := hC.cell (Str.ofString "reply") _ rfl
  clear hC
  refine wpAny_execs_cons ?_
  refine' comp_assign (cl := [(Str.ofString "reply", s.heap.objs.size + 1)]) ?hsw ?hclos ?hcell ?hkind ?hnames ?hy ?hp ?_ ?hs
  case hsw => with_unfolding_all rfl
  case hclos => with_unfolding_all rfl
  case hcell => decide
  case hkind => rfl
  case hnames => decide
  case hy => rfl
  case hp => rfl
  case hs => intro _; rfl
  refine disp_texts2 (StaysIn.refl _) (Gives.str _ _ _) (Gives.str _ _ _) (fun t => ⟨t, rfl⟩) (fun t => ⟨t, rfl⟩) rfl ?_
  intro D h₂ tk₂ u1 u2 k₂ hD hDn
  have hL2 : h₂.IsList D #[.str (Str.ofString "257 \"") u1, .str (Str.ofString "257") u2] := ⟨_, hD, rfl, _, rfl⟩
  refine wpAny_pyIter_list hL2 ?_
  have hDI : D ≠ h₂.objs.size := Nat.ne_of_lt (Heap.lt_size hD)
  have lt2 : ∀ b o, h₂.get? b = some o → b ≠ h₂.objs.size := fun b o e => Nat.ne_of_lt (Heap.lt_size e)
  have kk2 : s.heap.StaysIn h₂ := StaysIn.trans hk₁ k₂
  have n2 := hn.keeps k₂
  refine ⟨h₂.objs.size, [h₂.objs.size], 2, _, _, fun j => decide ((tx x).take (heads j).length = heads j), fun j _ y => ∃ u, y = .int ((heads j).length : Nat) u, _, rfl,
    ⟨Src.of_walks (x := Str.ofString "head") (Walks.list (by exact hh) h₂.objs.size D hDI #[.str (Str.ofString "257 \"") u1, .str (Str.ofString "257") u2]) ?_ ?_ rfl rfl, by rw [sizeLine_eq]; decide, ?_, ?_, ?_, ?_⟩, ?_, n2.push _, ?_⟩
  · intro b hb
    rw [Heap.size_push]
    rcases List.mem_cons.mp hb with rfl | hb
    · exact Nat.lt_succ_self _
    · rw [List.mem_singleton.mp hb]; exact Nat.lt_succ_of_lt (Heap.lt_size hD)
  · intro j h st b hb
    rw [List.mem_singleton.mp hb]
    obtain ⟨o, ho, _⟩ := st.1
    exact ⟨o, ho⟩
  · exact ⟨⟨_, Heap.get?_push_size _ rfl, rfl, rfl⟩, hL2.push _⟩
  · rintro C j s3 m3 hC3 hj ⟨vb, hvb, hmb⟩ hn3 hk3
    obtain ⟨ub, rfl⟩ := head_item hj hvb
    have k3 : h₂.StaysIn s3.heap := fun b o e => hk3 b o (fun q => lt2 b o e (List.mem_singleton.mp q)) (Heap.get?_push_of_some _ e)
    have cr3 : s3.heap.IsCell (s.heap.objs.size + 1) (some (.str x t)) := cell_at cr fun o e => k3 _ _ (k₂ _ _ e)
    refine wpAny_tests_one ?_
    refine wpAny_isTrue_Compare1 ?_
    refine MethodCall_ ?_
    refine nm_cell cr3 ?_ rfl rfl rfl (by decide)
    refine GM.find ?_
    refine callWith_method1 ?_
    refine spliced_more ?_
    refine nm_local hn3 hmb ?_ rfl rfl (by decide)
    refine spliced_none ?_
    refine SC.find ?_
    refine wpAny_Constant_int ?_
    refine PyProof.Rows.eq_int ?_
    refine wpAny_truthy_bool ?_
    refine ⟨?_, s3.heap, _, rfl, fun _ _ e => e⟩
    rw [find_zero, tx_txt]
  · rintro C j s3 m3 hC3 hj _ ⟨vb, hvb, hmb⟩ hn3 hk3
    obtain ⟨ub, rfl⟩ := head_item hj hvb
    have k3 : h₂.StaysIn s3.heap := fun b o e => hk3 b o (fun q => lt2 b o e (List.mem_singleton.mp q)) (Heap.get?_push_of_some _ e)
    have kk3 : s.heap.StaysIn s3.heap := StaysIn.trans kk2 k3
    refine wpAny_Call_ofName ?_
    refine nm_builtin (K := KF w) (v := .builtin "len") (X.keeps kk3) (G.keeps kk3) (b.keeps kk3) hb (by rfl) (by rfl) ?_ rfl rfl (by decide) rfl rfl (by decide)
    refine PyProof.Rows.callWith_builtin1 ?_ (by rfl) (by rfl)
    refine spliced_more ?_
    refine nm_local hn3 hmb ?_ rfl rfl (by decide)
    refine spliced_none ?_
    have hhl : (heads j).length ≤ 5 := by match j, hj with | 0, _ => decide | 1, _ => decide
    refine PyProof.Rows.len_str (by rw [tx_len, tx_txt]; omega) ?_
    refine ⟨s3.heap, _, [], rfl, fun _ _ e => e, fun _ hp => (nomatch hp), ?_⟩
    exact ⟨_, congrArg (fun n : Nat => Value.int (n : Int) _) (by rw [tx_len, tx_txt])⟩
  · intro j l' l'' y hR _
    exact hR
  · intro hm
    obtain ⟨o, _, _, ho, _⟩ := n2
    exact lt2 _ _ ho (List.mem_singleton.mp hm)
  · intro D3 h4 tk4 ys l4 k4 hD3n hD3 hF hlD hP n4 hk4
    have k4 : ∀ b o, b ≠ s.heap.objs.size → h₂.get? b = some o → h4.get? b = some o := fun b o hb e => hk4 b o hb (fun q => lt2 b o e (List.mem_singleton.mp q)) (Heap.get?_push_of_some _ e)
    have kk4 : s.heap.StaysIn h4 := stays_of_ext hnL kk2 k4
    have cr4 : h4.IsCell (s.heap.objs.size + 1) (some (.str x t)) := cell_at cr fun o e => k4 _ _ (by refine neN ?_; exact Nat.succ_ne_self _) (k₂ _ _ e)
    have hP' : Paired (fun j y => DatIn l4 y (.int ((heads j).length : Nat))) ((List.range 2).filter fun j => decide ((tx x).take (heads j).length = heads j)) ys.toList := hP.mono fun j y hy => by obtain ⟨u, rfl⟩ := hy; exact .int _ _
    obtain ⟨f1, f2⟩ := comp_fresh (g := h₂) (f := fun j => .int ((heads j).length : Nat)) (.inl fun b o e => Heap.get?_push_of_some _ e) hD3n hD3 hF hP'
    have hd3 := HD.of_fresh f1 f2
    have e0 : (tx x).take 5 = opener → (tx x).take 3 = L257 := fun e => by
      have := congrArg (List.take 3) e
      rw [List.take_take] at this
      exact this
    have hfl : ((List.range 2).filter fun j => decide ((tx x).take (heads j).length = heads j)) = (if (tx x).take 5 = opener then [0] else []) ++ (if (tx x).take 3 = L257 then [1] else []) := by
      show ([0, 1].filter fun j => decide ((tx x).take (heads j).length = heads j)) = _
      have a0 : (tx x).take (heads 0).length = heads 0 ↔ (tx x).take 5 = opener := Iff.rfl
      have a1 : (tx x).take (heads 1).length = heads 1 ↔ (tx x).take 3 = L257 := Iff.rfl
      by_cases q0 : (tx x).take 5 = opener <;> by_cases q1 : (tx x).take 3 = L257 <;> simp [List.filter_cons, a0, a1, q0, q1]
    rw [hfl] at hd3
    refine wpAny_execs_cons ?_
    refine wpAny_If ?_
    refine wpAny_isTrue_Compare1 ?_
    refine nm_local n4 (v := .ref D3) (if_pos rfl) ?_ rfl rfl (by decide)
    refine wpAny_List_spliced ?_
    refine spliced_none ⟨by rw [sizeLine_eq]; exact Nat.le_of_ble_eq_true rfl, ?_⟩
    have k5 : h4.StaysIn (h4.push (listOf #[] 0)) := fun b o e => Heap.get?_push_of_some _ e
    have hd4 : HD (h4.push (listOf #[] 0)) (.ref h4.objs.size) (.list []) := HD.mk (vs := []) (Heap.get?_push_size _ rfl) .nil
    by_cases q1 : (tx x).take 3 = L257
    · refine eq_diff (n := 1) (hd3.keep k5) hd4 ?_ (by decide) ?_ (by decide) (by show A.units + 3 + 64 < cLine; omega) ?_
      · by_cases q0 : (tx x).take 5 = opener <;> simp [q0, q1, kqdOk]
      · simp [q1]
      · refine wpAny_truthy_bool ?_
        rw [if_neg (by decide)]
        refine wpAny_execs_nil ?_
        refine wpAny_execs_cons ?_
        refine wpAny_Return_some ?_
        refine wpAny_List_spliced ?_
        refine spliced_more ?_
        refine Constant_str ?_
        refine spliced_more ?_
        have n5 := n4.keeps k5
        have kk5 : s.heap.StaysIn (h4.push (listOf #[] 0)) := StaysIn.trans kk4 k5
        have cr5 : (h4.push (listOf #[] 0)).IsCell (s.heap.objs.size + 1) (some (.str x t)) := cell_at cr4 fun o e => k5 _ _ e
        refine via (fun r s' => (∃ u, r = .str (if (tx x).take 5 = opener then (atD (deedL ((tx x).drop 5)) 0).2 else Str.ofString "") u) ∧ ∃ h6 tk6, s' = { s with heap := h6, toks := tk6 } ∧ (h4.push (listOf #[] 0)).StaysIn h6) ?_ ?_
        · refine wpAny_IfExp ?_
          refine wpAny_isTrue_Compare1 ?_
          refine Subscript_ ?_
          refine nm_local n5 (v := .ref D3) (if_pos rfl) ?_ rfl rfl (by decide)
          refine wpAny_Constant_int ?_
          rw [hfl] at hP
          by_cases q0 : (tx x).take 5 = opener
          · rw [if_pos q0, if_pos q1] at hP
            obtain ⟨y, r, ey, ⟨uy, rfl⟩⟩ := paired_head hP
            refine item_list (k5 _ _ hD3) (by decide) (by decide) (v := .int 5 uy) (by rw [← Array.getElem?_toList, ey]; rfl) ?_ (by with_unfolding_all rfl)
            refine wpAny_Constant_int ?_
            refine PyProof.Rows.eq_int ?_
            refine wpAny_truthy_bool ?_
            rw [if_pos (by decide), if_pos q0]
            have h5l : 5 ≤ (tx x).length := by
              have := congrArg List.length q0
              simp [opener] at this
              omega
            refine Subscript_ ?_
            refine Subscript_ ?_
            refine call_top (K := KF w) (f := 74) (X.keeps kk5) (G.keeps kk5) (by rfl) (by exact rfl) rfl ?_ rfl rfl rfl (by decide) (by rfl)
            refine spliced_more ?_
            refine Subscript_ ?_
            refine nm_cell cr5 ?_ rfl rfl rfl (by decide)
            refine wpAny_Slice ?_
            refine evalPart_some_step ?_
            refine wpAny_Constant_int ?_
            refine evalPart_none_step ?_
            refine evalPart_none_step ?_
            refine tail_of_ItemOn (SBH.sliceItem_sn (s := { s with heap := h4.push (listOf #[] 0), toks := _ }) (P := fun h => (h4.push (listOf #[] 0)).StaysIn h) (fun h ob k b o e => Heap.get?_push_of_some _ (k b o e)) (fun _ _ e => e) (fun h7 t7 k7 st7 => ?_) (by rw [sizeLine_eq]; show x.cps.size ≤ _; omega)) (by with_unfolding_all rfl) (by intro _; with_unfolding_all rfl)
            refine spliced_none ⟨st7, ?_⟩
            rw [show Txt.slice x (some 5) none = _ from slice_from x (a := 5) h5l]
            have kk7 : s.heap.StaysIn h7 := StaysIn.trans kk5 st7
            refine deed_spec (X.keeps kk7) (G.keeps kk7) (hlim.keeps kk7) hh (by show A.depth + 1 + 1 < _; omega) (by have hx' : (tx x).length ≤ 800 := (by rw [← tx_len]; exact hx); simp [txt]; omega) ?_
            intro r8 h8 tk8 l8 k8 f8 d8
            obtain ⟨a8, vs8, n8, rfl, e8, y8⟩ := HD.list (HD.of_fresh f8 d8)
            have etx8 : (txt ((tx x).drop 5)).cps.toList = (tx x).drop 5 := tx_txt _
            rw [etx8] at y8
            have ok8 := deedL_ok ((tx x).drop 5)
            obtain ⟨q8, hq8⟩ := y8.pairs
            have hp8 := hq8 0 (by rw [ok8.len]; decide)
            refine wpAny_Constant_int ?_
            refine item_list e8 (by decide) (by decide) (v := .ref (q8 0).1) (by simpa using hp8.1) ?_ (by with_unfolding_all rfl)
            refine wpAny_Constant_int ?_
            refine item_list hp8.2 (by decide) (by decide) rfl ?_ (by with_unfolding_all rfl)
            exact ⟨⟨_, rfl⟩, ⟨_, _, rfl, StaysIn.trans st7 k8⟩⟩
          · rw [if_neg q0, if_pos q1] at hP
            obtain ⟨y, r, ey, ⟨uy, rfl⟩⟩ := paired_head hP
            refine item_list (k5 _ _ hD3) (by decide) (by decide) (v := .int 3 uy) (by rw [← Array.getElem?_toList, ey]; rfl) ?_ (by with_unfolding_all rfl)
            refine wpAny_Constant_int ?_
            refine PyProof.Rows.eq_int ?_
            refine wpAny_truthy_bool ?_
            rw [if_neg (by decide), if_neg q0]
            refine Constant_str ?_
            exact ⟨⟨_, rfl⟩, ⟨_, _, rfl, fun _ _ e => e⟩⟩
        · rintro r s' ⟨⟨u9, rfl⟩, h6, tk6, rfl, k6⟩
          refine spliced_none ⟨by rw [sizeLine_eq]; exact Nat.le_of_ble_eq_true rfl, ?_⟩
          have k7 : ∀ o, h6.StaysIn (h6.push o) := fun o b ob e => Heap.get?_push_of_some _ e
          have key := fun tok => new_texts2 (g := h6) (x := Str.ofString "told") (y := if (tx x).take 5 = opener then (atD (deedL ((tx x).drop 5)) 0).2 else Str.ofString "") (u1 := tok) (u2 := u9) (Heap.get?_push_size h6 rfl) (fresh_none (Nat.le_refl _))
          refine h _ _ _ _ (StaysIn.trans kk5 (StaysIn.trans k6 (k7 _))) ((key _).1.later (StaysIn.trans kk5 k6) (StaysIn.refl _)) ?_
          rw [dueD, if_pos q1]
          exact (key _).2
    · have q0 : ¬ (tx x).take 5 = opener := fun q => q1 (e0 q)
      rw [if_neg q0, if_neg q1] at hd3
      refine eq_same (n := 1) (hd3.keep k5) hd4 (by decide) (by decide) (by show A.units + 3 + 64 < cLine; omega) ?_
      refine wpAny_truthy_bool ?_
      rw [if_pos rfl]
      refine wpAny_execs_cons ?_
      refine wpAny_Return_some ?_
      refine disp_texts2 (h := h4.push (listOf #[] 0)) (StaysIn.refl _) (Gives.str _ _ _) (Gives.cell (cell_at cr4 fun o e => k5 _ _ e) rfl rfl rfl (by decide)) (fun t => ⟨t, rfl⟩) (fun _ => ⟨t, rfl⟩) rfl ?_
      intro D5 h6 tk6 v1 v2 k6 hD5 hD5n
      obtain ⟨g1, g2⟩ := new_texts2 (g := h4.push (listOf #[] 0)) hD5 hD5n
      refine h _ h6 _ _ (StaysIn.trans kk4 (StaysIn.trans k5 k6)) (g1.later (StaysIn.trans kk4 k5) (StaysIn.refl _)) ?_
      rw [dueD, if_neg q1]
      exact g2
end Mine
end

section
open PySem PySem.W PySem.Calls PyProof.Rows
open Builtin Builtin.Str
namespace Mine
set_option maxRecDepth 100000

section
variable {prog : Program} {w : World} {A : Around} {E : Value → Shared → Prop} {s : Shared} {e C t0 : Addr} {o : Obj} {ws : Array Value} {K : Frag}

theorem check_str_own {M : Model} {Q : Unit → Shared → Prop} (X : K.In s.heap) (q : ktsIn K C "BaseException" = true)
    (hx : s.heap.get? e = some o) (hc : o.cls = .ref C) (hq : Q () s) : wpAny M A (checkBuiltinCall "BaseException.__str__" ⟨[.ref e], []⟩) Q E s := by
  have hk : builtinKind "BaseException.__str__" = some .slot := by decide +kernel
  have hsplit : splitId "BaseException.__str__" = some ("BaseException", "__str__") := by decide +kernel
  obtain ⟨nm, q', N, bs, bm, hdct, sn, sub, ab, col, dd, k0, k1, k2, k3, k5, newId, hC, hbase, hbT⟩ := kts_cls X q
  have hcB : (Value.ref C :: bm).contains (.type "BaseException") = true := by rw [List.contains_cons, hbase]; simp
  have ha := F.args_bexc_str (.ref e)
  obtain ⟨h, g, d, t, os⟩ := s
  simp only [checkBuiltinCall, hk, hsplit]
  refine wpAny_bind ?_
  · unfold isInstance
    repeat (first | (with_reducible refine wpAny_loadPart_at hx ?_; rw [hc]) | (with_reducible refine wpAny_isSubtype_exc hC ?_; rw [hcB]) | wp_step)
    exact hq

theorem bexcArgs_own {M : Model} {items : List Value} {Q : Value × List Value → Shared → Prop} (hx : s.heap.get? e = some o) (hd : o.data = .fields ws) (h0 : ws[0]? = some (.ref t0)) (ht : s.heap.TupAt t0 items) (hq : Q (.ref t0, items) s) :
    wpAny M A (Builtin.BaseException.bexcArgs (.ref e)) Q E s := by
  obtain ⟨ot, k, hto, _, htd⟩ := ht
  unfold Builtin.BaseException.bexcArgs
  refine wpAny_bind (wpAny_field hx hd h0 (wpAny_bind (wpAny_seqItems hto htd ?_)))
  have : items.toArray.toList = items := by simp
  show wpAny M A (pure (Value.ref t0, items.toArray.toList)) Q E s
  rw [this]; exact wpAny_pure hq

theorem bexcStr_own {m : Str} {tk : Tok} {Q : Fin → Shared → Prop} (hx : s.heap.get? e = some o) (hd : o.data = .fields ws) (h0 : ws[0]? = some (.ref t0)) (ht : s.heap.TupAt t0 [.str m tk]) (hq : Q (.done (.ret (.str m tk))) s) :
    wpAny (model prog w) A (Builtin.«BaseException.__str__» ⟨[.ref e], []⟩) Q E s := by
  unfold Builtin.«BaseException.__str__»
  repeat (first | with_reducible refine bexcArgs_own hx hd h0 ht ?_ | wp_step)
  exact hq

theorem strOf_own {m : Str} {tk : Tok} {Q : Value → Shared → Prop} (hu : A.units < cLine) (X : K.In s.heap) (q : ktsIn K C "BaseException" = true) (hs : findIn K (.ref C) "__str__" = some (some (.builtin "BaseException.__str__")))
    (hx : s.heap.get? e = some o) (hc : o.cls = .ref C) (hd : o.data = .fields ws) (h0 : ws[0]? = some (.ref t0)) (ht : s.heap.TupAt t0 [.str m tk]) (hq : Q (.str m tk) s) :
    wpAny (model prog w) A (PySem.Builtin.Str.strOf (.ref e)) Q E s := by
  unfold PySem.Builtin.Str.strOf
  rw [show isExactStr (.ref e) = false from rfl]
  refine wpAny_bind (m := cRoomFor _ _) (wpAny_cRoomFor hu ?_)
  refine wpAny_bind (m := callSpecial? (.ref e) (Str.ofString "__str__")) ?_
  unfold callSpecial? specialOf
  refine wpAny_bind (wpAny_bind ?_)
  simp only [typeOf]
  refine wpAny_bind (wpAny_load hx (wpAny_pure ?_))
  rw [hc]
  refine (looks_findIn X hs).here ?_
  refine wpAny_holding (wpAny_bind ?_)
  refine wpAny_of_eq (a := (.builtin "BaseException.__str__", [.ref e])) (by with_unfolding_all rfl) ?_
  refine wpAny_bind ?_
  refine wpAny_call (codeAny_call_builtin (by decide +kernel) F.entry_bexc_str (check_str_own X q hx hc (bexcStr_own hx hd h0 ht (wpAny_pure (wpAny_pure hq)))))
end
end Mine
end

section
open PySem PySem.W PySem.Calls PyProof.Rows
open Builtin Builtin.Str
namespace Mine
set_option maxRecDepth 100000

section
variable {prog : Program} {w : World} {A : Around} {E : Value → Shared → Prop} {s : Shared} {e C t0 : Addr} {o : Obj} {ws : Array Value} {K : Frag}

theorem str_own {m : Str} {tk : Tok} {Q : Value → Shared → Prop} (hu : A.units + 2 < cLine) (X : K.In s.heap) (q : ktsIn K C "BaseException" = true) (hs : findIn K (.ref C) "__str__" = some (some (.builtin "BaseException.__str__")))
    (hx : s.heap.get? e = some o) (hc : o.cls = .ref C) (hd : o.data = .fields ws) (h0 : ws[0]? = some (.ref t0)) (ht : s.heap.TupAt t0 [.str m tk]) (hq : Q (.str m tk) s) :
    wpAny (model prog w) A (call (.type "str") [.ref e]) Q E s := by
  refine callType_codes (T := "str") (Bi := Builtin.«object.__init__») (Q₁ := fun r s₁ => r = .str m tk ∧ s₁ = s) PySem.F.called_str (PySem.F.typeCall_str_1 _) PySem.F.entry_object_init ?_ ?_
  · refine codeAny_of_tree ?_
    show wpAny _ A.in1.in1 (do checkBuiltinCall "str.__new__" ⟨[.type "str", .ref e], []⟩; again (.builtin "str.__new__" ⟨[.type "str", .ref e], []⟩)) _ _ s
    refine wpAny_bind (wpAny_of_eq (PySem.F.newCall_str_1 _) (wpAny_pure ⟨plainId_quiet (by decide +kernel) _, codeAny_builtin PySem.F.entry_str_new ?_⟩))
    rw [Around.under_plainId (by decide +kernel) _]
    rw [str_new_tree]
    refine wpAny_bind (wpAny_pure ?_)
    refine wpAny_bind (wpAny_of_eq isSubtype_str_str ?_)
    exact wpAny_bind (strOf_own (A := A.in1.in1) hu X q hs hx hc hd h0 ht (wpAny_pure ⟨rfl, rfl⟩))
  · rintro obj s₁ ⟨rfl, rfl⟩
    exact ⟨typeIs_str _ _ _, PySem.F.args_object_init_2 _ _, object_init_meets PySem.F.called_str.init.lookup PySem.F.called_str.made (by decide) prog w A.in1 _ s₁ ⟨typeIs_str _ _ _, rfl, hq⟩⟩
end

section
variable {prog : Program} {w : World} {A : Around} {E : Value → Shared → Prop} {s : Shared} {K : Frag} {Q : Value → Shared → Prop}
  {name qual : Str} {params : Arguments} {body : List Stmt} {scope : Scope} {dV kV doc pm cdv ct oc : Value} {an od : Option Addr} {osl : Array (Option Value)} {f : Addr} {args : List Value} {binds : List (Str × Value)}

/-- a def without cells that may raise -/
theorem enterE (X : K.In s.heap) (hlim : s.heap.NoLimit)
    (ho : K.lookup f = some ⟨oc, od, .func (fnOf name qual params body scope dV kV doc pm an cdv ct), osl⟩) (hcd : codeIn K cdv qual = true) (hroom : A.depth < recursionLimit)
    (hbind : BindsTo s (fnOf name qual params body scope dV kV doc pm an cdv ct) ⟨args, []⟩ binds) (hloc : ∀ y ∈ binds, scope.names.lookup y.1 = some .local)
    (h : ∀ h₁, Fr s.heap s.heap.objs.size h₁ (fun y => binds.reverse.lookup y) →
      wpAny (model prog w) (A.deeper (envOf qual scope s.heap.objs.size f cdv)) (execs body (envOf qual scope s.heap.objs.size f cdv))
        (fun fl s' => Q (match fl with | .ret v => v | _ => .none) s')
        (fun e s' => wpAny (model prog w) (A.deeper (envOf qual scope s.heap.objs.size f cdv)) (leaving (envOf qual scope s.heap.objs.size f cdv) e) (fun _ s'' => E e s'') (fun e' s'' => E e' s'') s')
        { s with heap := h₁, toks := s.toks + binds.length })
    (hco : scope.isCoroutine = false) (hgen : scope.isGenerator = false) (hk : scope.kind = .function)
    (hcell : ∀ x ∈ scope.names, x.2 ≠ .cell) : wpAny (model prog w) A (call (.ref f) args) Q E s :=
  wpAny_call (codeAny_call_def (fd := fnOf name qual params body scope dV kV doc pm an cdv ct) (body := body) (binds := binds) hroom (X _ _ ho) rfl hlim (codeRec_of X hcd) rfl hbind hcell hloc (fun h₁ hns hk₁ => h h₁ ⟨hns, hk₁, Nat.le_refl _⟩) hco hgen hk)
end

theorem err_own {w : World} {h : Heap} {p : Program} {loose : List Str} {mg mb : Str → Option Value} (X : (KF w).In h) (T : TopRead p loose mg mb h) :
    OwnCls (Str.ofString "error_reply") 37 [.type "Exception", .type "BaseException", .type "object"] "Exception.__new__" mg h :=
  own_of_in X T (by rfl) (by kernel_rfl)


/-- parse257 refuses -/
theorem parse_raises {prog : Program} {w : World} {A : Around} {p : Program} {loose : List Str} {mg mb : Str → Option Value} {E : Value → Shared → Prop} {s : Shared} {Q : Value → Shared → Prop} {x : Str} {t : Tok} {base : Heap} {outer : List Env}
    (K : Below A base outer s.heap) (X : (KF w).In base) (T : TopRead p loose mg mb base) (hh : A.handled = none) (hroom : A.depth < recursionLimit) (hx : x.cps.size ≤ 900)
    (h3 : x.cps.toList.take 3 ≠ L257)
    (h : ∀ e t0 h' tk, RaisedS base s.heap outer e (.ref 37) t0 [.str x t] [] h' → s.heap.UpToSlots h' → E (.ref e) { s with heap := h', toks := tk }) :
    wpAny (model prog w) A (call (.ref 46) [.str x t]) Q E s := by
  refine' enterE (binds := [(Str.ofString "resp", .str x t)]) (X.keeps K.stays) (T.nolimit.keeps K.stays) ?ho ?hcd hroom ?hb ?hl ?_ ?c1 ?c2 ?c3 ?c4
  case ho => exact rfl
  case hcd => rfl
  case hb => exact BindsTo.of_eq rfl
  case hl => exact locs rfl
  case c1 => rfl
  case c2 => rfl
  case c3 => rfl
  case c4 => decide
  intro h₁ F
  have hzx : x.length ≤ sizeLine := by rw [sizeLine_eq]; show x.cps.size ≤ _; omega
  refine wpAny_execs_cons ?_
  refine wpAny_If ?_
  refine wpAny_isTrue_Compare1 ?_
  refine Subscript_ ?_
  refine nm_local F.ns (v := .str x t) rfl ?_ rfl rfl (by decide)
  refine wpAny_Slice ?_
  refine evalPart_none_step ?_
  refine evalPart_some_step ?_
  refine wpAny_Constant_int ?_
  refine evalPart_none_step ?_
  refine slice_str_ns (s := { s with heap := h₁, toks := _ }) F (fun h₂ t₂ k₂ F₂ => ?_) (by with_unfolding_all rfl) (by intro _; with_unfolding_all rfl) hzx
  refine Constant_str ?_
  refine PyProof.Rows.ne_str ?_
  refine wpAny_truthy_bool ?_
  rw [if_pos (by rw [show (3 : Int) = ((3 : Nat) : Int) from rfl, slice_to, bne_str]; simp; intro e; exact h3 (by rw [e]; decide))]
  refine wpAny_execs_cons ?_
  have T₂ := T.keeps K.stays
  have X₂ := X.keeps K.stays
  refine Raise_own (s := { s with heap := h₂, toks := _ }) F₂ T₂.g (err_own X₂ T₂) PySem.F.excBase_Exception (by exact hh) ?_
  refine spliced_more ?_
  refine nm_local F₂.ns (v := .str x t) rfl ?_ rfl rfl (by decide)
  refine spliced_none ⟨by rw [sizeLine_eq]; exact Nat.le_of_ble_eq_true rfl, F₂.keep, ?_⟩
  intro h' e hx'
  refine leave_raiseS K hx' F₂ (news := []) (fun _ hp => (nomatch hp)) fun h'' t0 R _ u => ?_
  exact h e t0 h'' _ R u
end Mine
end

section
open PySem PySem.W PySem.Calls PyProof.Rows
namespace Mine
set_option maxRecDepth 100000

theorem lop_opener {l : List Nat} (h3 : l.take 3 = L257) : (l.drop 3).take 2 = Lop ↔ l.take 5 = opener := by
  have e : l.take 5 = l.take 3 ++ (l.drop 3).take 2 := by
    rw [show (5 : Nat) = 3 + 2 from rfl, List.take_add]
  rw [e, h3]
  constructor
  · intro h; rw [h]; rfl
  · intro h
    have h' : L257 ++ (l.drop 3).take 2 = L257 ++ Lop := h
    exact List.append_cancel_left h'

theorem told_due {x : Str} (h3 : (tx x).take 3 = L257) : (⟨(told257 x.cps.toList).toArray⟩ : Str) = if (tx x).take 5 = opener then (atD (deedL ((tx x).drop 5)) 0).2 else Str.ofString "" := by
  show txt (told257 (tx x)) = _
  unfold told257
  by_cases q : (tx x).take 5 = opener
  · rw [if_pos ((lop_opener h3).mpr q), if_pos q]
    have hr := deed_run ((tx x).drop 5) [] 0 (by decide) (by decide)
    have hz : ∀ st : Int, scanS st [] = [] := by
      intro st
      unfold scanS
      by_cases h0 : st = 0
      · rw [if_pos h0]; rw [scan.eq_def]
      · rw [if_neg h0]
        by_cases h1 : st = 1
        · rw [if_pos h1]
        · rw [if_neg h1]
    rw [List.append_nil, scanS0, hz, List.append_nil] at hr
    rw [hr]
    generalize (atD (deedL ((tx x).drop 5)) 0).2 = y
    cases y; simp [txt, tx]
  · rw [if_neg (fun h => q ((lop_opener h3).mp h)), if_neg q]
    rfl

set_option maxHeartbeats 8000000 in
theorem answer_spec {prog : Program} {w : World} {A : Around} {p : Program} {loose : List Str} {mean : ExcName → Option Value} {mg mb : Str → Option Value} {E : Value → Shared → Prop} {s : Shared} {Q : Value → Shared → Prop} {x : Str} {t : Tok} {base : Heap} {outer : List Env}
    (K : Below A base outer s.heap) (D : KtsDicts (outer.filterMap (·.frame)) s.heap) (X : (KF w).In base) (T : Top p loose mean mg mb base) (hh : A.handled = none) (hroom : A.depth + 1 < recursionLimit) (hu : A.units + 100 < cLine) (hx : x.cps.size ≤ 800)
    (h : ∀ r g' h' tk l, KtsTurn (outer.filterMap (·.frame)) s.heap g' → g'.StaysIn h' → Fresh g' h' l → DatIn l r (dueD (tx x)) → Q r { s with heap := h', toks := tk }) :
    wpAny (model prog w) A (call (.ref 86) [.str x t]) Q E s := by
  have T0 := topRead_of T
  refine' enter (binds := [(Str.ofString "reply", .str x t)]) (X.keeps K.stays) (T0.nolimit.keeps K.stays) ?ho ?hcd (by omega) ?hb ?hl ?_ ?c1 ?c2 ?c3 ?c4
  case ho => exact rfl
  case hcd => rfl
  case hb => exact BindsTo.of_eq rfl
  case hl => exact locs rfl
  case c1 => rfl
  case c2 => rfl
  case c3 => rfl
  case c4 => decide
  intro h₁ F
  have k₁ : base.StaysIn h₁ := StaysIn.trans K.stays F.keep
  refine wpAny_execs_cons ?_
  refine wpAny_Try_except ?_
  refine wpAny_execs_cons ?_
  refine wpAny_Return_some ?_
  refine wpAny_List_spliced ?_
  refine spliced_more ?_
  refine Constant_str ?_
  refine spliced_more ?_
  refine call_top (K := KF w) (f := 46) (X.keeps k₁) (T0.g.keeps k₁) (by rfl) (by exact rfl) rfl ?_ rfl rfl rfl (by decide) (by rfl)
  refine spliced_more ?_
  refine nm_local F.ns (v := .str x t) rfl ?_ rfl rfl (by decide)
  refine spliced_none ⟨fun _ _ e => e, ?_⟩
  by_cases h3 : (tx x).take 3 = L257
  · refine parse_tells (X.keeps k₁) (T0.g.keeps k₁) (T0.b.keeps k₁) T0.builtins (T0.nolimit.keeps k₁) (by show A.depth + 1 < _; omega) (by omega) h3 fun t' h' tk k' => ?_
    refine spliced_none ⟨by rw [sizeLine_eq]; exact Nat.le_of_ble_eq_true rfl, ?_⟩
    have k7 : ∀ o, h'.StaysIn (h'.push o) := fun o b ob e => Heap.get?_push_of_some _ e
    have key := fun tok => new_texts2 (g := h') (x := Str.ofString "told") (y := ⟨(told257 x.cps.toList).toArray⟩) (u1 := tok) (u2 := t') (Heap.get?_push_size h' rfl) (fresh_none (Nat.le_refl _))
    have kk : s.heap.StaysIn h' := StaysIn.trans F.keep k'
    refine h _ s.heap _ _ _ .refl (StaysIn.trans kk (k7 _)) ((key _).1.later kk (StaysIn.refl _)) ?_
    rw [dueD, if_pos h3, ← told_due h3]
    exact (key _).2
  · refine parse_raises (K.push F) X T0 (by exact hh) (by show A.depth + 1 < _; omega) (by omega) h3 ?_
    intro e t0 h' tk R hsm
    refine caught_SOB (g₀ := s.heap) (KF := KF w) R F K hsm X T D .refl (by rfl) (by rfl) ?_
    intro h2 g2 news2 tk2 T2 F2 N2 G2 _ K2 X2 P2 D2
    have X3 : (KF w).In h2 := X2.keeps F2.keep
    have P3 := topRead_of (P2.keeps F2.keep)
    refine wpAny_of_NE ?_
    refine wpAny_execs_cons ?_
    refine wpAny_Return_some ?_
    refine wpAny_List_spliced ?_
    refine spliced_more ?_
    refine Constant_str ?_
    refine spliced_more ?_
    refine wpAny_Call_ofName ?_
    refine nm_builtin (K := KF w) (v := .type "str") X3 P3.g P3.b P3.builtins (by rfl) (by rfl) ?_ rfl rfl (by decide) rfl rfl (by decide)
    refine callWith_type1 ?_ (by rfl) (by rfl)
    refine spliced_more ?_
    refine nm_local F2.ns (v := .ref e) (if_pos rfl) ?_ rfl rfl (by decide)
    refine spliced_none ?_
    obtain ⟨oe, ot, ws, nt, hm1, hm2, hc, hd, h0, htc, htd⟩ := G2
    refine str_own (K := KF w) (C := 37) (o := oe) (ws := ws) (t0 := t0) (m := x) (tk := t) (by show A.units + _ + 2 < cLine; omega) X3 (by rfl) (by rfl) (N2.get hm1) hc hd h0 ⟨ot, nt, N2.get hm2, htc, htd⟩ ?_
    refine spliced_none ⟨by rw [sizeLine_eq]; exact Nat.le_of_ble_eq_true rfl, ?_⟩
    have F4 := F2.push (listOf #[.str (Str.ofString "refused") tk2, .str x t] 0)
    refine name_goes (news := [(h2.objs.size, listOf #[.str (Str.ofString "refused") tk2, .str x t] 0)]) F4 (News.push F2 News.nil _) ?_
    intro h5 m5 F5 N5
    have hN := N5 _ (.head _)
    obtain ⟨g1, g2'⟩ := new_texts2 (g := g2) hN.1 hN.2.2
    refine h _ g2 h5 _ _ T2 F5.keep g1 ?_
    rw [dueD, if_neg h3]
    have ex : txt (tx x) = x := by cases x; simp [txt, tx]
    rw [ex]
    exact g2'
end Mine
end

section
open PySem PySem.W PySem.Calls PyProof.Rows
namespace Mine
set_option maxRecDepth 100000

section
variable {prog : Program} {w : World} {A : Around}

/-- between two turns, where the frames fx may change, within inv -/
def CInvF (s₂ : Shared) (St : Nat → Heap → Prop) (inv : Heap → Prop) (R : Nat → List (Addr × Obj) → Value → Prop) (wr fx : List Addr) (D C : Addr) (n k : Nat) (s' : Shared) : Prop :=
  ∃ h' tk m' ys l kk i, s' = { s₂ with heap := h', toks := tk } ∧ St i h' ∧ inv h' ∧ h'.get? D = some (listOf ys kk) ∧ h'.Ns C m' ∧ Fresh s₂.heap h' l ∧ (∀ q ∈ l, q.1 ≠ D ∧ q.1 ≠ C ∧ q.1 ∉ wr ∧ q.1 ∉ fx) ∧
    Paired (fun i y => R i l y) (List.range i) ys.toList ∧ i ≤ n ∧ k = n + 1 - i ∧ (∀ b o, b ∉ wr → b ∉ fx → s₂.heap.get? b = some o → h'.get? b = some o)

structure CompF (prog : Program) (w : World) (A : Around) (env : Env) (elt target : Expr) (scope : Scope) (cl : List (Str × Addr)) (I : Addr) (wr fx : List Addr) (n : Nat)
    (St : Nat → Heap → Prop) (inv : Heap → Prop) (Bnd : Nat → (Str → Option Value) → Prop) (R : Nat → List (Addr × Obj) → Value → Prop) (s₂ : Shared) : Prop where
  W : Src prog w A target I wr s₂.heap.objs.size n St Bnd fun C => compEnvC scope cl C env
  hsz : n ≤ sizeLine
  hst : St 0 s₂.heap
  hinv : inv s₂.heap
  fxb : ∀ b ∈ fx, b < s₂.heap.objs.size
  frameF : ∀ i h h', St i h → (∀ b o, b < s₂.heap.objs.size → b ∉ fx → h.get? b = some o → h'.get? b = some o) → St i h'
  invF : ∀ h h', inv h → (∀ b o, b < s₂.heap.objs.size → b ∉ wr → h.get? b = some o → h'.get? b = some o) → inv h'
  heldF : ∀ h, inv h → ∀ b ∈ fx, ∃ o, h.get? b = some o
  elts : ∀ C i s₁ m, s₂.heap.objs.size ≤ C → i < n → Bnd i m → s₁.heap.Ns C m → inv s₁.heap → (∀ b o, b ∉ wr → b ∉ fx → s₂.heap.get? b = some o → s₁.heap.get? b = some o) →
      wpAny (model prog w) A (eval elt (compEnvC scope cl C env)) (fun y s' => ∃ h' tk' l, s' = { s₁ with heap := h', toks := tk' } ∧ (∀ b o, b ∉ fx → s₁.heap.get? b = some o → h'.get? b = some o) ∧ inv h' ∧ Fresh s₁.heap h' l ∧ R i l y) NE s₁
  mono : ∀ i l l' y, R i l y → (∀ q ∈ l, q ∈ l') → R i l' y

set_option maxHeartbeats 4000000 in
theorem comp_blockF {elt target iter : Expr} {scope : Scope} {cl : List (Str × Addr)} {pos : Pos} {env : Env} {s₂ : Shared} {I : Addr} {wr fx : List Addr} {n : Nat}
    {St : Nat → Heap → Prop} {inv : Heap → Prop} {Bnd : Nat → (Str → Option Value) → Prop} {R : Nat → List (Addr × Obj) → Value → Prop} {RR : Value → Addr → Result → Shared → Prop} {E : Value → Shared → Prop}
    (c : CompF prog w A env elt target scope cl I wr fx n St inv Bnd R s₂)
    (hcell : ∀ y ∈ scope.names, y.2 ≠ .cell) (hkind : scope.kind = .function)
    (hRR : ∀ D C h' tk m' ys l k, s₂.heap.objs.size ≤ C → s₂.heap.get? D = none → s₂.heap.get? C = none → D ≠ C → h'.Ns C m' → h'.get? D = some (listOf ys k) → Fresh s₂.heap h' l → (∀ q ∈ l, q.1 ≠ D ∧ q.1 ≠ C ∧ q.1 ∉ wr ∧ q.1 ∉ fx) →
      Paired (fun i y => R i l y) (List.range n) ys.toList → inv h' → (∀ b o, b ∉ wr → b ∉ fx → s₂.heap.get? b = some o → h'.get? b = some o) → RR (.ref D) C (.ok .next) { s₂ with heap := h', toks := tk }) :
    wpAny (model prog w) A (newList []) (fun acc s₃ => wpAny (model prog w) A (newFunctionEnv scope env.globals cl [] env.qual none .none (some env)) (fun cenv s₄ =>
      codeAny (model prog w) A (.compStart (.ListComp elt [⟨target, iter, [], 0⟩] scope pos) 0 (.ref I) acc { cenv with scope := relabel scope env }) (RR acc cenv.locals) s₄) E s₃) E s₂ := by
  obtain ⟨W, hsz, hst, hinv, fxb, frameF, invF, heldF, elts, mono⟩ := c
  refine wpAny_newObj_type (wpAny_newFunctionEnv hcell (by intro y hy; simp at hy) (fun h₁ hns₁ hsb₁ => ?_) hkind)
  dsimp only at hns₁ hsb₁ ⊢
  generalize hH2 : s₂.heap.push { cls := .type "list", dict := none, data := .seq ([] : List Value).toArray } = H2 at hns₁ hsb₁ ⊢
  have hC : H2.objs.size = s₂.heap.objs.size + 1 := by rw [← hH2, Heap.size_push]
  have hDC : s₂.heap.objs.size ≠ H2.objs.size := by rw [hC]; exact Nat.ne_of_lt (Nat.lt_succ_self _)
  have hCle : s₂.heap.objs.size ≤ H2.objs.size := by rw [hC]; exact Nat.le_succ _
  have below : ∀ b, b < s₂.heap.objs.size → b ≠ H2.objs.size ∧ b ≠ s₂.heap.objs.size := fun b hb => ⟨by rw [hC]; exact Nat.ne_of_lt (Nat.lt_succ_of_lt hb), Nat.ne_of_lt hb⟩
  have hDw : s₂.heap.objs.size ∉ wr := fun hm => Nat.lt_irrefl _ (W.below _ hm)
  have hCw : H2.objs.size ∉ wr := fun hm => by have := W.below _ hm; rw [hC] at this; exact Nat.lt_irrefl _ (Nat.lt_of_succ_lt this)
  have hDf : s₂.heap.objs.size ∉ fx := fun hm => Nat.lt_irrefl _ (fxb _ hm)
  have hCf : H2.objs.size ∉ fx := fun hm => by have := fxb _ hm; rw [hC] at this; exact Nat.lt_irrefl _ (Nat.lt_of_succ_lt this)
  have old : ∀ b o, s₂.heap.get? b = some o → h₁.get? b = some o := fun b o e => hsb₁.extBut b o (below b (Heap.lt_size e)).1 (Heap.get?_push_of_some _ (hH2 ▸ Heap.get?_push_of_some _ e))
  have hacc : h₁.get? s₂.heap.objs.size = some (listOf #[] 0) := hsb₁.extBut _ _ hDC (Heap.get?_push_of_some _ (hH2 ▸ Heap.get?_push_size _ rfl))
  have hst₁ : St 0 h₁ := W.frame _ _ _ hst fun b o _ e => old b o e
  have hin₁ : inv h₁ := invF _ _ hinv fun b o _ _ e => old b o e
  have loop : ∀ s₃ : Shared, s₃ = { s₂ with heap := h₁, toks := s₂.toks + ([] : List (Str × Value)).length } →
      codeAny (model prog w) A (.compLoop (.ListComp elt [⟨target, iter, [], 0⟩] scope pos) 0 (.ref I) (.ref s₂.heap.objs.size) (compEnvC scope cl H2.objs.size env)) (RR (.ref s₂.heap.objs.size) H2.objs.size) s₃ := by
    rintro s₃ rfl
    refine compLoop_turn (CInvF s₂ St inv R wr fx s₂.heap.objs.size H2.objs.size n) ?_ (n + 1)
      ⟨h₁, _, _, #[], [], 0, 0, rfl, hst₁, hin₁, hacc, hns₁, fun _ hp => (nomatch hp), fun _ hp => (nomatch hp), Paired.nil, Nat.zero_le _, rfl, fun b o _ _ e => old b o e⟩
    rintro k s' ⟨H, tk, m', ys, l, kk, i, rfl, hst', hinv', hacc', hn', hl, hlD, hF, hi, rfl, hk⟩
    by_cases hlt : i < n
    · refine wpAny_mono (W.next H2.objs.size i _ _ (fun s' => wpAny (model prog w) A (forIn ([] : List Expr) true fun c r => if r = true then do let ok ← isTrue c (compEnvC scope cl H2.objs.size env) (eval c (compEnvC scope cl H2.objs.size env)); pure (ForInStep.yield ok) else pure (ForInStep.yield r)) (fun ok s₃ =>
            if ok = true then wpAny (model prog w) A (eval elt (compEnvC scope cl H2.objs.size env)) (fun x s₄ =>
              wpAny (model prog w) A (call (.builtin "list.append") [.ref s₂.heap.objs.size, x]) (fun _ s₅ => ∃ m, m < n + 1 - i ∧ CInvF s₂ St inv R wr fx s₂.heap.objs.size H2.objs.size n m s₅) NE s₄) NE s₃
            else ∃ m, m < n + 1 - i ∧ CInvF s₂ St inv R wr fx s₂.heap.objs.size H2.objs.size n m s₃) NE s') hCle hlt hst' hn' fun h₂ tk₂ m₂ hst₂ hn₂ hB hk₂ => ?_) (fun r s' h => ?_) fun _ _ h => h
      · have up₂ : ∀ b o, b ∉ wr → b ∉ fx → s₂.heap.get? b = some o → h₂.get? b = some o := fun b o hb hf e => hk₂ b o (below b (Heap.lt_size e)).1 hb (hk b o hb hf e)
        have hacc₂ : h₂.get? s₂.heap.objs.size = some (listOf ys kk) := hk₂ _ _ hDC hDw hacc'
        have hl₂ : Fresh s₂.heap h₂ l := fun q hq => ⟨hk₂ _ _ (hlD q hq).2.1 (hlD q hq).2.2.1 (hl q hq).1, (hl q hq).2⟩
        have hinv₂ : inv h₂ := invF _ _ hinv' fun b o hb hw e => hk₂ b o (below b hb).1 hw e
        refine wpAny_pure (a := true) ?_
        rw [if_pos rfl]
        refine wpAny_mono (elts _ i _ _ hCle hlt hB hn₂ hinv₂ up₂) (fun y s₄ h₄ => ?_) fun _ _ e => e
        obtain ⟨h₄, tk₄, l₄, rfl, hk₄, hinv₄, hl₄, hR⟩ := h₄
        have hys : ys.size ≤ sizeLine := by
          have e1 := hF.length
          have e3 : (List.range i).length = i := List.length_range
          have e4 : ys.toList.length = ys.size := by simp
          omega
        have hD₄ : h₄.get? s₂.heap.objs.size = some (listOf ys kk) := hk₄ _ _ hDf hacc₂
        refine wpAny_list_append_plain (hsz := hys) (l := s₂.heap.objs.size) (items := ys) ⟨_, hD₄⟩ fun h₅ hp₅ hs₅ => ?_
        obtain ⟨k₅, hp₅⟩ := hp₅
        have hl₅ : ∀ q ∈ l₄, q.1 ≠ s₂.heap.objs.size ∧ q.1 ≠ H2.objs.size ∧ q.1 ∉ wr ∧ q.1 ∉ fx := fun q hq => by
          have hn := (hl₄ q hq).2
          refine ⟨fun e => ?_, fun e => ?_, fun hw => ?_, fun hf => ?_⟩
          · rw [e] at hn; rw [show Heap.get? h₂ s₂.heap.objs.size = _ from hacc₂] at hn; cases hn
          · obtain ⟨o, _, _, ho, _⟩ := hn₂
            rw [e] at hn; rw [show Heap.get? h₂ H2.objs.size = _ from ho] at hn; cases hn
          · obtain ⟨o, ho⟩ := W.held _ _ hst₂ _ hw
            rw [show Heap.get? h₂ q.1 = _ from ho] at hn; cases hn
          · obtain ⟨o, ho⟩ := heldF _ hinv₂ _ hf
            rw [show Heap.get? h₂ q.1 = _ from ho] at hn; cases hn
        have hnC₄ : h₄.Ns H2.objs.size m₂ := hn₂.at' fun o e => hk₄ _ o hCf e
        refine ⟨n + 1 - (i + 1), by omega, h₅, tk₄, _, ys.push y, l ++ l₄, k₅, i + 1, rfl, ?_, ?_, hp₅, hnC₄.sameBut hs₅ (Ne.symm hDC), ?_, ?_, ?_, hlt, rfl,
          fun b o hb hf e => hs₅.extBut b o (below b (Heap.lt_size e)).2 (hk₄ b o hf (up₂ b o hb hf e))⟩
        · exact frameF _ _ _ hst₂ fun b o hb hf e => hs₅.extBut b o (below b hb).2 (hk₄ b o hf e)
        · exact invF _ _ hinv₄ fun b o hb _ e => hs₅.extBut b o (below b hb).2 e
        · intro q hq
          rcases List.mem_append.mp hq with hq | hq
          · exact ⟨hs₅.extBut _ _ (hlD q hq).1 (hk₄ _ _ (hlD q hq).2.2.2 (hl₂ q hq).1), (hl q hq).2⟩
          · refine ⟨hs₅.extBut _ _ (hl₅ q hq).1 (hl₄ q hq).1, ?_⟩
            cases e : s₂.heap.get? q.1 with
            | none => rfl
            | some o =>
              have := up₂ _ _ (hl₅ q hq).2.2.1 (hl₅ q hq).2.2.2 e
              rw [show Heap.get? h₂ q.1 = none from (hl₄ q hq).2] at this; cases this
        · intro q hq
          rcases List.mem_append.mp hq with hq | hq
          · exact hlD q hq
          · exact hl₅ q hq
        · rw [List.range_succ]
          have hF' : Paired (fun i y => R i (l ++ l₄) y) (List.range i) ys.toList := hF.mono fun a b x => mono a l _ b x fun q hq => List.mem_append.mpr (.inl hq)
          simpa using Paired.snoc hF' (mono i l₄ (l ++ l₄) y hR fun q hq => List.mem_append.mpr (.inr hq))
      · cases r with
        | none => exact h.elim
        | some v => exact h
    · have hin : i = n := by omega
      subst hin
      refine wpAny_mono (W.done _ (fun s' => RR (.ref s₂.heap.objs.size) H2.objs.size (.ok .next) s') hst' fun h₂ tk₂ hk₂ => ?_) (fun r s' h => ?_) fun _ _ h => h
      · refine hRR _ _ h₂ tk₂ m' ys l kk hCle (fresh_none (Nat.le_refl _)) (fresh_none hCle) hDC (hn'.at' fun o e => hk₂ _ o hCw e) (hk₂ _ _ hDw hacc') (fun q hq => ⟨hk₂ _ _ (hlD q hq).2.2.1 (hl q hq).1, (hl q hq).2⟩) hlD hF (invF _ _ hinv' fun b o _ hw e => hk₂ b o hw e) fun b o hb hf e => hk₂ b o hb (hk b o hb hf e)
      · obtain ⟨rfl, h⟩ := h; exact h
  exact codeAny_compStart_list (loop _ rfl) (wpAny_of_NE (W.self _ _ hst₁ (loop _ rfl)))

theorem comp_exprF {elt target iter : Expr} {scope : Scope} {cl : List (Str × Addr)} {pos : Pos} {env : Env} {s : Shared} {Q : Value → Shared → Prop} {E : Value → Shared → Prop}
    (hclos : closureFor scope env = pure cl) (hcell : ∀ y ∈ scope.names, y.2 ≠ .cell) (hkind : scope.kind = .function) (hnames : ∀ y ∈ scope.names, y.2 = .local → scope.names.lookup y.1 = some .local)
    (h : wpAny (model prog w) A (eval iter env) (fun xv s₁ => wpAny (model prog w) A (pyIter xv) (fun it s₂ => ∃ I wr fx n St inv Bnd R, it = .ref I ∧ CompF prog w A env elt target scope cl I wr fx n St inv Bnd R s₂ ∧
      ∀ D h' tk ys l k, s₂.heap.get? D = none → h'.get? D = some (listOf ys k) → Fresh s₂.heap h' l → (∀ q ∈ l, q.1 ≠ D ∧ q.1 ∉ wr ∧ q.1 ∉ fx) →
        Paired (fun i y => R i l y) (List.range n) ys.toList → inv h' → (∀ b o, b ∉ wr → b ∉ fx → s₂.heap.get? b = some o → h'.get? b = some o) → Q (.ref D) { s₂ with heap := h', toks := tk }) E s₁) E s)
    (hs : ∀ x, foldedSetIterable iter env x = pure x) :
    wpAny (model prog w) A (eval (.ListComp elt [⟨target, iter, [], 0⟩] scope pos) env) Q E s := by
  rw [eval_ListComp]
  refine wpAny_comprehension_free (use := none) rfl hs hclos hkind hnames (wpAny_mono h (fun xv s₁ h₁ => wpAny_mono h₁ (fun it s₂ h₂ => ?_) fun _ _ e => e) fun _ _ e => e)
  obtain ⟨I, wr, fx, n, St, inv, Bnd, R, rfl, c, hQ⟩ := h₂
  have hic := c.invF
  refine comp_blockF (RR := fun acc C => compPost (model prog w) A E none Q acc C) c hcell hkind ?_
  intro D C h' tk m' ys l k hCz hD hC hDC hn hl hF hlD hP hi hk
  refine ⟨m', hn, fun h'' hs'' => hQ D h'' tk ys l k hD (hs''.extBut _ _ hDC hl) (fun q hq => ⟨hs''.extBut _ _ (hlD q hq).2.1 (hF q hq).1, (hF q hq).2⟩) (fun q hq => ⟨(hlD q hq).1, (hlD q hq).2.2⟩) hP ?_ fun b o hb hf e => ?_⟩
  · refine hic _ _ hi fun b o hb _ e => hs''.extBut b o ?_ e
    rintro rfl
    exact Nat.lt_irrefl _ (Nat.lt_of_lt_of_le hb hCz)
  · exact hs''.extBut b o (by rintro rfl; rw [hC] at e; cases e) (hk b o hb hf e)
end
end Mine
end

section
open PySem PySem.W PySem.Calls PyProof.Rows
namespace Mine
set_option maxRecDepth 100000

section
variable {prog : Program} {w : World} {A : Around} {E : Value → Shared → Prop} {s : Shared}

theorem call_next_end {it l : Addr} {i : Nat} {items : Array Value} {Q : Value → Shared → Prop} (hh : A.handled = none) (hit : s.heap.IsListIter it l i)
    (hl : s.heap.IsList l items) (hx : items[i]? = none)
    (hE : ∀ h' e t, (∀ b o, b ≠ it → s.heap.get? b = some o → h'.get? b = some o) → s.heap.get? e = none → h'.get? e = some { cls := .type "StopIteration", data := .fields #[.ref t, .none, .none, .none, .bool false, .none] } → E (.ref e) { s with heap := h' }) :
    wpAny (model prog w) A (call (.builtin "next") [.ref it]) Q E s := by
  refine call_function_entry (by decide +kernel) (by decide +kernel) kdk_entry_next (kdk_args_next _) ?_
  unfold Builtin.«next»
  refine wpAny_bind (m := someArgs "next" 1 2 _) (wpAny_of_eq (a := [Value.ref it]) (by first | rfl | kernel_rfl!) ?_)
  dsimp only
  refine wpAny_bind (wpAny_specialOf (name := Str.ofString "__next__") hit.typeIs slot_listiter_next.lookup ?_)
  refine wpAny_ite_split (fun hab => absurd hab (by decide)) (fun _ => ?_)
  obtain ⟨o, ho, hc, hd⟩ := id hit
  obtain ⟨ol, hol, _, nl, hdl⟩ := hl
  refine wpAny_bind (wpAny_callSpecial?_slot (name := Str.ofString "__next__") hit.typeIs slot_listiter_next
    (wpAny_call_entry slot_listiter_next hit.typeIs entry_listiter_next ?_ (args_listiter_next _)))
  show wpAny _ _ (field (.ref it) 0 >>= _) _ _ s
  refine wpAny_bind (wpAny_field ho hd (x := .ref l) rfl ?_)
  show wpAny _ _ (if (Value.ref l == Value.none) = true then _ else _) _ _ s
  rw [if_neg (show ¬ ((Value.ref l == Value.none) = true) from Bool.false_ne_true)]
  show wpAny _ _ (field (.ref it) 1 >>= _) _ _ s
  refine wpAny_bind (wpAny_field ho hd (x := .int i 0) rfl ?_)
  show wpAny _ _ (seqItems? (.ref l) >>= _) _ _ s
  refine wpAny_bind (wpAny_seqItems hol hdl ?_)
  simp only [Int.toNat_natCast, hx]
  refine wpAny_bind (wpAny_rule (wpAny_bind (wpAny_setField ho hd (by simp) ?_)))
  show wpAny _ _ (newExc (.type "StopIteration") [] >>= _) _ _ _
  refine wpAny_bind ?_
  simp only [newExc, newTuple]
  refine wpAny_bind (wpAny_newObj_type ?_ (by size_fits))
  refine wpAny_bind (m := firstArgMember _ _) (wpAny_of_eq (a := Value.none) (by first | rfl | (simp only [firstArgMember]; rfl)) ?_)
  refine wpAny_newObj_type ?_ (by size_fits)
  simp only [raiseNew]
  refine wpAny_bind (wpAny_handled ?_)
  first | rw [show A.in1.in1.handled = none from hh] | rw [show A.in1.handled = none from hh] | rw [hh]
  refine wpAny_bind (wpAny_pure (wpAny_throw ?_))
  refine hE _ _ _ (((Heap.SameBut.update ..).extBut.push _).push _) ?_ (Heap.get?_push_size _ rfl)
  refine fresh_none ?_
  rw [Heap.size_push, Heap.size_after_update]
  exact Nat.le_succ _

/-- the frame is noted on a new exception, and lands -/
theorem note_land {M : Model} {base : Heap} {env : Env} {outer : List Env} {L e : Addr} {oe : Obj} {vs : Array Value} {Q : Unit → Shared → Prop}
    (hfr : A.frames = some (env :: outer)) (hl : s.heap.FunFrames base (env :: outer)) (hf : env.frame = some L)
    (he : s.heap.get? e = some oe) (hkb : base.StaysIn s.heap) (hen : base.get? e = none) (hd : oe.data = .fields vs) (h1 : vs[1]? = some .none)
    (h : ∀ h' T oT ts, base.StaysIn h' → h'.FunFrames base (env :: outer) → h'.get? e = some (oe.mapFields (·.setIfInBounds 1 (.ref T))) → T ≠ e → base.get? T = none → h'.get? T = some oT → oT.data = .fields ts → 3 < ts.size →
      s.heap.UpToSlots h' → Q () { s with heap := h' }) :
    wpAny M A (noteFrame (.ref e) env) (fun _ s' => wpAny M A (setFlight (.ref e) none) Q E s') E s := by
  have hsz : 1 < vs.size := (Array.getElem?_eq_some_iff.mp h1).1
  have hene : e ∉ (env :: outer).filterMap (·.frame) := fun hm => by
    obtain ⟨_, o, ho, hnf⟩ := hl.mem hm
    rw [he] at ho; injection ho with ho; subst ho; exact hnf vs hd
  unfold noteFrame
  simp only [hf]
  refine wpAny_bind (wpAny_field he hd h1 ?_)
  rw [if_neg (by decide)]
  refine wpAny_bind (wpAny_frameOf_fun hfr hl hf fun h₁ hs₁ => ?_)
  refine wpAny_bind (wpAny_entryPlaceOf fun pl hpl => ?_)
  unfold EntryCells.newEntry newFields
  refine wpAny_bind (wpAny_newObj_type ?_ (hpl.sizeOk5 _ _ _ _ _))
  have he₁ : h₁.get? e = some oe := (hs₁.2.1 e hene).trans he
  have kb₁ : base.StaysIn h₁ := fun b o hbo => (hs₁.2.1 b fun hm => by rw [(hl.mem hm).1] at hbo; cases hbo).trans (hkb b o hbo)
  generalize hO : ({ cls := .type "traceback", dict := none, data := .fields ([Value.none, .ref L, .none, rawInt L, .none] ++ (if pl.isEmpty then List.replicate 6 Value.none else pl)).toArray } : Obj) = O
  have hOd : O.data = .fields ([Value.none, .ref L, .none, rawInt L, .none] ++ (if pl.isEmpty then List.replicate 6 Value.none else pl)).toArray := by rw [← hO]
  have hOf : O.isFreed = false := Obj.isFreed_of_fields hOd
  have he₂ := Heap.get?_push_of_some (h := h₁) O he₁
  refine wpAny_setField he₂ hd hsz ?_
  have hTe : h₁.objs.size ≠ e := Nat.ne_of_gt (Heap.lt_size he₁)
  have hd₃ := Obj.data_mapFields hd (·.setIfInBounds 1 (Value.ref h₁.objs.size))
  have he₃ := Heap.get?_update_self (Obj.mapFields (·.setIfInBounds 1 (Value.ref h₁.objs.size))) he₂ (Obj.isFreed_of_fields hd₃)
  have hT₃ := (Heap.get?_update_other (h₁.push O) (Obj.mapFields (·.setIfInBounds 1 (Value.ref h₁.objs.size))) (Ne.symm hTe)).trans (Heap.get?_push_size h₁ hOf)
  unfold setFlight
  refine wpAny_bind (wpAny_field he₃ hd₃ (x := .ref h₁.objs.size) (by simp [hsz]) ?_)
  rw [if_pos (show (Value.ref h₁.objs.size != Value.none) = true from by simp)]
  refine wpAny_setField hT₃ hOd (by simp only [List.size_toArray, List.length_append, List.length_cons, List.length_nil] <;> omega) ?_
  have keep : ∀ b o, b ≠ e → h₁.get? b = some o →
      (((h₁.push O).update e (Obj.mapFields (·.setIfInBounds 1 (Value.ref h₁.objs.size)))).update h₁.objs.size
        (Obj.mapFields (·.setIfInBounds 3 ((none : Option Addr).elim Value.none fun f => rawInt f)))).get? b = some o := fun b o hbe hb => by
    have hbT : h₁.objs.size ≠ b := Nat.ne_of_gt (Heap.lt_size hb)
    rw [Heap.get?_update_other _ _ hbT, Heap.get?_update_other _ _ (Ne.symm hbe)]
    exact Heap.get?_push_of_some _ hb
  have noRecord : ∀ b o, s.heap.get? b = some o → (∀ vs, o.data ≠ .fields vs) → b ≠ e := fun b o hb hnf q => by
    rw [q, he] at hb; injection hb with hb; subst hb; exact hnf vs hd
  refine h _ h₁.objs.size _ _ (fun b o hbo => keep b o (fun q => by rw [q, hen] at hbo; cases hbo) (kb₁ b o hbo)) (hl.of_keeps fun b o hb hnf => ?_) ?_ hTe kb₁.fresh
    (Heap.get?_update_self _ hT₃ (Obj.isFreed_of_fields (Obj.data_mapFields hOd _))) (Obj.data_mapFields hOd _) (by simp) fun b o hb hnf => ?_
  · obtain ⟨sl, hs⟩ := hs₁.2.2 b o hb
    exact ⟨_, keep b _ (noRecord b o hb hnf) hs, rfl⟩
  · rw [Heap.get?_update_other _ _ hTe]; exact he₃
  · obtain ⟨sl, hs⟩ := hs₁.2.2 b o hb
    exact ⟨sl, keep b _ (noRecord b o hb hnf) hs⟩

theorem entry_unchain : entryFor table "proto.unchain" = some Builtin.«proto.unchain» := entryFor_of_tree (by kernel_rfl)

/-- a raise out of a handler: the handled one has no context -/
theorem raiseNew_in {α : Type} {e e0 : Addr} {oe oe0 : Obj} {vs ws : Array Value} {Q : α → Shared → Prop} (hh : A.handled = some (.ref e0)) (hne : e0 ≠ e)
    (h0 : s.heap.get? e0 = some oe0) (h0d : oe0.data = .fields ws) (h02 : ws[2]? = some .none) (he : s.heap.get? e = some oe) (hd : oe.data = .fields vs) (h2 : 2 < vs.size)
    (h : E (.ref e) { s with heap := s.heap.update e (Obj.mapFields (·.setIfInBounds 2 (.ref e0))) }) :
    wpAny (model prog w) A (raiseNew (.ref e)) Q E s := by
  unfold raiseNew
  refine wpAny_bind (wpAny_handled ?_)
  rw [hh]
  dsimp only
  rw [if_pos (by simpa using hne)]
  refine wpAny_bind (wpAny_holding ?_)
  refine wpAny_runValue (codeAny_builtin entry_unchain ?_)
  rw [Around.under_plainId (by decide +kernel) _]
  unfold Builtin.«proto.unchain»
  dsimp only
  refine wpAny_bind (wpAny_field h0 h0d h02 ?_)
  rw [if_pos (show (Value.none == Value.none) = true from rfl)]
  refine wpAny_pure (a := Fin.done (.ret .none)) ?_
  show wpAny _ A (do setField (.ref e) 2 (.ref e0); throw (.ref e)) _ _ _
  exact wpAny_bind (wpAny_setField he hd h2 (wpAny_throw h))

theorem exc_value {M : Model} {cls : String} (F : ExcRaiseFacts cls) {e : Addr} {vs : Array Value} {c : String} {Q : Value → Shared → Prop} (he : s.heap.get? e = some { cls := .type cls, data := .fields vs }) (h : Q (.ref e) s) :
    wpAny M A (excFromValue (.ref e) c) Q E s := by
  obtain ⟨hp, g, d, tk, os⟩ := s
  have hsub := F.isExc
  unfold excFromValue
  repeat (first | refine wpAny_loadPart he ?_ | wp_step)
  exact h
theorem no_type {M : Model} {cls : String} {e : Addr} {vs : Array Value} {Q : Bool → Shared → Prop} (he : s.heap.get? e = some { cls := .type cls, data := .fields vs }) (h : Q false s) :
    wpAny M A (isType (.ref e)) Q E s := by
  obtain ⟨hp, g, d, tk, os⟩ := s
  repeat (first | refine wpAny_loadPart he ?_ | wp_step)
  exact h
theorem raised_inst {M : Model} {cls : String} (F : ExcRaiseFacts cls) {e : Addr} {vs : Array Value} {Q : Value → Shared → Prop} (he : s.heap.get? e = some { cls := .type cls, data := .fields vs }) (h : Q (.ref e) s) :
    wpAny M A (raisedInstance (.ref e)) Q E s := by
  obtain ⟨hp, g, d, tk, os⟩ := s
  have hsub := F.isExc
  have hmeta := F.plainMeta
  unfold raisedInstance
  repeat (first | refine wpAny_loadPart he ?_ | wp_step)
  exact h
theorem no_flight {M : Model} {e : Addr} {o : Obj} {vs : Array Value} {f : Option Addr} {Q : Unit → Shared → Prop} (he : s.heap.get? e = some o) (hd : o.data = .fields vs) (h1 : vs[1]? = some .none) (h : Q () s) :
    wpAny M A (setFlight (.ref e) f) Q E s := by
  unfold setFlight
  refine wpAny_bind (wpAny_field he hd h1 ?_)
  rw [if_neg (by decide)]
  exact wpAny_pure h

/-- raise X from None, in a handler -/
theorem raise_from {cls : String} (F : ExcRaiseFacts cls) {x : Expr} {k : Nat} {pos cpos : Pos} {env : Env} {e0 : Addr} {oe0 : Obj} {ws : Array Value} {Q : Flow → Shared → Prop} (hh : A.handled = some (.ref e0))
    (h0d : oe0.data = .fields ws) (h02 : ws[2]? = some .none)
    (h : wpAny (model prog w) A (eval x env) (fun v s₁ => ∃ e t, v = .ref e ∧ s₁.heap.get? e = some { cls := .type cls, data := .fields #[.ref t, .none, .none, .none, .bool false, .none] } ∧ e0 ≠ e ∧ s₁.heap.get? e0 = some oe0 ∧
      ∀ h', Heap.SameBut e s₁.heap h' → h'.get? e = some { cls := .type cls, data := .fields #[.ref t, .none, .ref e0, .none, .bool true, .none] } → E (.ref e) { s₁ with heap := h' }) E s) :
    wpAny (model prog w) A (exec (.Raise (some x) (some (.Constant .none k cpos)) pos) env) Q E s := by
  rw [arm_exec_Raise]
  refine wpAny_bind (wpAny_standAt ?_)
  show wpAny (model prog w) A (raiseStmt env (some (do let v ← eval x env; standAt pos; pure v)) (some (do let v ← eval (.Constant .none k cpos) env; standAt pos; pure v))) Q E s
  unfold raiseStmt
  refine wpAny_bind (wpAny_bind (wpAny_mono h (fun v s₁ h₁ => wpAny_bind (wpAny_standAt (wpAny_pure ?_))) fun _ _ x => x))
  obtain ⟨e, t, rfl, he, hne, h0, hE⟩ := h₁
  obtain ⟨hp, g, d, tk, os⟩ := s₁
  refine wpAny_bind (wpAny_holding (wpAny_bind (Constant_none (wpAny_bind (wpAny_standAt (wpAny_pure ?_))))))
  refine wpAny_bind (wpAny_pure ?_)
  refine wpAny_bind (wpAny_holding (exc_value F he ?_))
  dsimp only
  rw [if_pos (show (Value.none == Value.none) = true from rfl)]
  refine wpAny_bind (wpAny_pure ?_)
  refine wpAny_bind (wpAny_setField_rec he (Nat.le_of_ble_eq_true rfl) fun h1 he1 hs1 => ?_)
  refine wpAny_bind (wpAny_setField_rec he1 (Nat.le_of_ble_eq_true rfl) fun h2 he2 hs2 => ?_)
  refine wpAny_bind (no_type he2 ?_)
  rw [if_neg (by decide)]
  refine wpAny_bind (raised_inst F he2 ?_)
  refine wpAny_bind (no_flight he2 rfl rfl ?_)
  refine raiseNew_in hh hne ((hs2.2 _ hne).trans ((hs1.2 _ hne).trans h0)) h0d h02 he2 rfl (Nat.le_of_ble_eq_true rfl) ?_
  refine hE _ ?_ (Heap.get?_update_self _ he2 rfl)
  exact hs1.trans (hs2.trans (Heap.SameBut.update ..))
end
end Mine
end

section
open PySem PySem.W PySem.Calls PyProof.Rows
namespace Mine
set_option maxRecDepth 100000

theorem funFrames_to {h base B : Heap} : ∀ {l : List Env}, h.FunFrames base l → (∀ b ∈ l.filterMap (·.frame), B.get? b = none) → h.FunFrames B l
  | [], _, _ => trivial
  | env :: _, ⟨hk, ⟨L, o, hf, _, ho, hd⟩, hr⟩, hin => ⟨hk, ⟨L, o, hf, hin L (List.mem_filterMap.mpr ⟨env, .head _, hf⟩), ho, hd⟩, funFrames_to hr fun b hb => hin b (by
      obtain ⟨e, he, h1⟩ := List.mem_filterMap.mp hb
      exact List.mem_filterMap.mpr ⟨e, .tail _ he, h1⟩)⟩

set_option maxHeartbeats 8000000 in
theorem reduce_raises {prog : Program} {w : World} {A : Around} {p : Program} {loose : List Str} {mg mb : Str → Option Value} {E : Value → Shared → Prop} {s : Shared} {Q : Value → Shared → Prop} {base : Heap} {outer : List Env} {f I l : Addr} {nl : Nat} {fd : FuncData}
    (K : Below A base outer s.heap) (X : (KF w).In base) (T : TopRead p loose mg mb base) (hh : A.handled = none) (hroom : A.depth < recursionLimit)
    (hit : s.heap.IsListIter I l 0) (hl : s.heap.get? l = some (listOf #[] nl)) (hI : base.get? I = none)
    (h : ∀ e h' tk, RaisedSN base (hideAll s.heap [I]) outer e (.type "TypeError") [] h' → (hideAll s.heap [I]).UpToSlots h' → E (.ref e) { s with heap := h', toks := tk }) :
    wpAny (model prog w) A (call (.ref 55) [.ref f, .ref I]) Q E s := by
  have hbi : BindsTo s (fdOf (KF w) 55 fd) ⟨[.ref f, .ref I], []⟩ [(Str.ofString "function", .ref f), (Str.ofString "sequence", .ref I), (Str.ofString "initial", .ref 47)] :=
    binds_K (X.keeps K.stays) (by exact rfl) (by exact rfl) (by exact rfl) (by exact rfl) (by exact rfl)
  refine' enterE (binds := [(Str.ofString "function", .ref f), (Str.ofString "sequence", .ref I), (Str.ofString "initial", .ref 47)]) (X.keeps K.stays) (T.nolimit.keeps K.stays) ?ho ?hcd hroom ?hb ?hl ?_ ?c1 ?c2 ?c3 ?c4
  case ho => exact rfl
  case hcd => rfl
  case hb => exact hbi
  case hl => exact locs rfl
  case c1 => rfl
  case c2 => rfl
  case c3 => rfl
  case c4 => decide
  intro h₁ Fm
  have hnL : s.heap.get? s.heap.objs.size = none := fresh_none (Nat.le_refl _)
  have k₁ : base.StaysIn h₁ := StaysIn.trans K.stays Fm.keep
  have hit1 : h₁.IsListIter I l 0 := hit.at fun o e => Fm.keep _ _ e
  have hIL : I ≠ s.heap.objs.size := by obtain ⟨o, ho, _⟩ := hit; exact Nat.ne_of_lt (Heap.lt_size ho)
  have hIf : ∀ o, s.heap.get? I = some o → ∃ vs, o.data = .fields vs := fun o e => by
    obtain ⟨o', ho', _, hd'⟩ := hit
    rw [e] at ho'
    cases ho'
    exact ⟨_, hd'⟩
  refine wpAny_execs_cons ?_
  refine wpAny_Assign_Name ?_
  refine wpAny_Call_ofName ?_
  refine nm_builtin (K := KF w) (v := .builtin "iter") (X.keeps k₁) (T.g.keeps k₁) (T.b.keeps k₁) T.builtins (by rfl) (by rfl) ?_ rfl rfl (by decide) rfl rfl (by decide)
  refine PyProof.Rows.callWith_builtin1 ?_
  refine spliced_more ?_
  refine nm_local Fm.ns (v := .ref I) rfl ?_ rfl rfl (by decide)
  refine spliced_none ?_
  refine call_iter ?_
  refine wpAny_pyIter_listiter hit1 ?_
  refine wpAny_storeName_local rfl Fm.ns (fun h₂ n₂ s₂ => ?_) rfl
  have k₂ : s.heap.StaysIn h₂ := stays_of_ext hnL Fm.keep fun b o => s₂.extBut b o
  have kb₂ : base.StaysIn h₂ := StaysIn.trans K.stays k₂
  refine wpAny_execs_cons ?_
  refine wpAny_If ?_
  refine wpAny_isTrue_Compare1 ?_
  refine nm_local n₂ (v := .ref 47) ((if_neg (by decide)).trans rfl) ?_ rfl rfl (by decide)
  refine nm_global (K := KF w) (v := .ref 47) (X.keeps kb₂) (T.g.keeps kb₂) (by rfl) ?_ rfl rfl rfl (by decide)
  refine is_ref_same ?_
  refine wpAny_truthy_bool ?_
  rw [if_pos rfl]
  refine wpAny_execs_cons ?_
  refine wpAny_Try_except ?_
  refine wpAny_execs_cons ?_
  refine wpAny_Assign_Name ?_
  refine wpAny_Call_ofName ?_
  refine nm_builtin (K := KF w) (v := .builtin "next") (X.keeps kb₂) (T.g.keeps kb₂) (T.b.keeps kb₂) T.builtins (by rfl) (by rfl) ?_ rfl rfl (by decide) rfl rfl (by decide)
  refine PyProof.Rows.callWith_builtin1 ?_
  refine spliced_more ?_
  refine nm_local n₂ (v := .ref I) (if_pos rfl) ?_ rfl rfl (by decide)
  refine spliced_none ?_
  have hL2 : h₂.IsList l #[] := ⟨_, k₂ _ _ hl, rfl, _, rfl⟩
  refine call_next_end (by exact hh) (hit.at fun o e => k₂ _ _ e) hL2 (by simp) ?_
  intro h₃ e0 t0 k₃ e0n e0s
  have hbI : ∀ b o, s.heap.get? b = some o → (∀ vs, o.data ≠ .fields vs) → b ≠ I := fun b o e hn q => by
    rw [q] at e
    obtain ⟨vs, hv⟩ := hIf o e
    exact hn vs hv
  have sh3 : ∀ b o, b ≠ I → s.heap.get? b = some o → h₃.get? b = some o := fun b o hb e => k₃ b o hb (k₂ _ _ e)
  -- the ground
  have hfro : ∀ b ∈ outer.filterMap (·.frame), base.get? b = none ∧ ∃ o, s.heap.get? b = some o ∧ ∀ vs, o.data ≠ .fields vs := fun b hb => K.frames.mem hb
  obtain ⟨B, hB⟩ : ∃ B, B = hideAll s.heap (I :: outer.filterMap (·.frame)) := ⟨_, rfl⟩
  have hBs : ∀ b o, B.get? b = some o → s.heap.get? b = some o ∧ b ≠ I ∧ b ∉ outer.filterMap (·.frame) := fun b o e => by
    rw [hB] at e
    refine ⟨of_hideAll _ e, fun q => ?_, fun q => ?_⟩
    · rw [hideAll_none _ (by rw [q]; exact .head _)] at e; cases e
    · rw [hideAll_none _ (.tail _ q)] at e; cases e
  have hBin : ∀ b o, s.heap.get? b = some o → b ≠ I → b ∉ outer.filterMap (·.frame) → B.get? b = some o := fun b o e h1 h2 => by
    rw [hB]
    exact hideAll_get _ e fun q => (List.mem_cons.mp q).elim h1 h2
  have bB : base.StaysIn B := fun b o e => hBin b o (K.stays b o e) (fun q => by rw [q, hI] at e; cases e) fun q => by rw [(hfro b q).1] at e; cases e
  have Bnone : ∀ b, s.heap.get? b = none → B.get? b = none := fun b e => by
    cases q : B.get? b with
    | none => rfl
    | some o => rw [(hBs b o q).1] at e; cases e
  have BL : B.get? s.heap.objs.size = none := Bnone _ hnL
  have B3 : B.StaysIn h₃ := fun b o e => sh3 b o (hBs b o e).2.1 (hBs b o e).1
  have n₃ : h₃.Ns s.heap.objs.size _ := n₂.at' fun o e => k₃ _ o (Ne.symm hIL) e
  have fo3 : h₃.FunFrames B outer := funFrames_to (K.frames.of_keeps fun b o e hn => ⟨o, sh3 b o (hbI b o e hn) e, rfl⟩) fun b hb => by
    rw [hB]; exact hideAll_none _ (.tail _ hb)
  have e0B : B.get? e0 = none := Bnone _ (by
    cases q : s.heap.get? e0 with
    | none => rfl
    | some o => have := k₂ _ _ q; rw [show Heap.get? h₂ e0 = none from e0n] at this; cases this)
  refine note_land (base := B) (outer := outer) (L := s.heap.objs.size) (Around.frames_deeper K.stack) (Heap.FunFrames.cons (fun q => by cases q) rfl n₃ BL fo3) rfl e0s B3 e0B rfl rfl ?_
  intro h₄ T0 oT ts B4 ff4 e04 hTe BT hT4 hTd hTz u34
  have kb₄ : base.StaysIn h₄ := StaysIn.trans bB B4
  refine wpAny_handleBy_builtin (X := "StopIteration") (T := "StopIteration") (b := true) (by rw [isSubtype_type]; kernel_rfl) (by rw [isSubtype_type]; kernel_rfl) isSubtype_stop ?_
  refine nm_builtin (K := KF w) (v := .type "StopIteration") (X.keeps kb₄) (T.g.keeps kb₄) (T.b.keeps kb₄) T.builtins (by rfl) (by rfl) ?_ rfl rfl (by decide) rfl rfl (by decide)
  refine ⟨rfl, ⟨_, e04, rfl⟩, ?_⟩
  rw [if_pos rfl]
  unfold setFlight
  refine wpAny_bind (wpAny_field e04 rfl (x := .ref T0) rfl ?_)
  rw [if_pos (show (Value.ref T0 != Value.none) = true from by simp)]
  refine wpAny_setField hT4 hTd hTz ?_
  refine wpAny_passesOwnAt (by passes_own) ?_
  obtain ⟨h₅, eh₅⟩ : ∃ h₅, h₅ = h₄.update T0 (Obj.mapFields (·.setIfInBounds 3 ((none : Option Addr).elim Value.none fun f => rawInt f))) := ⟨_, rfl⟩
  rw [← eh₅]
  have k45 : ∀ b o, b ≠ T0 → h₄.get? b = some o → h₅.get? b = some o := fun b o hb e => by rw [eh₅, Heap.get?_update_other _ _ (Ne.symm hb)]; exact e
  have B5 : B.StaysIn h₅ := fun b o e => k45 b o (fun q => by rw [q, BT] at e; cases e) (B4 b o e)
  have kb₅ : base.StaysIn h₅ := StaysIn.trans bB B5
  have e05 := k45 _ _ (Ne.symm hTe) e04
  have u45 : h₄.UpToSlots h₅ := fun b o e hn => ⟨o.slots, k45 b o (fun q => by rw [q, hT4] at e; injection e with e; subst e; exact hn _ hTd) e⟩
  refine wpAny_execs_cons ?_
  refine raise_from PySem.F.excRaise_TypeError (e0 := e0) (oe0 := ({ cls := .type "StopIteration", data := .fields #[.ref t0, .none, .none, .none, .bool false, .none] } : Obj).mapFields (·.setIfInBounds 1 (.ref T0))) (ws := (#[.ref t0, .none, .none, .none, .bool false, .none] : Array Value).setIfInBounds 1 (.ref T0)) rfl rfl rfl ?_
  refine wpAny_Call_ofName ?_
  refine nm_builtin (K := KF w) (v := .type "TypeError") (X.keeps kb₅) (T.g.keeps kb₅) (T.b.keeps kb₅) T.builtins (by rfl) (by rfl) ?_ rfl rfl (by decide) rfl rfl (by decide)
  refine PyProof.Rows.callWith_type1 ?_ (by rfl) (by rfl)
  refine spliced_more ?_
  refine Constant_str ?_
  refine spliced_none ?_
  refine wpAny_call_exc PySem.F.excCall_TypeError (fun h₆ e1 M6 => ?_) (by rw [sizeLine_eq]; exact Nat.le_of_ble_eq_true rfl)
  obtain ⟨t1, he1, ht1, _⟩ := M6.there
  have hne01 : e0 ≠ e1 := fun q => by have := M6.new; rw [← q, show Heap.get? h₅ e0 = _ from e05] at this; cases this
  refine ⟨e1, t1, rfl, he1, hne01, M6.keeps _ _ e05, fun h₇ s67 e17 => ?_⟩
  have k57 : ∀ b o, h₅.get? b = some o → h₇.get? b = some o := fun b o e => s67.extBut b o (fun q => by have := M6.new; rw [← show b = e1 from q, show Heap.get? h₅ b = _ from e] at this; cases this) (M6.keeps _ _ e)
  have B7 : B.StaysIn h₇ := StaysIn.trans B5 k57
  have u47 : h₄.UpToSlots h₇ := u45.trans (.of_keeps k57)
  have ff7 := ff4.of_keeps (h' := h₇) fun b o e hn => by obtain ⟨sl, q⟩ := u47 b o e hn; exact ⟨_, q, rfl⟩
  have e1B : B.get? e1 = none := by
    cases q : B.get? e1 with
    | none => rfl
    | some o => have := M6.new; rw [show Heap.get? h₅ e1 = _ from B5 _ _ q] at this; cases this
  refine wpAny_leaving_firstW (base := B) (outer := outer) (L := s.heap.objs.size) (a0 := .ref t1) (Around.frames_deeper K.stack) ff7 rfl e17 B7 e1B rfl rfl rfl fun h₈ hL => ?_
  obtain ⟨q1, ⟨_, _, q2⟩, q3, q4⟩ := hL
  refine h e1 h₈ _ ⟨B, .ref t1, bB, fun b o e hn => ?_, fun _ hp => (nomatch hp), q1, e1B, q2, q3⟩ ?_
  · exact hBin b o (of_hideAll _ e) (fun q => by rw [q, hideAll_none _ (.head _)] at e; cases e) hn
  · intro b o e hn
    have e' := of_hideAll _ e
    obtain ⟨sl, x1⟩ := u34 b o (sh3 b o (hbI b o e' hn) e') hn
    obtain ⟨sl', x2⟩ := u47 b _ x1 hn
    obtain ⟨sl'', x3⟩ := q4 b _ x2 hn
    exact ⟨sl'', x3⟩
end Mine
end

section
open PySem PySem.W PySem.Calls PyProof.Rows
namespace Mine
set_option maxRecDepth 100000

set_option maxHeartbeats 8000000 in
theorem empty_spec {prog : Program} {w : World} {A : Around} {p : Program} {loose : List Str} {mean : ExcName → Option Value} {mg mb : Str → Option Value} {E : Value → Shared → Prop} {s : Shared} {Q : Value → Shared → Prop} {base : Heap} {outer : List Env} {fd : FuncData}
    (K : Below A base outer s.heap) (D : KtsDicts (outer.filterMap (·.frame)) s.heap) (X : (KF w).In base) (T : Top p loose mean mg mb base) (hh : A.handled = none) (hroom : A.depth + 1 < recursionLimit)
    (h : ∀ u g' h' tk, KtsTurn (outer.filterMap (·.frame)) s.heap g' → g'.StaysIn h' → Q (.str (Str.ofString "refused") u) { s with heap := h', toks := tk }) :
    wpAny (model prog w) A (call (.ref 112) []) Q E s := by
  have T0 := topRead_of T
  refine' enter (binds := []) (X.keeps K.stays) (T0.nolimit.keeps K.stays) ?ho ?hcd (by omega) ?hb ?hl ?_ ?c1 ?c2 ?c3 ?c4
  case ho => exact rfl
  case hcd => rfl
  case hb => exact BindsTo.of_eq rfl
  case hl => intro y hy; cases hy
  case c1 => rfl
  case c2 => rfl
  case c3 => rfl
  case c4 => decide
  intro h₁ F
  have k₁ : base.StaysIn h₁ := StaysIn.trans K.stays F.keep
  refine wpAny_execs_cons ?_
  refine wpAny_Try_except ?_
  refine wpAny_execs_cons ?_
  refine wpAny_Return_some ?_
  refine call_top (K := KF w) (f := 55) (X.keeps k₁) (T0.g.keeps k₁) (by rfl) (by exact rfl) rfl ?_ rfl rfl rfl (by decide) (by rfl)
  refine spliced_more ?_
  refine nm_global (K := KF w) (v := .ref 98) (X.keeps k₁) (T0.g.keeps k₁) (by rfl) ?_ rfl rfl rfl (by decide)
  refine spliced_more ?_
  refine wpAny_Call_ofName ?_
  refine nm_builtin (K := KF w) (v := .builtin "iter") (X.keeps k₁) (T0.g.keeps k₁) (T0.b.keeps k₁) T0.builtins (by rfl) (by rfl) ?_ rfl rfl (by decide) rfl rfl (by decide)
  refine PyProof.Rows.callWith_builtin1 ?_
  refine spliced_more ?_
  refine wpAny_List_spliced ?_
  refine spliced_none ⟨by rw [sizeLine_eq]; exact Nat.le_of_ble_eq_true rfl, ?_⟩
  refine spliced_none ?_
  refine call_iter ?_
  have hl2 : (h₁.push (listOf #[] 0)).get? h₁.objs.size = some (listOf #[] 0) := Heap.get?_push_size _ rfl
  have hL2 : (h₁.push (listOf #[] 0)).IsList h₁.objs.size #[] := ⟨_, hl2, rfl, _, rfl⟩
  refine wpAny_pyIter_list hL2 ?_
  refine spliced_none ⟨fun b o e => Heap.get?_push_of_some _ (Heap.get?_push_of_some _ e), ?_⟩
  have F2 := F.push (listOf #[] 0)
  have F3 := F2.push { cls := .type "list_iterator", data := .fields #[.ref h₁.objs.size, .int 0 0] }
  have kb : base.StaysIn (h₁.push (listOf #[] 0)) := StaysIn.trans K.stays F2.keep
  refine reduce_raises (I := (h₁.push (listOf #[] 0)).objs.size) (l := h₁.objs.size) (fd := fd) (K.push F3) X T0 (by exact hh) (by show A.depth + 1 < _; omega) ⟨_, Heap.get?_push_size _ rfl, rfl, rfl⟩ (Heap.get?_push_of_some _ hl2) kb.fresh ?_
  intro e h' tk R hsm
  have hLI : s.heap.objs.size ≠ (h₁.push (listOf #[] 0)).objs.size := by
    obtain ⟨o, _, _, ho, _⟩ := F2.ns
    exact Nat.ne_of_lt (Heap.lt_size ho)
  have Fh : Fr s.heap s.heap.objs.size (hideAll ((h₁.push (listOf #[] 0)).push { cls := .type "list_iterator", data := .fields #[.ref h₁.objs.size, .int 0 0] }) [(h₁.push (listOf #[] 0)).objs.size]) (fun y => ([] : List (Str × Value)).reverse.lookup y) := by
    refine ⟨F3.ns.at' fun o e => hideAll_get _ e fun q => hLI (List.mem_singleton.mp q), fun b o e => hideAll_get _ (F3.keep b o e) fun q => ?_, F3.above⟩
    exact Nat.lt_irrefl _ (Nat.lt_of_lt_of_le (Heap.lt_size (F2.keep b o e)) (Nat.le_of_eq (List.mem_singleton.mp q).symm))
  refine caught_SN0 (g₀ := s.heap) (KF := KF w) R Fh K hsm X T D .refl (x := Str.ofString "TypeError") (T' := "TypeError") (by rfl) (by rfl) (by decide) (by rw [isSubtype_type]; kernel_rfl) (by rw [isSubtype_type]; kernel_rfl) (by rw [isSubtype_type]; kernel_rfl) ?_
  intro h2 g2 T2 F4 _ _ _ _ _
  refine wpAny_execs_cons ?_
  refine wpAny_Return_some ?_
  refine Constant_str ?_
  exact h _ g2 h2 _ T2 F4.keep
end Mine
end

section
open PySem PySem.W PySem.Calls PyProof.Rows
namespace Mine
set_option maxRecDepth 100000

mutual
theorem DatIn.seqs {l l' : List (Addr × Obj)} (hs : ∀ p ∈ l, (∃ xs n, p.2.data = .seq xs n) → p ∈ l') : ∀ {v : Value} {d : Dat}, DatIn l v d → DatIn l' v d
  | _, _, .none => .none
  | _, _, .bool b => .bool b
  | _, _, .int i t => .int i t
  | _, _, .str x t => .str x t
  | _, _, .bytes b t => .bytes b t
  | _, _, .tuple h r => .tuple (hs _ h ⟨_, _, rfl⟩) (DatAll.seqs hs r)
  | _, _, .list h r => .list (hs _ h ⟨_, _, rfl⟩) (DatAll.seqs hs r)
theorem DatAll.seqs {l l' : List (Addr × Obj)} (hs : ∀ p ∈ l, (∃ xs n, p.2.data = .seq xs n) → p ∈ l') : ∀ {vs : List Value} {ds : List Dat}, DatAll l vs ds → DatAll l' vs ds
  | _, _, .nil => .nil
  | _, _, .cons h r => .cons (DatIn.seqs hs h) (DatAll.seqs hs r)
end

def isSeq (o : Obj) : Bool := match o.data with | .seq _ _ => true | _ => false

/-- what holds data is kept but at L, which holds none -/
theorem HD.but {h h' : Heap} {L : Addr} {m : Str → Option Value} {v : Value} {d : Dat} (x : HD h v d) (n : h.Ns L m) (k : ∀ b o, b ≠ L → h.get? b = some o → h'.get? b = some o) : HD h' v d := by
  obtain ⟨l, hl, x⟩ := x
  obtain ⟨oL, es, ep, hL, hd, _⟩ := n
  refine ⟨l.filter fun p => isSeq p.2, fun p hp => ?_, DatIn.seqs (fun p hp hq => ?_) x⟩
  · obtain ⟨h1, h2⟩ := List.mem_filter.mp hp
    refine k _ _ (fun q => ?_) (hl p h1)
    have := hl p h1
    rw [q, hL] at this
    cases this
    simp only [isSeq, hd] at h2
    cases h2
  · obtain ⟨xs, n, e⟩ := hq
    exact List.mem_filter.mpr ⟨hp, by simp only [isSeq, e]⟩

theorem ints_dat {l : List (Addr × Obj)} {vs : List Value} {ns : List Int} (h : IntsAre vs ns) : DatAll l vs (ns.map .int) := by
  induction h with
  | nil => exact .nil
  | cons _ _ _ ih => exact .cons (.int _ _) ih

theorem DatAll.take {l : List (Addr × Obj)} {vs : List Value} {ds : List Dat} (h : DatAll l vs ds) (k : Nat) : DatAll l (vs.take k) (ds.take k) := by
  induction k generalizing vs ds with
  | zero => exact .nil
  | succ k ih => cases h with
    | nil => exact .nil
    | cons a b => exact .cons a (ih b)
theorem DatAll.append {l : List (Addr × Obj)} {vs ws : List Value} {ds es : List Dat} (h : DatAll l vs ds) (h2 : DatAll l ws es) : DatAll l (vs ++ ws) (ds ++ es) := by
  induction vs generalizing ds with
  | nil => cases h; exact h2
  | cons v vs ih => cases h with
    | cons a b => exact .cons a (ih b)

structure LSt (base : Heap) (L : Addr) (h : Heap) (m : Str → Option Value) (P : Addr) (ns : List Int) : Prop where
  stay : base.StaysIn h
  nsL : h.Ns L m
  cell : h.IsCell (L + 1) (some (.ref P))
  pc : HD h (.ref P) (.list (dTexts (pcs ns)))

theorem LSt.step {base h h' : Heap} {L P : Addr} {m m' : Str → Option Value} {ns : List Int} (x : LSt base L h m P ns) (bL : base.get? L = none) (k : ∀ b o, b ≠ L → h.get? b = some o → h'.get? b = some o) (n : h'.Ns L m') : LSt base L h' m' P ns :=
  ⟨stays_of_ext bL x.stay k, n, cell_at x.cell fun o e => k _ _ (neN (Nat.succ_ne_self _)) e, x.pc.but x.nsL k⟩
theorem LSt.on {base h h' : Heap} {L P : Addr} {m : Str → Option Value} {ns : List Int} (x : LSt base L h m P ns) (k : h.StaysIn h') : LSt base L h' m P ns :=
  ⟨StaysIn.trans x.stay k, x.nsL.keeps k, cell_at x.cell fun o e => k _ _ e, x.pc.keep k⟩

section
variable {prog : Program} {w : World} {A : Around} {s : Shared} {K : Frag} {R : Result → Shared → Prop}
  {name qual : Str} {params : Arguments} {body : List Stmt} {scope : Scope} {dV kV doc pm cdv ct oc : Value} {an od : Option Addr} {osl : Array (Option Value)} {f : Addr} {args : List Value} {binds : List (Str × Value)}

/-- a def with cells, entered over any heap, as a code -/
theorem enterK (X : K.In s.heap) (hlim : s.heap.NoLimit)
    (ho : K.lookup f = some ⟨oc, od, .func (fnOf name qual params body scope dV kV doc pm an cdv ct), osl⟩) (hcd : codeIn K cdv qual = true) (hroom : A.depth < recursionLimit)
    (hbind : bindArgs (fnOf name qual params body scope dV kV doc pm an cdv ct) ⟨args, []⟩ = pure binds)
    (hkind : (binds.all fun y => scope.names.lookup y.1 == some .local || scope.names.lookup y.1 == some .cell) = true)
    (h : ∀ s', InCallC s s.heap.objs.size (bindL (envOfC qual scope s.heap.objs.size f cdv).kindOf binds fun _ => none) (cellsFrom (s.heap.objs.size + 1) scope.names []) (bindC (envOfC qual scope s.heap.objs.size f cdv).kindOf binds fun _ => none) s' →
      wpAny (model prog w) (A.deeper (envOfC qual scope s.heap.objs.size f cdv)) (execs body (envOfC qual scope s.heap.objs.size f cdv)) (fun fl s' => R (.ok (.ret (match fl with | .ret v => v | _ => .none))) s') NE s')
    (hco : scope.isCoroutine = false) (hgen : scope.isGenerator = false) (hk : scope.kind = .function) : codeAny (model prog w) A (.call (.ref f) ⟨args, []⟩) R s :=
  codeAny_call_cells (fd := fnOf name qual params body scope dV kV doc pm an cdv ct) (body := body) (binds := binds) hroom (X _ _ ho) rfl hlim (codeRec_of X hcd) rfl hbind rfl (kindsX hkind _) (fun s' hs' => wpAny_of_NE (h s' hs')) hco hgen hk
end

def tailN : List Int := [390, 0, 1, 390, 0, 391, 0]

end Mine
end

section
open PySem PySem.W PySem.Calls PyProof.Rows
namespace Mine
set_option maxRecDepth 100000

structure LawC (p : Program) (loose : List Str) (mean : ExcName → Option Value) (mg mb : Str → Option Value) (w : World) (A : Around) (base : Heap) (L : Addr) : Prop where
  X : (KF w).In base
  T : Top p loose mean mg mb base
  bL : base.get? L = none
  bc : base.get? (L + 1) = none
  fr : A.frames = some []
  hh : A.handled = none
  room : A.depth + 6 < recursionLimit
  units : A.units + 300 < cLine

section
variable {prog : Program} {w : World} {A : Around}
theorem sub_toL {E : Value → Shared → Prop} {s : Shared} {env : Env} {value : Expr} {i : Nat} {kk : Nat} {p q pos : Pos} {l : Addr} {vs : List Value} {Q : Value → Shared → Prop}
    (hval : ∀ Q' : Value → Shared → Prop, Q' (.ref l) s → wpAny (model prog w) A (eval value env) Q' E s) (hl : s.heap.IsList l vs.toArray) (hz : vs.length ≤ 900)
    (h : ∀ D h' tk, s.heap.StaysIn h' → h'.get? D = some (listOf (vs.take i).toArray 0) → s.heap.get? D = none → Q (.ref D) { s with heap := h', toks := tk })
    (ht : ∀ o r, letTemporaryGo value o r = pure ()) :
    wpAny (model prog w) A (eval (.Subscript value (.Slice none (some (.Constant (.int (i : Int)) kk q)) none p) pos) env) Q E s := by
  refine wpAny_Subscript_Slice slot_list_getitem.lookup (hval _ ?_) ht
  refine wpAny_Slice ?_
  refine evalPart_none_step ?_
  refine evalPart_some_step ?_
  refine wpAny_Constant_int ?_
  refine evalPart_none_step ?_
  have hL : (s.heap.push { cls := .type "slice", data := .fields #[.none, .int (i : Int) s.toks, .none] }).IsList l vs.toArray := hl.push _
  refine ⟨hL.typeIs, ?_⟩
  refine wpAny_getItem_list_slice (lo := none) (hi := some (i : Int)) (st := none) hL ⟨_, Heap.get?_push_size _ rfl, rfl, rfl⟩ .none (.int _ _) .none (by decide) ?_ (by rw [sizeLine_eq]; simp; omega)
  rw [slicePick_upto']
  refine h _ _ _ (fun b o e => Heap.get?_push_of_some _ (Heap.get?_push_of_some _ e)) (Heap.get?_push_size _ rfl) ?_
  refine fresh_none ?_
  rw [Heap.size_push]
  exact Nat.le_succ _

theorem add_two {E : Value → Shared → Prop} {s : Shared} {l b : Addr} {vs ws : List Value} {n n2 : Nat} {Q : Value → Shared → Prop} (hl : s.heap.get? l = some (listOf vs.toArray n)) (hb : s.heap.get? b = some (listOf ws.toArray n2)) (hz : vs.length + ws.length ≤ 900)
    (h : ∀ D h', s.heap.StaysIn h' → h'.get? D = some (listOf (vs ++ ws).toArray 0) → s.heap.get? D = none → Q (.ref D) { s with heap := h' }) : wpAny (model prog w) A (binaryOp .Add (.ref l) (.ref b)) Q E s := by
  refine P.add_list hl hb ?_ (by rw [sizeLine_eq]; simp; omega)
  refine h _ _ (fun b o e => Heap.get?_push_of_some _ e) ?_ (fresh_none (Nat.le_refl _))
  rw [show (vs ++ ws).toArray = vs.toArray ++ ws.toArray from by simp]
  exact Heap.get?_push_size _ rfl
end

section
variable {prog : Program} {w : World} {A : Around} {L : Addr} {s : Shared} {Q : Flow → Shared → Prop} {p : Program} {loose : List Str} {mean : ExcName → Option Value} {mg mb : Str → Option Value} {base : Heap} {m : Str → Option Value}
  {name qual : Str} {params : Arguments} {s0 s1 s2 s3 s4 s5 s6 s7 s8 : Stmt} {rest : List Stmt} {scope : Scope} {dV kV doc pm cdv ct oc : Value} {an od : Option Addr} {osl : Array (Option Value)} {ns : List Int}

set_option maxHeartbeats 8000000 in
theorem law_s0 {a : Addr} {vs : List Value}
    (ho : (KF w).lookup 117 = some ⟨oc, od, .func (fnOf name qual params (s0 :: rest) scope dV kV doc pm an cdv ct), osl⟩)
    (C : LawC p loose mean mg mb w A base L) (hk : base.StaysIn s.heap) (hn : s.heap.Ns L m) (hm : m (Str.ofString "script") = some (.ref a)) (cr : s.heap.IsCell (L + 1) none)
    (hL : s.heap.IsList a vs.toArray) (hI : IntsAre vs ns) (hz : ns.length ≤ 63)
    (h : ∀ P h' tk, LSt base L h' m P (ns.take 10 ++ tailN) → Q .next { s with heap := h', toks := tk }) :
    wpAny (model prog w) (A.deeper (envOfC qual scope L 117 cdv)) (exec s0 (envOfC qual scope L 117 cdv)) Q NE s := by
  have key : (KF w).lookup 117 = some ⟨_, _, .func (fnOf _ _ _ (_ :: _) _ _ _ _ _ _ _ _), _⟩ := rfl
  have e := key.symm.trans ho
  clear key ho
  cases e
  have hdat := ints_dat (l := []) hI
  have hlen : vs.length ≤ 63 := by
    have := hdat.length
    simp at this
    omega
  have T0 := topRead_of C.T
  refine wpAny_Assign_Name ?_
  refine call_top (K := KF w) (f := 62) (C.X.keeps hk) (T0.g.keeps hk) (by rfl) (by exact rfl) rfl ?_ rfl rfl rfl (by decide) (by rfl)
  refine spliced_more ?_
  refine wpAny_BinOp ?_
  refine sub_toL (i := 10) (fun Q' q => nm_local hn hm q rfl rfl (by decide)) hL (by omega) ?_ (by intro _ _; with_unfolding_all rfl)
  intro D h₁ tk₁ k₁ hD hDn
  refine wpAny_List_spliced ?_
  refine spliced_more ?_
  refine wpAny_Constant_int ?_
  refine spliced_more ?_
  refine wpAny_Constant_int ?_
  refine spliced_more ?_
  refine wpAny_Constant_int ?_
  refine spliced_more ?_
  refine wpAny_Constant_int ?_
  refine spliced_more ?_
  refine wpAny_Constant_int ?_
  refine spliced_more ?_
  refine wpAny_Constant_int ?_
  refine spliced_more ?_
  refine wpAny_Constant_int ?_
  refine spliced_none ⟨by rw [sizeLine_eq]; exact Nat.le_of_ble_eq_true rfl, ?_⟩
  refine add_two (ws := [_, _, _, _, _, _, _]) (Heap.get?_push_of_some _ hD) (Heap.get?_push_size _ rfl) (by simp; omega) ?_
  intro D2 h₂ k₂ hD2 hD2n
  have k2 : s.heap.StaysIn h₂ := fun b o e => k₂ _ _ (Heap.get?_push_of_some _ (k₁ _ _ e))
  have kb2 := StaysIn.trans hk k2
  refine spliced_none ⟨k2, ?_⟩
  refine pieces_spec (ns := ns.take 10 ++ tailN) (C.X.keeps kb2) (T0.g.keeps kb2) (T0.b.keeps kb2) T0.builtins (T0.nolimit.keeps kb2) (by exact C.hh) (by have := C.room; show A.depth + 1 < _; omega) ?_ ?_ ?_
  · refine HD.mk hD2 ⟨[], fun _ hp => (nomatch hp), ?_⟩
    rw [List.map_append, List.map_take]
    exact Mine.DatAll.append (Mine.DatAll.take hdat 10) (.cons (.int _ _) (.cons (.int _ _) (.cons (.int _ _) (.cons (.int _ _) (.cons (.int _ _) (.cons (.int _ _) (.cons (.int _ _) .nil)))))))
  · simp [tailN]
    omega
  · intro r h' tk l k' f' d'
    obtain ⟨P, ws, nw, rfl, _, _⟩ := HD.list (HD.of_fresh f' d')
    have kk : s.heap.StaysIn h' := StaysIn.trans k2 k'
    refine wpAny_storeName_cell rfl rfl rfl (cell_at cr fun o e => kk _ _ e) fun h3 c3 s3 => ?_
    refine h P h3 _ ⟨?_, ?_, c3, ?_⟩
    · exact stays_of_ext C.bc (StaysIn.trans hk kk) fun b o => s3.extBut b o
    · exact (hn.keeps kk).sameBut s3 (neN (Nat.ne_of_lt (Nat.lt_succ_self _)))
    · refine ⟨l, fun p hp => s3.extBut _ _ (fun q => ?_) (f' p hp).1, d'⟩
      obtain ⟨o, hoc, _⟩ := cr
      have h1 := (f' p hp).2
      rw [show p.1 = L + 1 from q, show Heap.get? h₂ (L + 1) = _ from k2 _ _ hoc] at h1
      cases h1
end
end Mine
end

section
open PySem PySem.W PySem.Calls PyProof.Rows
namespace Mine
set_option maxRecDepth 100000

/-- the pieces are not many, nor long -/
theorem pfold_lens (ns : List Int) : ∀ a : List (List Nat) × List Nat, ((ns.foldl pstep a).1.length ≤ a.1.length + ns.length) ∧ (((ns.foldl pstep a).1.flatten.length + (ns.foldl pstep a).2.length) = a.1.flatten.length + a.2.length + ns.length) := by
  induction ns with
  | nil => intro a; simp
  | cons x r ih =>
    intro a
    rw [List.foldl_cons]
    obtain ⟨h1, h2⟩ := ih (pstep a x)
    have e1 : (pstep a x).1.length ≤ a.1.length + 1 := by unfold pstep; split <;> simp
    have e2 : (pstep a x).1.flatten.length + (pstep a x).2.length = a.1.flatten.length + a.2.length + 1 := by
      unfold pstep; split <;> simp only [List.flatten_append, List.flatten_cons, List.flatten_nil, List.length_append, List.length_cons, List.length_nil] <;> omega
    simp only [List.length_cons]
    omega
theorem pcs_many (ns : List Int) : (pcs ns).length ≤ ns.length + 1 := by
  have := (pfold_lens ns ([], [])).1
  unfold pcs pfold
  simp at this ⊢
  omega
theorem pcs_total (ns : List Int) : (pcs ns).flatten.length = ns.length := by
  have := (pfold_lens ns ([], [])).2
  unfold pcs pfold
  simp only [List.flatten_append, List.flatten_cons, List.flatten_nil, List.length_append, List.length_cons, List.length_nil] at this ⊢
  omega
theorem len_flatten {ls : List (List Nat)} {l : List Nat} (h : l ∈ ls) : l.length ≤ ls.flatten.length := by
  induction ls with
  | nil => cases h
  | cons a r ih =>
    rcases List.mem_cons.mp h with rfl | h
    · simp only [List.flatten_cons, List.length_append]
      omega
    · have := ih h
      simp only [List.flatten_cons, List.length_append]
      omega
theorem pcs_each {ns : List Int} {l : List Nat} (h : l ∈ pcs ns) : l.length ≤ ns.length := by
  have := len_flatten h
  rw [pcs_total] at this
  exact this
theorem pcs_ne (ns : List Int) : ∃ l r, pcs ns = l :: r := by
  unfold pcs
  cases h : (pfold ns).1 with
  | nil => exact ⟨_, _, rfl⟩
  | cons a b => exact ⟨_, _, rfl⟩

section
variable {prog : Program} {w : World} {A : Around} {L : Addr} {s : Shared} {Q : Flow → Shared → Prop} {p : Program} {loose : List Str} {mean : ExcName → Option Value} {mg mb : Str → Option Value} {base : Heap} {m : Str → Option Value} {P : Addr}
  {name qual : Str} {params : Arguments} {s0 s1 s2 s3 s4 s5 s6 s7 s8 : Stmt} {rest : List Stmt} {scope : Scope} {dV kV doc pm cdv ct oc : Value} {an od : Option Addr} {osl : Array (Option Value)} {ns : List Int}

/-- the texts of the pieces, in a list -/
theorem texts_at {h : Heap} {ls : List (List Nat)} (x : HD h (.ref P) (.list (dTexts ls))) : ∃ (vs : List Value) (n : Nat), h.get? P = some (listOf (List.toArray vs) n) ∧ vs.length = ls.length ∧ (∀ (i : Nat) (v : Value), vs[i]? = some v → ∃ l t, ls[i]? = some l ∧ v = Value.str (txt l) t) := by
  obtain ⟨a, vs, n, e, hl, hv⟩ := HD.list x
  cases e
  refine ⟨vs, n, hl, by simpa [dTexts] using hv.length, fun i v hi => ?_⟩
  obtain ⟨d, hd, hv'⟩ := hv.getv hi
  simp only [dTexts, List.getElem?_map, Option.map_eq_some_iff] at hd
  obtain ⟨l, hl, rfl⟩ := hd
  obtain ⟨_, _, hx⟩ := hv'
  cases hx
  exact ⟨l, _, hl, rfl⟩

set_option maxHeartbeats 8000000 in
theorem law_s1
    (ho : (KF w).lookup 117 = some ⟨oc, od, .func (fnOf name qual params (s0 :: s1 :: rest) scope dV kV doc pm an cdv ct), osl⟩)
    (C : LawC p loose mean mg mb w A base L) (S : LSt base L s.heap m P ns) (hz : ns.length ≤ 80)
    (h : ∀ D h' tk, LSt base L h' (fun z => if z = Str.ofString "deeds" then some (.ref D) else m z) P ns → HD h' (.ref D) (.list ((pcs ns).map fun l => dDeed (deedL l))) → Q .next { s with heap := h', toks := tk }) :
    wpAny (model prog w) (A.deeper (envOfC qual scope L 117 cdv)) (exec s1 (envOfC qual scope L 117 cdv)) Q NE s := by
  have key : (KF w).lookup 117 = some ⟨_, _, .func (fnOf _ _ _ (_ :: _ :: _) _ _ _ _ _ _ _ _), _⟩ := rfl
  have e := key.symm.trans ho
  clear key ho
  cases e
  have T0 := topRead_of C.T
  obtain ⟨vs, n, hP, hvl, hvs⟩ := texts_at S.pc
  have hmany := pcs_many ns
  refine' comp_assign (cl := []) ?hsw ?hclos ?hcell ?hkind ?hnames ?hy ?hp ?_ ?hs
  case hsw => with_unfolding_all rfl
  case hclos => with_unfolding_all rfl
  case hcell => decide
  case hkind => rfl
  case hnames => decide
  case hy => rfl
  case hp => rfl
  case hs => intro _; rfl
  refine nm_cell S.cell ?_ rfl rfl rfl (by decide)
  have hL2 : s.heap.IsList P vs.toArray := ⟨_, hP, rfl, _, rfl⟩
  refine wpAny_pyIter_list hL2 ?_
  have hDI : P ≠ s.heap.objs.size := Nat.ne_of_lt (Heap.lt_size hP)
  have lt2 : ∀ b o, s.heap.get? b = some o → b ≠ s.heap.objs.size := fun b o e => Nat.ne_of_lt (Heap.lt_size e)
  refine ⟨s.heap.objs.size, [s.heap.objs.size], vs.length, _, _, fun _ => true, fun i l y => ∃ q, (pcs ns)[i]? = some q ∧ DatIn l y (dDeed (deedL q)), _, rfl,
    ⟨Src.of_walks (x := Str.ofString "piece") (Walks.list (by exact C.hh) s.heap.objs.size P hDI vs.toArray) ?_ ?_ rfl rfl, by rw [sizeLine_eq]; omega, ?_, ?_, ?_, ?_⟩, ?_, S.nsL.push _, ?_⟩
  · intro b hb
    rw [Heap.size_push]
    rcases List.mem_cons.mp hb with rfl | hb
    · exact Nat.lt_succ_self _
    · rw [List.mem_singleton.mp hb]; exact Nat.lt_succ_of_lt (Heap.lt_size hP)
  · intro j h st b hb
    rw [List.mem_singleton.mp hb]
    obtain ⟨o, ho, _⟩ := st.1
    exact ⟨o, ho⟩
  · exact ⟨⟨_, Heap.get?_push_size _ rfl, rfl, rfl⟩, hL2.push _⟩
  · rintro C' j s3 m3 hC3 hj _ hn3 hk3
    exact wpAny_pure ⟨rfl, s3.heap, _, rfl, fun _ _ e => e⟩
  · rintro C' j s3 m3 hC3 hj _ ⟨vb, hvb, hmb⟩ hn3 hk3
    obtain ⟨q, u, hq, rfl⟩ := hvs j vb (by simpa using hvb)
    have k3 : s.heap.StaysIn s3.heap := fun b o e => hk3 b o (fun q => lt2 b o e (List.mem_singleton.mp q)) (Heap.get?_push_of_some _ e)
    have kk3 : base.StaysIn s3.heap := StaysIn.trans S.stay k3
    refine call_top (K := KF w) (f := 74) (C.X.keeps kk3) (T0.g.keeps kk3) (by rfl) (by exact rfl) rfl ?_ rfl rfl rfl (by decide) (by rfl)
    refine spliced_more ?_
    refine nm_local hn3 hmb ?_ rfl rfl (by decide)
    refine spliced_none ⟨fun _ _ e => e, ?_⟩
    have hql : q.length ≤ 80 := Nat.le_trans (pcs_each (List.mem_of_getElem? hq)) hz
    refine deed_spec (C.X.keeps kk3) (T0.g.keeps kk3) (T0.nolimit.keeps kk3) (by exact C.hh) (by have := C.room; show A.depth + 1 + 1 < _; omega) (by simp [txt]; omega) ?_
    intro r h4 tk4 l4 k4 f4 d4
    have et : (txt q).cps.toList = q := tx_txt q
    rw [et] at d4
    exact ⟨h4, _, l4, rfl, k4, f4, q, hq, d4⟩
  · rintro j l' l'' y ⟨q, hq, d⟩ hs
    exact ⟨q, hq, d.mono hs⟩
  · intro hm
    obtain ⟨o, _, _, ho, _⟩ := S.nsL
    exact lt2 _ _ ho (List.mem_singleton.mp hm)
  · intro D3 h4 tk4 ys l4 k4 hD3n hD3 hF hlD hP n4 hk4
    have k4 : ∀ b o, b ≠ L → s.heap.get? b = some o → h4.get? b = some o := fun b o hb e => hk4 b o hb (fun q => lt2 b o e (List.mem_singleton.mp q)) (Heap.get?_push_of_some _ e)
    refine h D3 h4 _ (S.step C.bL k4 n4) ?_
    have hP' : Paired (fun j y => DatIn l4 y (((pcs ns).map fun l => dDeed (deedL l)).getD j .none)) ((List.range vs.length).filter fun _ => true) ys.toList := hP.mono fun j y hy => by
      obtain ⟨q, hq, d⟩ := hy
      simpa [hq] using d
    obtain ⟨f1, f2⟩ := comp_fresh (g := s.heap) (f := fun j => ((pcs ns).map fun l => dDeed (deedL l)).getD j .none) (.inl fun b o e => Heap.get?_push_of_some _ e) hD3n hD3 hF hP'
    have hd3 := HD.of_fresh f1 f2
    have e3 : ((List.range vs.length).filter fun _ => true).map (fun j => ((pcs ns).map fun l => dDeed (deedL l)).getD j .none) = (pcs ns).map fun l => dDeed (deedL l) := by
      rw [filter_true]
      apply List.ext_getElem
      · simp [hvl]
      · intro i h1 h2
        simp at h1 h2
        simp [h2]
    rw [e3] at hd3
    exact hd3
end
end Mine
end

section
open PySem PySem.W PySem.Calls PyProof.Rows
namespace Mine
set_option maxRecDepth 100000

theorem join_flat (ls : List (List Nat)) : Txt.join (Str.ofString "") (ls.map txt) = txt ls.flatten := by
  unfold Txt.join
  rw [StrLaws.glued_eq_join]
  induction ls with
  | nil => rfl
  | cons a r ih =>
    cases r with
    | nil => show txt a = txt _; simp
    | cons b r' =>
      show txt a ++ Str.ofString "" ++ Str.join (Str.ofString "") ((b :: r').map txt) = _
      rw [ih]
      rw [str_eq_iff]
      have e0 : (Str.ofString "").cps = #[] := by decide
      simp [Str.cps_append, e0, txt]

theorem strs_of {vs : List Value} {ls : List (List Nat)} (hl : vs.length = ls.length) (h : ∀ (i : Nat) (v : Value), vs[i]? = some v → ∃ l t, ls[i]? = some l ∧ v = Value.str (txt l) t) : StrsAre vs (ls.map txt) := by
  induction vs generalizing ls with
  | nil => cases ls with
    | nil => exact .nil
    | cons _ _ => simp at hl
  | cons v vs ih => cases ls with
    | nil => simp at hl
    | cons a r =>
      obtain ⟨l, t, e, rfl⟩ := h 0 v rfl
      cases e
      refine .cons _ _ (ih (by simpa using hl) fun i v hi => ?_)
      have := h (i + 1) v (by simpa using hi)
      simpa using this

theorem sum_lens (ls : List (List Nat)) : ((ls.map txt).map (·.length)).sum = ls.flatten.length := by
  induction ls with
  | nil => rfl
  | cons a r ih =>
    simp only [List.map_cons, List.sum_cons, ih, List.flatten_cons, List.length_append]
    show (txt a).cps.size + _ = _
    simp [txt]

section
variable {prog : Program} {w : World} {A : Around} {L : Addr} {s : Shared} {Q : Flow → Shared → Prop} {p : Program} {loose : List Str} {mean : ExcName → Option Value} {mg mb : Str → Option Value} {base : Heap} {m : Str → Option Value} {P : Addr}
  {name qual : Str} {params : Arguments} {s0 s1 s2 s3 s4 s5 s6 s7 s8 : Stmt} {rest : List Stmt} {scope : Scope} {dV kV doc pm cdv ct oc : Value} {an od : Option Addr} {osl : Array (Option Value)} {ns : List Int}

/-- ''.join of the pieces -/
theorem join_call {A : Around} {E : Value → Shared → Prop} {Q : Value → Shared → Prop} {t : Tok} (hp : HD s.heap (.ref P) (.list (dTexts (pcs ns)))) (hz : ns.length ≤ 80)
    (h : ∀ t' tk, Q (.str (txt (pcs ns).flatten) t') { s with toks := tk }) :
    wpAny (model prog w) A (call (.builtin "str.join") [.str (Str.ofString "") t, .ref P]) Q E s := by
  obtain ⟨vs, n, hP, hvl, hvs⟩ := texts_at hp
  have hmany := pcs_many ns
  have htot := pcs_total ns
  refine join_listW (ys := (pcs ns).map txt) ⟨_, hP, rfl, _, rfl⟩ (strs_of hvl hvs) (by decide) (by rw [sum_lens, List.length_map]; omega) ?_
  intro t' tk
  rw [join_flat]
  exact h t' tk

set_option maxHeartbeats 8000000 in
theorem law_s2
    (ho : (KF w).lookup 117 = some ⟨oc, od, .func (fnOf name qual params (s0 :: s1 :: s2 :: rest) scope dV kV doc pm an cdv ct), osl⟩)
    (C : LawC p loose mean mg mb w A base L) (S : LSt base L s.heap m P ns) (hz : ns.length ≤ 80)
    (h : ∀ vw R h' tk, (∀ b o, b ≠ L → s.heap.get? b = some o → h'.get? b = some o) → h'.Ns L (fun z => if z = Str.ofString "whole" then some vw else if z = Str.ofString "row" then some (.ref R) else m z) →
      HD h' vw (dDeed (deedL (pcs ns).flatten)) → HD h' (.ref R) (.list (.none :: dTexts (pcs ns))) → Q .next { s with heap := h', toks := tk }) :
    wpAny (model prog w) (A.deeper (envOfC qual scope L 117 cdv)) (exec s2 (envOfC qual scope L 117 cdv)) Q NE s := by
  have key : (KF w).lookup 117 = some ⟨_, _, .func (fnOf _ _ _ (_ :: _ :: _ :: _) _ _ _ _ _ _ _ _), _⟩ := rfl
  have e := key.symm.trans ho
  clear key ho
  cases e
  have T0 := topRead_of C.T
  have hmany := pcs_many ns
  have htot := pcs_total ns
  refine' Assign_Tuple_swapped (names := [Str.ofString "whole", Str.ofString "row"]) ?_ ?hs ?hw
  case hs => with_unfolding_all rfl
  case hw => with_unfolding_all rfl
  refine wpAny_Tuple_spliced ?_
  refine spliced_more ?_
  refine call_top (K := KF w) (f := 74) (C.X.keeps S.stay) (T0.g.keeps S.stay) (by rfl) (by exact rfl) rfl ?_ rfl rfl rfl (by decide) (by rfl)
  refine spliced_more ?_
  refine MethodCall_ ?_
  refine Constant_str ?_
  refine GM.join ?_
  refine callWith_method1 ?_
  refine spliced_more ?_
  refine nm_cell S.cell ?_ rfl rfl rfl (by decide)
  refine spliced_none ?_
  refine join_call S.pc hz ?_
  intro t1 tk1
  refine spliced_none ⟨fun _ _ e => e, ?_⟩
  refine deed_spec (C.X.keeps S.stay) (T0.g.keeps S.stay) (T0.nolimit.keeps S.stay) (by exact C.hh) (by have := C.room; show A.depth + 1 + 1 < _; omega) (by simp [txt] at htot ⊢; omega) ?_
  intro r h₁ tk₁ l₁ k₁ f₁ d₁
  have et : (txt (pcs ns).flatten).cps.toList = (pcs ns).flatten := tx_txt _
  rw [et] at d₁
  have S1 := S.on k₁
  obtain ⟨vs, n, hP, hvl, hvs⟩ := texts_at S1.pc
  refine spliced_more ?_
  refine wpAny_BinOp ?_
  refine wpAny_List_spliced ?_
  refine spliced_more ?_
  refine Constant_none ?_
  refine spliced_none ⟨by rw [sizeLine_eq]; exact Nat.le_of_ble_eq_true rfl, ?_⟩
  refine nm_cell (cell_at S1.cell fun o e => Heap.get?_push_of_some _ e) ?_ rfl rfl rfl (by decide)
  refine add_two (vs := [.none]) (Heap.get?_push_size _ rfl) (Heap.get?_push_of_some _ hP) (by simp; omega) ?_
  intro D2 h₂ k₂ hD2 hD2n
  have k12 : h₁.StaysIn h₂ := fun b o e => k₂ _ _ (Heap.get?_push_of_some _ e)
  have S2 := S1.on k12
  refine spliced_none ⟨by rw [sizeLine_eq]; exact Nat.le_of_ble_eq_true rfl, ?_⟩
  refine unpackItems_tuple (items := #[r, .ref D2]) (by exact C.hh) ⟨_, Heap.get?_push_size _ rfl, rfl, _, rfl⟩ ?_
  intro h₃ k₃
  have k23 : h₂.StaysIn h₃ := fun b o e => k₃ b o (Nat.ne_of_lt (by rw [Heap.size_push]; exact Nat.lt_succ_of_lt (Heap.lt_size e))) (Heap.get?_push_of_some _ e)
  have S3 := S2.on k23
  refine wpAny_bind (wpAny_holding ?_)
  refine bindName_ ?_
  refine wpAny_storeName_local rfl S3.nsL (fun h₄ n₄ s₄ => ?_) rfl
  refine wpAny_bind (wpAny_holding ?_)
  refine bindName_ ?_
  refine wpAny_storeName_local rfl n₄ (fun h₅ n₅ s₅ => ?_) rfl
  refine wpAny_pure ?_
  have k35 : ∀ b o, b ≠ L → h₃.get? b = some o → h₅.get? b = some o := fun b o hb e => s₅.extBut b o hb (s₄.extBut b o hb e)
  refine h r D2 h₅ _ (fun b o hb e => k35 b o hb (k23 _ _ (k12 _ _ (k₁ _ _ e)))) n₅ ?_ ?_
  · exact HD.but ((HD.of_fresh f₁ d₁).keep (StaysIn.trans k12 k23)) S3.nsL k35
  · refine HD.but (HD.keep (HD.mk hD2 ?_) k23) S3.nsL k35
    obtain ⟨a, vs', n', e', hl', hv'⟩ := HD.list S2.pc
    cases e'
    have : vs' = vs := by
      have h1 := k12 _ _ hP
      rw [show h₂.get? P = _ from hl'] at h1
      cases h1
      rfl
    subst this
    exact HDs.cons ⟨[], fun _ hp => (nomatch hp), .none⟩ hv'
end
end Mine
end

section
open PySem PySem.W PySem.Calls PyProof.Rows
namespace Mine
set_option maxRecDepth 100000

theorem scanS_mem {st : Int} {l : List Nat} {c : Nat} (h : c ∈ scanS st l) : c ∈ l := by
  unfold scanS at h
  split at h
  · exact scan_mem _ _ _ (Nat.le_refl _) h
  · split at h
    · cases l with
      | nil => cases h
      | cons d r =>
        simp only at h
        split at h
        · rename_i hd
          rcases List.mem_cons.mp h with rfl | h
          · rw [hd]; exact .head _
          · exact .tail _ (scan_mem _ _ _ (Nat.le_refl _) h)
        · cases h
    · cases h

theorem deed_mem {l : List Nat} {q : Int × Str} (hp : q ∈ deedL l) {c : Nat} (hc : c ∈ tx q.2) : c ∈ l := by
  obtain ⟨i, hi, e⟩ := List.getElem_of_mem hp
  have hi3 : i < 3 := by rw [(deedL_ok l).len] at hi; exact hi
  have e2 : atD (deedL l) (i : Int) = q := by
    unfold atD
    simp [hi, e]
  have hr := deed_run l [] (i : Int) (by omega) (by omega)
  rw [List.append_nil] at hr
  refine scanS_mem (st := (i : Int)) ?_
  rw [hr, e2]
  exact List.mem_append_left _ hc

theorem deed_kqd {l : List Nat} (h : ∀ c ∈ l, c < 0x110000) (n : Nat) : kqdOk (n + 2) (dDeed (deedL l)) = true := by
  unfold dDeed
  simp only [kqdOk, List.all_map, List.all_eq_true]
  intro q hq
  have e : q.2 = txt (tx q.2) := by cases q.2; simp [txt, tx]
  have : PyData.strOk q.2 = true := by
    rw [e]
    exact strOk_txt fun c hc => h c (deed_mem hq hc)
  simp [dPair, kqdOk, this]

theorem pfold_chars (ns : List Int) : ∀ a : List (List Nat) × List Nat, (∀ l ∈ a.1, ∀ c ∈ l, c < 55296) → (∀ c ∈ a.2, c < 55296) → (∀ l ∈ (ns.foldl pstep a).1, ∀ c ∈ l, c < 55296) ∧ (∀ c ∈ (ns.foldl pstep a).2, c < 55296) := by
  induction ns with
  | nil => intro a h1 h2; exact ⟨h1, h2⟩
  | cons x r ih =>
    intro a h1 h2
    rw [List.foldl_cons]
    have h3 : ∀ c ∈ a.2 ++ [sgn x], c < 55296 := fun c hc => by
      rcases List.mem_append.mp hc with hc | hc
      · exact h2 c hc
      · rw [List.mem_singleton.mp hc]; exact sgn_lt x
    refine ih _ ?_ ?_
    · unfold pstep
      split
      · intro l hl
        rcases List.mem_append.mp hl with hl | hl
        · exact h1 l hl
        · rw [List.mem_singleton.mp hl]; exact h3
      · exact h1
    · unfold pstep
      split
      · intro c hc; cases hc
      · exact h3
theorem pcs_chars {ns : List Int} {l : List Nat} (hl : l ∈ pcs ns) : ∀ c ∈ l, c < 0x110000 := by
  have h := pfold_chars ns ([], []) (fun _ h => nomatch h) (fun _ h => nomatch h)
  intro c hc
  have : c < 55296 := by
    rcases List.mem_append.mp hl with hl | hl
    · exact h.1 l hl c hc
    · rw [List.mem_singleton.mp hl] at hc; exact h.2 c hc
  omega
theorem flat_chars {ns : List Int} : ∀ c ∈ (pcs ns).flatten, c < 0x110000 := by
  intro c hc
  obtain ⟨l, hl, hc⟩ := List.mem_flatten.mp hc
  exact pcs_chars hl c hc

theorem DOk.mono {D : Deed} {k k' : Nat} (x : DOk D k) (h : k ≤ k') : DOk D k' := ⟨x.len, x.st, fun p hp => Nat.le_trans (x.tx p hp) h⟩

theorem fold_thens (l : List Nat) (r : List (List Nat)) (i : Nat) : ((r.map deedL).take i).foldl thenD (deedL l) = deedL (l ++ (r.take i).flatten) := by
  rw [← List.map_take, List.foldl_map]
  exact deedL_flatten _ _
theorem fold_whole (l : List Nat) (r : List (List Nat)) : (r.map deedL).foldl thenD (deedL l) = deedL (l :: r).flatten := by
  have := fold_thens l r r.length
  rw [List.take_of_length_le (by simp), List.take_of_length_le (Nat.le_refl _)] at this
  rw [this, List.flatten_cons]

theorem then_okay {l : List Nat} {r : List (List Nat)} (hz : (l :: r).flatten.length ≤ 900) : ∀ i d, (r.map deedL)[i]? = some d → DOk (((r.map deedL).take i).foldl thenD (deedL l)) 900 ∧ DOk d 900 := by
  intro i d hd
  rw [fold_thens]
  rw [List.flatten_cons, List.length_append] at hz
  have h1 : (r.take i).flatten.length ≤ r.flatten.length := by
    have : r.flatten = (r.take i).flatten ++ (r.drop i).flatten := by rw [← List.flatten_append, List.take_append_drop]
    rw [this, List.length_append]
    omega
  simp only [List.getElem?_map, Option.map_eq_some_iff] at hd
  obtain ⟨q, hq, rfl⟩ := hd
  have h2 := len_flatten (List.mem_of_getElem? hq)
  exact ⟨(deedL_ok _).mono (by rw [List.length_append]; omega), (deedL_ok _).mono (by omega)⟩

theorem not_47 {w : World} {g : Heap} {a : Addr} {xs : Array Value} {n : Nat} (X : (KF w).In g) (e : g.get? a = some (listOf xs n)) : a ≠ 47 := by
  intro q
  rw [q] at e
  have e47 : g.get? 47 = some _ := X 47 _ (by exact rfl)
  rw [e] at e47
  have hc : Value.type "list" = Value.type "object" := congrArg Obj.cls (Option.some.inj e47)
  exact absurd hc (by decide)
end Mine
end

section
open PySem PySem.W PySem.Calls PyProof.Rows
namespace Mine
set_option maxRecDepth 100000

section
variable {prog : Program} {w : World} {A : Around} {L : Addr} {s : Shared} {Q : Flow → Shared → Prop} {p : Program} {loose : List Str} {mean : ExcName → Option Value} {mg mb : Str → Option Value} {base : Heap} {m : Str → Option Value} {P : Addr}
  {name qual : Str} {params : Arguments} {s0 s1 s2 s3 s4 s5 s6 s7 s8 : Stmt} {rest : List Stmt} {scope : Scope} {dV kV doc pm cdv ct oc : Value} {an od : Option Addr} {osl : Array (Option Value)} {ns : List Int}

set_option maxHeartbeats 8000000 in
theorem law_s3 {D : Addr} {vw : Value}
    (ho : (KF w).lookup 117 = some ⟨oc, od, .func (fnOf name qual params (s0 :: s1 :: s2 :: s3 :: rest) scope dV kV doc pm an cdv ct), osl⟩)
    (C : LawC p loose mean mg mb w A base L) (S : LSt base L s.heap m P ns) (hz : ns.length ≤ 80)
    (md : m (Str.ofString "deeds") = some (.ref D)) (hD : HD s.heap (.ref D) (.list ((pcs ns).map fun l => dDeed (deedL l)))) (mw : m (Str.ofString "whole") = some vw) (hw : HD s.heap vw (dDeed (deedL (pcs ns).flatten)))
    (h : ∀ h' tk, s.heap.StaysIn h' → Q .next { s with heap := h', toks := tk }) :
    wpAny (model prog w) (A.deeper (envOfC qual scope L 117 cdv)) (exec s3 (envOfC qual scope L 117 cdv)) Q NE s := by
  have key : (KF w).lookup 117 = some ⟨_, _, .func (fnOf _ _ _ (_ :: _ :: _ :: _ :: _) _ _ _ _ _ _ _ _), _⟩ := rfl
  have e := key.symm.trans ho
  clear key ho
  cases e
  have T0 := topRead_of C.T
  have hmany := pcs_many ns
  have htot := pcs_total ns
  obtain ⟨p0, pr, hp⟩ := pcs_ne ns
  have hflat : (pcs ns).flatten = (p0 :: pr).flatten := by rw [hp]
  obtain ⟨_, vs, n, eD, hDl, hvs⟩ := HD.list hD
  cases eD
  rw [hp, List.map_cons] at hvs
  obtain ⟨v0, vs', rfl⟩ : ∃ v0 vs', vs = v0 :: vs' := by
    cases vs with
    | nil => have := hvs.length; simp at this
    | cons a b => exact ⟨a, b, rfl⟩
  obtain ⟨hv0, hvs'⟩ := hvs.head
  obtain ⟨a0, ws0, n0, rfl, ha0, _⟩ := HD.list hv0
  have hlen' : vs'.length = pr.length := by simpa using hvs'.length
  have hprl : pr.length ≤ 81 := by rw [hp] at hmany; simp at hmany; omega
  have hmm : (pr.map fun l => dDeed (deedL l)) = (pr.map deedL).map dDeed := by simp
  rw [hmm] at hvs'
  have hfz : (p0 :: pr).flatten.length ≤ 900 := by rw [← hflat, htot]; omega
  have hok := then_okay hfz
  refine wpAny_If ?_
  refine wpAny_isTrue_Compare1 ?_
  refine wpAny_List_spliced ?_
  refine spliced_more ?_
  -- reduce(_law_then, deeds)
  refine call_top (K := KF w) (f := 55) (C.X.keeps S.stay) (T0.g.keeps S.stay) (by rfl) (by exact rfl) rfl ?_ rfl rfl rfl (by decide) (by rfl)
  refine spliced_more ?_
  refine nm_global (K := KF w) (v := .ref 67) (C.X.keeps S.stay) (T0.g.keeps S.stay) (by rfl) ?_ rfl rfl rfl (by decide)
  refine spliced_more ?_
  refine nm_local S.nsL md ?_ rfl rfl (by decide)
  refine spliced_none ⟨fun _ _ e => e, ?_⟩
  have room := C.room
  refine reduce_spec (g := s.heap) (l := D) (d0 := deedL p0) (ds := pr.map deedL) (fun _ _ e => e) (C.X.keeps S.stay) (T0.g.keeps S.stay) (T0.b.keeps S.stay) T0.builtins (T0.nolimit.keeps S.stay) (by exact C.hh) (by show A.depth + 1 + 2 < _; omega)
    (by exact rfl) rfl (then_fn (C.X.keeps S.stay) (T0.nolimit.keeps S.stay)) hDl (by simp; omega) (.inl rfl) (.inl ⟨rfl, _, _, rfl, hv0, hvs'⟩) hok ?_
  intro r1 h1 tk1 k1 hr1
  rw [fold_whole, ← hflat] at hr1
  have S1 := S.on k1
  refine spliced_more ?_
  -- reduce(_law_then, iter(deeds[1:]), deeds[0])
  refine call_top (K := KF w) (f := 55) (C.X.keeps S1.stay) (T0.g.keeps S1.stay) (by rfl) (by exact rfl) rfl ?_ rfl rfl rfl (by decide) (by rfl)
  refine spliced_more ?_
  refine nm_global (K := KF w) (v := .ref 67) (C.X.keeps S1.stay) (T0.g.keeps S1.stay) (by rfl) ?_ rfl rfl rfl (by decide)
  refine spliced_more ?_
  refine wpAny_Call_ofName ?_
  refine nm_builtin (K := KF w) (v := .builtin "iter") (C.X.keeps S1.stay) (T0.g.keeps S1.stay) (T0.b.keeps S1.stay) T0.builtins (by rfl) (by rfl) ?_ rfl rfl (by decide) rfl rfl (by decide)
  refine PyProof.Rows.callWith_builtin1 ?_
  refine spliced_more ?_
  refine sub_from (i := 1) (fun Q' q => nm_local S1.nsL md q rfl rfl (by decide)) (k1 _ _ hDl) (by simp; omega) ?_ (by intro _ _; with_unfolding_all rfl)
  intro D2 h2 tk2 k2 hD2 hD2n
  have S2 := S1.on k2
  refine spliced_none ?_
  refine call_iter ?_
  refine wpAny_pyIter_list (s := { s with heap := h2, toks := tk2 }) ⟨_, hD2, rfl, _, rfl⟩ ?_
  refine spliced_more ?_
  refine Subscript_ ?_
  refine nm_local (S2.nsL.push _) md ?_ rfl rfl (by decide)
  refine wpAny_Constant_int ?_
  refine item_list (v := .ref a0) (Heap.get?_push_of_some _ (k2 _ _ (k1 _ _ hDl))) (by decide) (by decide) rfl ?_ (by with_unfolding_all rfl)
  refine spliced_none ⟨fun b o e => Heap.get?_push_of_some _ (k2 _ _ e), ?_⟩
  have k02 : s.heap.StaysIn h2 := StaysIn.trans k1 k2
  refine reduce_spec (g := h2) (l := D2) (d0 := deedL p0) (ds := pr.map deedL) (fun b o e => Heap.get?_push_of_some _ e) (C.X.keeps S2.stay) (T0.g.keeps S2.stay) (T0.b.keeps S2.stay) T0.builtins (T0.nolimit.keeps S2.stay) (by exact C.hh) (by show A.depth + 1 + 2 < _; omega)
    (by exact rfl) rfl (then_fn (C.X.keeps S2.stay) (T0.nolimit.keeps S2.stay)) hD2 (by simp; omega)
    (.inr ⟨h2.objs.size, rfl, ⟨_, Heap.get?_push_size _ rfl, rfl, rfl⟩, fresh_none (Nat.le_refl _), Nat.ne_of_lt (Heap.lt_size hD2)⟩)
    (.inr ⟨_, rfl, hv0.keep k02, by simpa using hvs'.keep k02, fun a ea => by
      cases ea
      exact ⟨not_47 (C.X.keeps S2.stay) (k02 _ _ ha0), _, _, k02 _ _ ha0⟩, .inr (.inr ⟨_, rfl⟩)⟩) hok ?_
  intro r2 h3 tk3 k3 hr2
  rw [fold_whole, ← hflat] at hr2
  have S3 := S2.on k3
  refine spliced_more ?_
  -- reduce(_law_then, [], deeds[0])
  refine call_top (K := KF w) (f := 55) (C.X.keeps S3.stay) (T0.g.keeps S3.stay) (by rfl) (by exact rfl) rfl ?_ rfl rfl rfl (by decide) (by rfl)
  refine spliced_more ?_
  refine nm_global (K := KF w) (v := .ref 67) (C.X.keeps S3.stay) (T0.g.keeps S3.stay) (by rfl) ?_ rfl rfl rfl (by decide)
  refine spliced_more ?_
  refine wpAny_List_spliced ?_
  refine spliced_none ⟨by rw [sizeLine_eq]; exact Nat.le_of_ble_eq_true rfl, ?_⟩
  refine spliced_more ?_
  refine Subscript_ ?_
  refine nm_local (S3.nsL.push _) md ?_ rfl rfl (by decide)
  refine wpAny_Constant_int ?_
  have k03 : s.heap.StaysIn h3 := StaysIn.trans k02 k3
  refine item_list (v := .ref a0) (Heap.get?_push_of_some _ (k03 _ _ hDl)) (by decide) (by decide) rfl ?_ (by with_unfolding_all rfl)
  refine spliced_none ⟨fun b o e => Heap.get?_push_of_some _ e, ?_⟩
  have k4 : h3.StaysIn (h3.push (listOf #[] 0)) := fun b o e => Heap.get?_push_of_some _ e
  have S4 := S3.on k4
  have k04 := StaysIn.trans k03 k4
  refine reduce_spec (g := h3.push (listOf #[] 0)) (l := h3.objs.size) (vs := []) (d0 := deedL p0) (ds := []) (fun _ _ e => e) (C.X.keeps S4.stay) (T0.g.keeps S4.stay) (T0.b.keeps S4.stay) T0.builtins (T0.nolimit.keeps S4.stay) (by exact C.hh) (by show A.depth + 1 + 2 < _; omega)
    (by exact rfl) rfl (then_fn (C.X.keeps S4.stay) (T0.nolimit.keeps S4.stay)) (Heap.get?_push_size _ rfl) (by decide) (.inl rfl)
    (.inr ⟨_, rfl, hv0.keep k04, .nil, fun a ea => by
      cases ea
      exact ⟨not_47 (C.X.keeps S4.stay) (k04 _ _ ha0), _, _, k04 _ _ ha0⟩, .inr (.inr ⟨_, rfl⟩)⟩) (fun i d hd => by simp at hd) ?_
  intro r3 h5 tk5 k5 hr3
  have S5 := S4.on k5
  have k05 := StaysIn.trans k04 k5
  refine spliced_none ⟨by rw [sizeLine_eq]; exact Nat.le_of_ble_eq_true rfl, ?_⟩
  have k6 : h5.StaysIn (h5.push (listOf #[r1, r2, r3] 0)) := fun b o e => Heap.get?_push_of_some _ e
  have S6 := S5.on k6
  have k06 := StaysIn.trans k05 k6
  -- the other side
  refine wpAny_List_spliced ?_
  refine spliced_more ?_
  refine nm_local S6.nsL mw ?_ rfl rfl (by decide)
  refine spliced_more ?_
  refine nm_local S6.nsL mw ?_ rfl rfl (by decide)
  refine spliced_more ?_
  refine Subscript_ ?_
  refine nm_local S6.nsL md ?_ rfl rfl (by decide)
  refine wpAny_Constant_int ?_
  refine item_list (v := .ref a0) (k06 _ _ hDl) (by decide) (by decide) rfl ?_ (by with_unfolding_all rfl)
  refine spliced_none ⟨by rw [sizeLine_eq]; exact Nat.le_of_ble_eq_true rfl, ?_⟩
  have k7 : (h5.push (listOf #[r1, r2, r3] 0)).StaysIn ((h5.push (listOf #[r1, r2, r3] 0)).push (listOf #[vw, vw, .ref a0] 0)) := fun b o e => Heap.get?_push_of_some _ e
  have kq : ∀ d, kqdOk 4 (dDeed (deedL d)) = true → True := fun _ _ => trivial
  have hu := C.units
  refine ne_same (n := 5) (d := .list [dDeed (deedL (pcs ns).flatten), dDeed (deedL (pcs ns).flatten), dDeed (deedL p0)]) ?_ ?_ ?_ (by decide) (by show A.units + _ + 64 < cLine; omega) ?_
  · refine HD.mk (vs := [r1, r2, r3]) (n := 0) (k7 _ _ (Heap.get?_push_size _ rfl)) ?_
    refine .cons ?_ (.cons ?_ (.cons ?_ .nil))
    · exact hr1.keep (StaysIn.trans k2 (StaysIn.trans k3 (StaysIn.trans k4 (StaysIn.trans k5 (StaysIn.trans k6 k7)))))
    · exact hr2.keep (StaysIn.trans k4 (StaysIn.trans k5 (StaysIn.trans k6 k7)))
    · exact hr3.keep (StaysIn.trans k6 k7)
  · refine HD.mk (vs := [vw, vw, .ref a0]) (n := 0) (Heap.get?_push_size _ rfl) ?_
    exact .cons (hw.keep (StaysIn.trans k06 k7)) (.cons (hw.keep (StaysIn.trans k06 k7)) (.cons (hv0.keep (StaysIn.trans k06 k7)) .nil))
  · have q1 := deed_kqd (flat_chars (ns := ns)) 2
    have q2 := deed_kqd (pcs_chars (ns := ns) (l := p0) (by rw [hp]; exact .head _)) 2
    simp [kqdOk, q1, q2]
  · refine wpAny_truthy_bool ?_
    rw [if_neg (by decide)]
    refine wpAny_execs_nil ?_
    exact h _ _ (StaysIn.trans k06 k7)
end
end Mine
end

section
open PySem PySem.W PySem.Calls PyProof.Rows
namespace Mine
set_option maxRecDepth 100000

theorem call_top0 {prog : Program} {w : World} {A : Around} {E : Value → Shared → Prop} {s : Shared} {env : Env} {x : Str} {np pos : Pos} {K : Frag} {mg : Str → Option Value} {f : Addr} {o : Obj} {fd : FuncData} {Q : Value → Shared → Prop}
    (X : K.In s.heap) (g : s.heap.Ns mainGlobals mg) (hf : nsIn K mainGlobals x = some (some (.ref f))) (ho : K.lookup f = some o) (hd : o.data = .func fd)
    (h : wpAny (model prog w) A (call (.ref f) []) Q E s)
    (hg : env.globals = mainGlobals) (hk : env.scope.kind = .function) (hx : env.kindOf x = some .globalImplicit) (hdd : (x == ("__debug__" : Str)) = false) :
    wpAny (model prog w) A (eval (.Call (.Name x np) [] [] pos) env) Q E s := by
  refine wpAny_Call_ofName (nm_global X g hf ?_ hg hk hx hdd)
  exact callWith_function (o := o) (fd := fd) (evalArgs_empty ⟨⟨X _ _ ho, hd⟩, h⟩)

/-- after a turn of the frames -/
theorem turn_keep {h g' h' : Heap} {L : Addr} {m : Str → Option Value} (T : KtsTurn [L] h g') (k : g'.StaysIn h') (n : h.Ns L m) : (∀ b o, b ≠ L → h.get? b = some o → h'.get? b = some o) ∧ h'.Ns L m := by
  refine ⟨fun b o hb e => k _ _ (T.other b o e fun q => hb (List.mem_singleton.mp q)), ?_⟩
  obtain ⟨o, es, ep, ho, hd, r⟩ := n
  obtain ⟨sl, hs⟩ := T.frame L o ho (.head _)
  exact ⟨_, es, ep, k _ _ hs, hd, r⟩

theorem dicts_of {h : Heap} {L : Addr} {m : Str → Option Value} (n : h.Ns L m) : KtsDicts [L] h := fun b hb => by
  obtain ⟨o, es, ep, ho, hd, _⟩ := n
  rw [List.mem_singleton.mp hb]
  exact ⟨o, es, ep, ho, hd⟩

theorem law_below {A : Around} {env : Env} {base h : Heap} {L : Addr} {m : Str → Option Value} (fr : A.frames = some []) (k : base.StaysIn h) (n : h.Ns L m) (bL : base.get? L = none) (hk : env.scope.kind = .function) (hf : env.frame = some L) :
    Below (A.deeper env) base [env] h :=
  ⟨Around.frames_deeper fr, k, Heap.FunFrames.cons (by rw [hk]; decide) hf n bL trivial⟩

section
variable {prog : Program} {w : World} {A : Around} {L : Addr} {s : Shared} {Q : Flow → Shared → Prop} {p : Program} {loose : List Str} {mean : ExcName → Option Value} {mg mb : Str → Option Value} {base : Heap} {m : Str → Option Value} {P : Addr}
  {name qual : Str} {params : Arguments} {s0 s1 s2 s3 s4 s5 s6 s7 s8 : Stmt} {rest : List Stmt} {scope : Scope} {dV kV doc pm cdv ct oc : Value} {an od : Option Addr} {osl : Array (Option Value)} {ns : List Int}

def nestsD (ls : List (List Nat)) : Dat := .list [nestD (.str (txt (ls.headD []))) (dTexts ls.tail), nestD .none (dTexts ls), .str (txt (ls.headD [])), .none, .str (Str.ofString "refused")]

theorem texts_scalar (ls : List (List Nat)) : ∀ d ∈ dTexts ls, Scalar d := by
  intro d hd
  obtain ⟨l, _, rfl⟩ := List.mem_map.mp hd
  trivial

set_option maxHeartbeats 8000000 in
theorem law_s4
    (ho : (KF w).lookup 117 = some ⟨oc, od, .func (fnOf name qual params (s0 :: s1 :: s2 :: s3 :: s4 :: rest) scope dV kV doc pm an cdv ct), osl⟩)
    (C : LawC p loose mean mg mb w A base L) (S : LSt base L s.heap m P ns) (hz : ns.length ≤ 80)
    (h : ∀ N h' tk, (∀ b o, b ≠ L → s.heap.get? b = some o → h'.get? b = some o) → h'.Ns L (fun z => if z = Str.ofString "nests" then some (.ref N) else m z) →
      HD h' (.ref N) (nestsD (pcs ns)) → Q .next { s with heap := h', toks := tk }) :
    wpAny (model prog w) (A.deeper (envOfC qual scope L 117 cdv)) (exec s4 (envOfC qual scope L 117 cdv)) Q NE s := by
  have key : (KF w).lookup 117 = some ⟨_, _, .func (fnOf _ _ _ (_ :: _ :: _ :: _ :: _ :: _) _ _ _ _ _ _ _ _), _⟩ := rfl
  have e := key.symm.trans ho
  clear key ho
  cases e
  have T0 := topRead_of C.T
  have hmany := pcs_many ns
  obtain ⟨p0, pr, hp⟩ := pcs_ne ns
  obtain ⟨_, vs, n, eP, hPl, hvs⟩ := HD.list S.pc
  cases eP
  have hvs0 := hvs
  rw [hp] at hvs
  obtain ⟨v0, vs', rfl⟩ : ∃ v0 vs', vs = v0 :: vs' := by
    cases vs with
    | nil => have := hvs.length; simp [dTexts] at this
    | cons a b => exact ⟨a, b, rfl⟩
  obtain ⟨hv0, hvs'⟩ := hvs.head
  have hvs'' : HDs s.heap vs' (dTexts pr) := hvs'
  have hlen' : vs'.length = pr.length := by simpa [dTexts] using hvs''.length
  have hprl : pr.length ≤ 80 := by rw [hp] at hmany; simp at hmany; omega
  have room := C.room
  have sc : ∀ (ls : List (List Nat)) (d0 : Dat) (i : Nat) (d : Dat), (dTexts ls)[i]? = some d → Scalar d := fun ls _ i d hd => texts_scalar ls d (List.mem_of_getElem? hd)
  refine wpAny_Assign_Name ?_ (by with_unfolding_all rfl)
  refine wpAny_List_spliced ?_
  refine spliced_more ?_
  -- reduce(_law_nest, iter(pieces))
  refine call_top (K := KF w) (f := 55) (C.X.keeps S.stay) (T0.g.keeps S.stay) (by rfl) (by exact rfl) rfl ?_ rfl rfl rfl (by decide) (by rfl)
  refine spliced_more ?_
  refine nm_global (K := KF w) (v := .ref 98) (C.X.keeps S.stay) (T0.g.keeps S.stay) (by rfl) ?_ rfl rfl rfl (by decide)
  refine spliced_more ?_
  refine wpAny_Call_ofName ?_
  refine nm_builtin (K := KF w) (v := .builtin "iter") (C.X.keeps S.stay) (T0.g.keeps S.stay) (T0.b.keeps S.stay) T0.builtins (by rfl) (by rfl) ?_ rfl rfl (by decide) rfl rfl (by decide)
  refine PyProof.Rows.callWith_builtin1 ?_
  refine spliced_more ?_
  refine nm_cell S.cell ?_ rfl rfl rfl (by decide)
  refine spliced_none ?_
  refine call_iter ?_
  refine wpAny_pyIter_list ⟨_, hPl, rfl, _, rfl⟩ ?_
  refine spliced_none ⟨fun b o e => Heap.get?_push_of_some _ e, ?_⟩
  refine reduce_spec (g := s.heap) (l := P) (δ := Dat) (ε := Dat) (d0 := .str (txt p0)) (ds := dTexts pr) (fun b o e => Heap.get?_push_of_some _ e) (C.X.keeps S.stay) (T0.g.keeps S.stay) (T0.b.keeps S.stay) T0.builtins (T0.nolimit.keeps S.stay) (by exact C.hh) (by show A.depth + 1 + 2 < _; omega)
    (by exact rfl) rfl (nest_fn (C.X.keeps S.stay) (T0.nolimit.keeps S.stay)) hPl (by simp; omega)
    (.inr ⟨s.heap.objs.size, rfl, ⟨_, Heap.get?_push_size _ rfl, rfl, rfl⟩, fresh_none (Nat.le_refl _), Nat.ne_of_lt (Heap.lt_size hPl)⟩)
    (.inl ⟨rfl, _, _, rfl, hv0, by simpa using hvs''⟩) (fun i d hd => sc pr .none i d hd) ?_
  intro r1 h1 tk1 k1 hr1
  have S1 := S.on k1
  refine spliced_more ?_
  -- reduce(_law_nest, pieces, None)
  refine call_top (K := KF w) (f := 55) (C.X.keeps S1.stay) (T0.g.keeps S1.stay) (by rfl) (by exact rfl) rfl ?_ rfl rfl rfl (by decide) (by rfl)
  refine spliced_more ?_
  refine nm_global (K := KF w) (v := .ref 98) (C.X.keeps S1.stay) (T0.g.keeps S1.stay) (by rfl) ?_ rfl rfl rfl (by decide)
  refine spliced_more ?_
  refine nm_cell S1.cell ?_ rfl rfl rfl (by decide)
  refine spliced_more ?_
  refine Constant_none ?_
  refine spliced_none ⟨fun _ _ e => e, ?_⟩
  refine reduce_spec (g := h1) (l := P) (δ := Dat) (ε := Dat) (d0 := .none) (ds := dTexts (pcs ns)) (fun _ _ e => e) (C.X.keeps S1.stay) (T0.g.keeps S1.stay) (T0.b.keeps S1.stay) T0.builtins (T0.nolimit.keeps S1.stay) (by exact C.hh) (by show A.depth + 1 + 2 < _; omega)
    (by exact rfl) rfl (nest_fn (C.X.keeps S1.stay) (T0.nolimit.keeps S1.stay)) (k1 _ _ hPl) (by simp; omega) (.inl rfl)
    (.inr ⟨_, rfl, ⟨[], fun _ hp => (nomatch hp), .none⟩, by simpa using hvs0.keep k1, (fun a ea => by cases ea), .inl rfl⟩) (fun i d hd => sc (pcs ns) .none i d hd) ?_
  intro r2 h2 tk2 k2 hr2
  have S2 := S1.on k2
  have k02 := StaysIn.trans k1 k2
  refine spliced_more ?_
  -- reduce(_law_nest, iter(pieces[:1]))
  refine call_top (K := KF w) (f := 55) (C.X.keeps S2.stay) (T0.g.keeps S2.stay) (by rfl) (by exact rfl) rfl ?_ rfl rfl rfl (by decide) (by rfl)
  refine spliced_more ?_
  refine nm_global (K := KF w) (v := .ref 98) (C.X.keeps S2.stay) (T0.g.keeps S2.stay) (by rfl) ?_ rfl rfl rfl (by decide)
  refine spliced_more ?_
  refine wpAny_Call_ofName ?_
  refine nm_builtin (K := KF w) (v := .builtin "iter") (C.X.keeps S2.stay) (T0.g.keeps S2.stay) (T0.b.keeps S2.stay) T0.builtins (by rfl) (by rfl) ?_ rfl rfl (by decide) rfl rfl (by decide)
  refine PyProof.Rows.callWith_builtin1 ?_
  refine spliced_more ?_
  refine sub_to (i := 1) (fun Q' q => nm_cell S2.cell q rfl rfl rfl (by decide)) (k02 _ _ hPl) (by simp; omega) ?_ (by intro _ _; with_unfolding_all rfl)
  intro D3 h3 tk3 k3 hD3 hD3n
  have S3 := S2.on k3
  have k03 := StaysIn.trans k02 k3
  refine spliced_none ?_
  refine call_iter ?_
  refine wpAny_pyIter_list (s := { s with heap := h3, toks := tk3 }) ⟨_, hD3, rfl, _, rfl⟩ ?_
  refine spliced_none ⟨fun b o e => Heap.get?_push_of_some _ (k3 _ _ e), ?_⟩
  refine reduce_spec (g := h3) (l := D3) (δ := Dat) (ε := Dat) (vs := [v0]) (d0 := .str (txt p0)) (ds := []) (fun b o e => Heap.get?_push_of_some _ e) (C.X.keeps S3.stay) (T0.g.keeps S3.stay) (T0.b.keeps S3.stay) T0.builtins (T0.nolimit.keeps S3.stay) (by exact C.hh) (by show A.depth + 1 + 2 < _; omega)
    (by exact rfl) rfl (nest_fn (C.X.keeps S3.stay) (T0.nolimit.keeps S3.stay)) hD3 (Nat.le_of_ble_eq_true rfl)
    (.inr ⟨h3.objs.size, rfl, ⟨_, Heap.get?_push_size _ rfl, rfl, rfl⟩, fresh_none (Nat.le_refl _), Nat.ne_of_lt (Heap.lt_size hD3)⟩)
    (.inl ⟨rfl, _, _, rfl, hv0.keep k03, .nil⟩) (fun i d hd => by simp at hd) ?_
  intro r3 h4 tk4 k4 hr3
  have S4 := S3.on k4
  refine spliced_more ?_
  -- reduce(_law_nest, [], None)
  refine call_top (K := KF w) (f := 55) (C.X.keeps S4.stay) (T0.g.keeps S4.stay) (by rfl) (by exact rfl) rfl ?_ rfl rfl rfl (by decide) (by rfl)
  refine spliced_more ?_
  refine nm_global (K := KF w) (v := .ref 98) (C.X.keeps S4.stay) (T0.g.keeps S4.stay) (by rfl) ?_ rfl rfl rfl (by decide)
  refine spliced_more ?_
  refine wpAny_List_spliced ?_
  refine spliced_none ⟨by rw [sizeLine_eq]; exact Nat.le_of_ble_eq_true rfl, ?_⟩
  refine spliced_more ?_
  refine Constant_none ?_
  refine spliced_none ⟨fun b o e => Heap.get?_push_of_some _ e, ?_⟩
  have k5 : h4.StaysIn (h4.push (listOf #[] 0)) := fun b o e => Heap.get?_push_of_some _ e
  have S5 := S4.on k5
  refine reduce_spec (g := h4.push (listOf #[] 0)) (l := h4.objs.size) (δ := Dat) (ε := Dat) (vs := []) (d0 := .none) (ds := []) (fun _ _ e => e) (C.X.keeps S5.stay) (T0.g.keeps S5.stay) (T0.b.keeps S5.stay) T0.builtins (T0.nolimit.keeps S5.stay) (by exact C.hh) (by show A.depth + 1 + 2 < _; omega)
    (by exact rfl) rfl (nest_fn (C.X.keeps S5.stay) (T0.nolimit.keeps S5.stay)) (Heap.get?_push_size _ rfl) (by decide) (.inl rfl)
    (.inr ⟨_, rfl, ⟨[], fun _ hp => (nomatch hp), .none⟩, .nil, (fun a ea => by cases ea), .inl rfl⟩) (fun i d hd => by simp at hd) ?_
  intro r4 h6 tk6 k6 hr4
  have S6 := S5.on k6
  refine spliced_more ?_
  -- _law_empty()
  obtain ⟨fdx, _⟩ : ∃ fd : FuncData, ∃ o, (KF w).lookup 98 = some o ∧ o.data = .func fd := ⟨_, _, rfl, rfl⟩
  refine call_top0 (K := KF w) (f := 112) (C.X.keeps S6.stay) (T0.g.keeps S6.stay) (by rfl) (by exact rfl) rfl ?_ rfl rfl rfl (by decide)
  refine empty_spec (fd := fdx) (base := base) (law_below C.fr S6.stay S6.nsL C.bL rfl rfl) (dicts_of S6.nsL) C.X C.T (by exact C.hh) (by show A.depth + 1 + 1 < _; omega) ?_
  intro u g7 h7 tk7 T7 k7
  obtain ⟨kk7, n7⟩ := turn_keep (L := L) T7 k7 S6.nsL
  refine spliced_none ⟨by rw [sizeLine_eq]; exact Nat.le_of_ble_eq_true rfl, ?_⟩
  refine wpAny_storeName_local rfl (n7.push _) (fun h8 n8 s8 => ?_) rfl
  have k8 : ∀ b o, b ≠ L → h7.get? b = some o → h8.get? b = some o := fun b o hb e => s8.extBut b o hb (Heap.get?_push_of_some _ e)
  have k68 : ∀ b o, b ≠ L → h6.get? b = some o → h8.get? b = some o := fun b o hb e => k8 b o hb (kk7 b o hb e)
  have k56 : h4.StaysIn h6 := StaysIn.trans k5 k6
  have k26 : h2.StaysIn h6 := StaysIn.trans k3 (StaysIn.trans k4 k56)
  refine h h7.objs.size h8 _ (fun b o hb e => k68 b o hb (k26 _ _ (k02 _ _ e))) n8 ?_
  have hL7 : h7.objs.size ≠ L := by
    obtain ⟨o, _, _, ho, _⟩ := n7
    exact Nat.ne_of_gt (Heap.lt_size ho)
  refine HD.mk (vs := [r1, r2, r3, r4, .str (Str.ofString "refused") u]) (n := 0) (s8.extBut _ _ hL7 (Heap.get?_push_size _ rfl)) ?_
  rw [hp] at hr2 ⊢
  refine .cons ?_ (.cons ?_ (.cons ?_ (.cons ?_ (.cons (HD.str _ _) .nil))))
  · exact HD.but (hr1.keep (StaysIn.trans k2 k26)) S6.nsL k68
  · exact HD.but (hr2.keep k26) S6.nsL k68
  · exact HD.but (hr3.keep k56) S6.nsL k68
  · exact HD.but hr4 S6.nsL k68
end
end Mine
end

section
open PySem PySem.W PySem.Calls PyProof.Rows
namespace Mine
set_option maxRecDepth 100000

theorem kqd_up : ∀ (n : Nat) (d : Dat), kqdOk n d = true → kqdOk (n + 1) d = true
  | _, .none, _ => by simp [kqdOk]
  | _, .int _, _ => by simp [kqdOk]
  | _, .str _, h => by simpa [kqdOk] using h
  | n + 1, .tuple ds, h => by
    simp only [kqdOk, List.all_eq_true] at h ⊢
    exact fun d hd => kqd_up n d (h d hd)
  | n + 1, .list ds, h => by
    simp only [kqdOk, List.all_eq_true] at h ⊢
    exact fun d hd => kqd_up n d (h d hd)
  | 0, .tuple _, h => by simp [kqdOk] at h
  | 0, .list _, h => by simp [kqdOk] at h
  | _, .bool _, h => by simp [kqdOk] at h
  | _, .bytes _, h => by simp [kqdOk] at h
theorem kqd_mono {n n' : Nat} {d : Dat} (h : kqdOk n d = true) (hn : n ≤ n') : kqdOk n' d = true := by
  induction hn with
  | refl => exact h
  | step _ ih => exact kqd_up _ _ ih

theorem nest_kqd (ds : List Dat) : ∀ (k : Nat) (d0 : Dat), kqdOk k d0 = true → (∀ d ∈ ds, kqdOk 0 d = true) → kqdOk (k + ds.length) (nestD d0 ds) = true := by
  induction ds with
  | nil => intro k d0 h _; exact h
  | cons d r ih =>
    intro k d0 h hs
    show kqdOk (k + (r.length + 1)) (nestD (.list [d0, d]) r) = true
    rw [show k + (r.length + 1) = (k + 1) + r.length from by omega]
    refine ih (k + 1) _ ?_ fun d hd => hs d (.tail _ hd)
    have := kqd_mono (hs d (.head _)) (Nat.zero_le k)
    simp [kqdOk, h, this]

theorem texts_kqd {ls : List (List Nat)} (h : ∀ l ∈ ls, ∀ c ∈ l, c < 0x110000) : ∀ d ∈ dTexts ls, kqdOk 0 d = true := by
  intro d hd
  obtain ⟨l, hl, rfl⟩ := List.mem_map.mp hd
  exact strOk_txt (h l hl)

theorem nests_kqd {ns : List Int} (hz : ns.length ≤ 17) : kqdOk 40 (nestsD (pcs ns)) = true := by
  obtain ⟨p0, pr, hp⟩ := pcs_ne ns
  have hmany := pcs_many ns
  have hc : ∀ l ∈ pcs ns, ∀ c ∈ l, c < 0x110000 := fun l hl => pcs_chars hl
  rw [hp] at hc hmany
  have hr : pr.length ≤ 17 := by simp at hmany; omega
  have a0 : kqdOk 0 (.str (txt p0)) = true := strOk_txt (hc p0 (.head _))
  have a1 := nest_kqd (dTexts pr) 0 (.str (txt p0)) a0 (texts_kqd fun l hl => hc l (.tail _ hl))
  have a2 := nest_kqd (dTexts (p0 :: pr)) 0 .none (by simp [kqdOk]) (texts_kqd hc)
  have b1 := kqd_mono (n' := 39) a1 (by simp [dTexts]; omega)
  have b2 := kqd_mono (n' := 39) a2 (by simp [dTexts]; omega)
  have b3 := kqd_mono (n' := 39) a0 (by omega)
  have b5 : PyData.strOk (Str.ofString "refused") = true := by decide +kernel
  rw [hp]
  unfold nestsD
  simp only [List.headD_cons, List.tail_cons]
  simp [kqdOk, b1, b2, b5]
  simpa [kqdOk] using b3

section
variable {prog : Program} {w : World} {A : Around} {L : Addr} {s : Shared} {Q : Flow → Shared → Prop} {p : Program} {loose : List Str} {mean : ExcName → Option Value} {mg mb : Str → Option Value} {base : Heap} {m : Str → Option Value} {P : Addr}
  {name qual : Str} {params : Arguments} {s0 s1 s2 s3 s4 s5 s6 s7 s8 : Stmt} {rest : List Stmt} {scope : Scope} {dV kV doc pm cdv ct oc : Value} {an od : Option Addr} {osl : Array (Option Value)} {ns : List Int}

set_option maxHeartbeats 8000000 in
theorem law_s5 {N R : Addr}
    (ho : (KF w).lookup 117 = some ⟨oc, od, .func (fnOf name qual params (s0 :: s1 :: s2 :: s3 :: s4 :: s5 :: rest) scope dV kV doc pm an cdv ct), osl⟩)
    (C : LawC p loose mean mg mb w A base L) (S : LSt base L s.heap m P ns) (hz : ns.length ≤ 17)
    (mn : m (Str.ofString "nests") = some (.ref N)) (hN : HD s.heap (.ref N) (nestsD (pcs ns))) (mr : m (Str.ofString "row") = some (.ref R)) (hR : HD s.heap (.ref R) (.list (.none :: dTexts (pcs ns))))
    (h : ∀ h' tk, s.heap.StaysIn h' → Q .next { s with heap := h', toks := tk }) :
    wpAny (model prog w) (A.deeper (envOfC qual scope L 117 cdv)) (exec s5 (envOfC qual scope L 117 cdv)) Q NE s := by
  have key : (KF w).lookup 117 = some ⟨_, _, .func (fnOf _ _ _ (_ :: _ :: _ :: _ :: _ :: _ :: _) _ _ _ _ _ _ _ _), _⟩ := rfl
  have e := key.symm.trans ho
  clear key ho
  cases e
  have T0 := topRead_of C.T
  have hmany := pcs_many ns
  obtain ⟨p0, pr, hp⟩ := pcs_ne ns
  obtain ⟨_, vs, n, eP, hPl, hvs⟩ := HD.list S.pc
  cases eP
  rw [hp] at hvs
  obtain ⟨v0, vs', rfl⟩ : ∃ v0 vs', vs = v0 :: vs' := by
    cases vs with
    | nil => have := hvs.length; simp [dTexts] at this
    | cons a b => exact ⟨a, b, rfl⟩
  obtain ⟨hv0, hvs'⟩ := hvs.head
  have hprl : pr.length ≤ 17 := by rw [hp] at hmany; simp at hmany; omega
  have room := C.room
  refine wpAny_If ?_
  refine wpAny_isTrue_Compare1 ?_
  refine nm_local S.nsL mn ?_ rfl rfl (by decide)
  refine wpAny_List_spliced ?_
  refine spliced_more ?_
  refine call_top (K := KF w) (f := 105) (C.X.keeps S.stay) (T0.g.keeps S.stay) (by rfl) (by exact rfl) rfl ?_ rfl rfl rfl (by decide) (by rfl)
  refine spliced_more ?_
  refine nm_cell S.cell ?_ rfl rfl rfl (by decide)
  refine spliced_none ⟨fun _ _ e => e, ?_⟩
  have hpc := S.pc
  rw [hp] at hpc
  refine nested_spec (d0 := .str (txt p0)) (ds := dTexts pr) (C.X.keeps S.stay) (T0.nolimit.keeps S.stay) (by exact C.hh) (by show A.depth + 1 < _; omega) hpc (by simp [dTexts]; omega) (texts_scalar pr) ?_
  intro r1 h1 tk1 k1 hr1
  have S1 := S.on k1
  refine spliced_more ?_
  refine call_top (K := KF w) (f := 105) (C.X.keeps S1.stay) (T0.g.keeps S1.stay) (by rfl) (by exact rfl) rfl ?_ rfl rfl rfl (by decide) (by rfl)
  refine spliced_more ?_
  refine nm_local S1.nsL mr ?_ rfl rfl (by decide)
  refine spliced_none ⟨fun _ _ e => e, ?_⟩
  refine nested_spec (d0 := .none) (ds := dTexts (pcs ns)) (C.X.keeps S1.stay) (T0.nolimit.keeps S1.stay) (by exact C.hh) (by show A.depth + 1 < _; omega) (hR.keep k1) (by simp [dTexts]; omega) (texts_scalar (pcs ns)) ?_
  intro r2 h2 tk2 k2 hr2
  have S2 := S1.on k2
  have k02 := StaysIn.trans k1 k2
  refine spliced_more ?_
  refine Subscript_ ?_
  refine nm_cell S2.cell ?_ rfl rfl rfl (by decide)
  refine wpAny_Constant_int ?_
  refine item_list (v := v0) (k02 _ _ hPl) (by decide) (by decide) rfl ?_ (by with_unfolding_all rfl)
  refine spliced_more ?_
  refine Constant_none ?_
  refine spliced_more ?_
  refine Constant_str ?_
  refine spliced_none ⟨by rw [sizeLine_eq]; exact Nat.le_of_ble_eq_true rfl, ?_⟩
  have k3 : ∀ o, h2.StaysIn (h2.push o) := fun o b ob e => Heap.get?_push_of_some _ e
  have hu := C.units
  refine ne_same (n := 40) (d := nestsD (pcs ns)) (hN.keep (StaysIn.trans k02 (k3 _))) ?_ (nests_kqd hz) (by decide) (by show A.units + _ + 64 < cLine; omega) ?_
  · refine HD.mk (vs := [r1, r2, v0, .none, .str (Str.ofString "refused") _]) (n := 0) (Heap.get?_push_size _ rfl) ?_
    rw [hp] at hr2 ⊢
    exact .cons (hr1.keep (StaysIn.trans k2 (k3 _))) (.cons (hr2.keep (k3 _)) (.cons (hv0.keep (StaysIn.trans k02 (k3 _))) (.cons ⟨[], fun _ hp => (nomatch hp), .none⟩ (.cons (HD.str _ _) .nil))))
  · refine wpAny_truthy_bool ?_
    rw [if_neg (by decide)]
    refine wpAny_execs_nil ?_
    exact h _ _ (StaysIn.trans k02 (k3 _))
end
end Mine
end

section
open PySem PySem.W PySem.Calls PyProof.Rows
namespace Mine
set_option maxRecDepth 100000

theorem filter_none {α : Type} (l : List α) : l.filter (fun _ => false) = [] := by simp
theorem paired_nil {α β : Type} {F : α → β → Prop} {ys : List β} (h : Paired F [] ys) : ys = [] := by cases h; rfl

section
variable {prog : Program} {w : World} {A : Around} {L : Addr} {s : Shared} {Q : Flow → Shared → Prop} {p : Program} {loose : List Str} {mean : ExcName → Option Value} {mg mb : Str → Option Value} {base : Heap} {m : Str → Option Value} {P : Addr}
  {name qual : Str} {params : Arguments} {s0 s1 s2 s3 s4 s5 s6 s7 s8 : Stmt} {rest : List Stmt} {scope : Scope} {dV kV doc pm cdv ct oc : Value} {an od : Option Addr} {osl : Array (Option Value)} {ns : List Int}

set_option maxHeartbeats 8000000 in
theorem law_s6 {D : Addr}
    (ho : (KF w).lookup 117 = some ⟨oc, od, .func (fnOf name qual params (s0 :: s1 :: s2 :: s3 :: s4 :: s5 :: s6 :: rest) scope dV kV doc pm an cdv ct), osl⟩)
    (C : LawC p loose mean mg mb w A base L) (S : LSt base L s.heap m P ns) (hz : ns.length ≤ 17)
    (md : m (Str.ofString "deeds") = some (.ref D)) (hD : HD s.heap (.ref D) (.list ((pcs ns).map fun l => dDeed (deedL l))))
    (h : ∀ h' tk, s.heap.StaysIn h' → Q .next { s with heap := h', toks := tk }) :
    wpAny (model prog w) (A.deeper (envOfC qual scope L 117 cdv)) (exec s6 (envOfC qual scope L 117 cdv)) Q NE s := by
  have key : (KF w).lookup 117 = some ⟨_, _, .func (fnOf _ _ _ (_ :: _ :: _ :: _ :: _ :: _ :: _ :: _) _ _ _ _ _ _ _ _), _⟩ := rfl
  have e := key.symm.trans ho
  clear key ho
  cases e
  have T0 := topRead_of C.T
  have hmany := pcs_many ns
  obtain ⟨vs, n, hPl, hvl, hvs⟩ := texts_at S.pc
  obtain ⟨_, us, n2, eD, hDl, hus⟩ := HD.list hD
  cases eD
  have hul : us.length = (pcs ns).length := by simpa using hus.length
  have room := C.room
  refine wpAny_If ?_
  refine wpAny_isTrue_Compare1 ?_
  refine' comp_expr (cl := []) ?hclos ?hcell ?hkind ?hnames ?_ ?hs
  case hclos => with_unfolding_all rfl
  case hcell => decide
  case hkind => rfl
  case hnames => decide
  case hs => intro _; rfl
  refine wpAny_Call_ofName ?_
  refine nm_builtin (K := KF w) (v := .type "zip") (C.X.keeps S.stay) (T0.g.keeps S.stay) (T0.b.keeps S.stay) T0.builtins (by rfl) (by rfl) ?_ rfl rfl (by decide) rfl rfl (by decide)
  refine PyProof.Rows.callWith_type1 ?_ (by rfl) (by rfl)
  refine spliced_more ?_
  refine nm_cell S.cell ?_ rfl rfl rfl (by decide)
  refine spliced_more ?_
  refine nm_local S.nsL md ?_ rfl rfl (by decide)
  refine spliced_none ?_
  have hL1 : s.heap.IsList P vs.toArray := ⟨_, hPl, rfl, _, rfl⟩
  have hL2 : s.heap.IsList D us.toArray := ⟨_, hDl, rfl, _, rfl⟩
  refine call_zip_2 hL1 hL2 fun h₃ z1 z2 z3 z4 z5 z6 k₃ => ?_
  refine wpAny_pyIter_zip z1 ?_
  have Plt : @LT.lt Nat _ P s.heap.objs.size := Heap.lt_size hPl
  have Dlt : @LT.lt Nat _ D s.heap.objs.size := Heap.lt_size hDl
  have ap : ZipApart (s.heap.objs.size + 4) (s.heap.objs.size + 2) (s.heap.objs.size + 3) s.heap.objs.size (s.heap.objs.size + 1) P D := by
    constructor <;> (refine neN ?_; omega)
  have wnew : ∀ b o, s.heap.get? b = some o → b ∉ [s.heap.objs.size + 4, s.heap.objs.size + 3, s.heap.objs.size, s.heap.objs.size + 1] := fun b o e hm => by
    have hb : @LT.lt Nat _ b s.heap.objs.size := Heap.lt_size e
    simp only [List.mem_cons, List.not_mem_nil, or_false] at hm
    rcases hm with q | q | q | q <;> (have q' : @Eq Nat b _ := q; omega)
  refine ⟨s.heap.objs.size + 4, [s.heap.objs.size + 4, s.heap.objs.size + 3, s.heap.objs.size, s.heap.objs.size + 1], min vs.toArray.size us.toArray.size, _, _, fun _ => false, fun _ _ _ => True, rfl,
    ⟨Src.pairsT (x := Str.ofString "piece") (y := Str.ofString "deed") (f1 := fun i => vs.getD i .none) (f2 := fun i => us.getD i .none) (by exact C.hh) (WalksT.zip2 (by exact C.hh) _ _ _ _ _ _ _ ap vs.toArray us.toArray) ?_ ?_ ?_ rfl rfl (by decide) rfl, by rw [sizeLine_eq]; simp; omega, ?_, ?_, ?_, ?_⟩, ?_⟩
  · rintro i vals hi ⟨x, y, hx, hy, rfl⟩
    simp at hx hy
    simp [hx, hy]
  · intro b hb
    show @LT.lt Nat _ b h₃.objs.size
    rw [z6]
    simp only [List.mem_cons, List.not_mem_nil, or_false] at hb
    rcases hb with rfl | rfl | rfl | rfl | rfl | rfl | rfl <;> omega
  · rintro i h ⟨a1, a2, ⟨_, _, a3⟩, a4, a5, _, _⟩ b hb
    simp only [List.mem_cons, List.not_mem_nil, or_false] at hb
    rcases hb with rfl | rfl | rfl | rfl
    · exact ⟨_, a1⟩
    · exact ⟨_, a3⟩
    · obtain ⟨o, ho, _⟩ := a4
      exact ⟨o, ho⟩
    · obtain ⟨o, ho, _⟩ := a5
      exact ⟨o, ho⟩
  · exact ⟨z1, z2, ⟨_, _, z3⟩, z4, z5, hL1.at fun o e => k₃ _ _ e, hL2.at fun o e => k₃ _ _ e⟩
  · rintro C' i s3 m3 hC3 hi ⟨hm1, hm2⟩ hn3 hk3
    have hi' : i < (pcs ns).length := by simp at hi; omega
    have hiv : vs[i]? = some (vs[i]'(by omega)) := List.getElem?_eq_getElem _
    have hiu : us[i]? = some (us[i]'(by omega)) := List.getElem?_eq_getElem _
    obtain ⟨q, u, hq, ev⟩ := hvs i _ hiv
    obtain ⟨d, hd, hdu⟩ := hus.getv hiu
    simp only [List.getElem?_map, Option.map_eq_some_iff] at hd
    obtain ⟨q', hq', rfl⟩ := hd
    rw [hq] at hq'
    cases hq'
    have k3 : s.heap.StaysIn s3.heap := fun b o e => hk3 b o (wnew b o e) (k₃ _ _ e)
    have kk3 : base.StaysIn s3.heap := StaysIn.trans S.stay k3
    have hql : q.length ≤ 17 := Nat.le_trans (pcs_each (List.mem_of_getElem? hq)) hz
    refine wpAny_tests_one ?_
    refine wpAny_isTrue_Not ?_
    refine wpAny_isTrue_value ?_ (by rfl)
    refine call_top (K := KF w) (f := 79) (C.X.keeps kk3) (T0.g.keeps kk3) (by rfl) (by exact rfl) rfl ?_ rfl rfl rfl (by decide) (by rfl)
    refine spliced_more ?_
    refine nm_local hn3 (v := .str (txt q) u) (by rw [hm1, ← ev]; simp [hiv]) ?_ rfl rfl (by decide)
    refine spliced_more ?_
    refine nm_local hn3 (v := us[i]'(by omega)) (by rw [hm2]; simp [hiu]) ?_ rfl rfl (by decide)
    refine spliced_none ⟨fun _ _ e => e, ?_⟩
    have hu := C.units
    have et : (txt q).cps.toList = q := tx_txt q
    refine heard_spec (C.X.keeps kk3) (T0.g.keeps kk3) (T0.b.keeps kk3) T0.builtins (T0.nolimit.keeps kk3) (by exact C.hh) (by show A.depth + 1 + 2 < _; omega) (by show A.units + _ + 100 < cLine; omega) (by simp [txt]; omega) (by rw [et]; exact pcs_chars (List.mem_of_getElem? hq)) (by rw [et]; exact hdu.keep k3) ?_
    intro h4 tk4 k4
    refine wpAny_truthy_bool ?_
    exact ⟨rfl, h4, _, rfl, k4⟩
  · rintro C' i s3 m3 hC3 hi hf
    cases hf
  · intro _ _ _ _ _ _; trivial
  · intro D3 h4 tk4 ys l4 k4 hD3n hD3 hF hlD hP hk4
    rw [filter_none] at hP
    have hys : ys = #[] := by
      have := paired_nil hP
      simpa using this
    subst hys
    have k04 : s.heap.StaysIn h4 := fun b o e => hk4 b o (wnew b o e) (k₃ _ _ e)
    refine wpAny_List_spliced ?_
    refine spliced_none ⟨by rw [sizeLine_eq]; exact Nat.le_of_ble_eq_true rfl, ?_⟩
    have k5 : ∀ o, h4.StaysIn (h4.push o) := fun o b ob e => Heap.get?_push_of_some _ e
    have hu := C.units
    refine ne_same (n := 1) (d := .list []) (HD.mk (vs := []) (n := k4) (k5 _ _ _ hD3) .nil) (HD.mk (vs := []) (n := 0) (Heap.get?_push_size _ rfl) .nil) (by decide) (by decide) (by show A.units + _ + 64 < cLine; omega) ?_
    refine wpAny_truthy_bool ?_
    rw [if_neg (by decide)]
    refine wpAny_execs_nil ?_
    exact h _ _ (StaysIn.trans k04 (k5 _))
end
end Mine
end

section
open PySem PySem.W PySem.Calls PyProof.Rows
namespace Mine
set_option maxRecDepth 100000

section
variable {prog : Program} {w : World} {A : Around}
/-- five texts -/
theorem disp_texts5 {env : Env} {s : Shared} {Q E : Value → Shared → Prop} {x1 x2 x3 x4 x5 : Str} {k1 k2 k3 k4 k5 : Nat} {p1 p2 p3 p4 p5 pos : Pos}
    (he : starEach [.Constant (.str x1) k1 p1, .Constant (.str x2) k2 p2, .Constant (.str x3) k3 p3, .Constant (.str x4) k4 p4, .Constant (.str x5) k5 p5] env =
      [(false, eval (.Constant (.str x1) k1 p1) env), (false, eval (.Constant (.str x2) k2 p2) env), (false, eval (.Constant (.str x3) k3 p3) env), (false, eval (.Constant (.str x4) k4 p4) env), (false, eval (.Constant (.str x5) k5 p5) env)])
    (hQ : ∀ D h' tk u1 u2 u3 u4 u5, s.heap.StaysIn h' → h'.get? D = some (listOf [.str x1 u1, .str x2 u2, .str x3 u3, .str x4 u4, .str x5 u5].toArray 0) → s.heap.get? D = none → Q (.ref D) { s with heap := h', toks := tk }) :
    wpAny (model prog w) A (eval (.List [.Constant (.str x1) k1 p1, .Constant (.str x2) k2 p2, .Constant (.str x3) k3 p3, .Constant (.str x4) k4 p4, .Constant (.str x5) k5 p5] pos) env) Q E s := by
  refine wpAny_List_spliced ?_
  rw [he]
  refine spliced_cons ?_
  show wpAny _ _ (eval (.Constant (.str x1) k1 p1) env) _ _ _
  refine Constant_str ?_
  refine spliced_cons ?_
  show wpAny _ _ (eval (.Constant (.str x2) k2 p2) env) _ _ _
  refine Constant_str ?_
  refine spliced_cons ?_
  show wpAny _ _ (eval (.Constant (.str x3) k3 p3) env) _ _ _
  refine Constant_str ?_
  refine spliced_cons ?_
  show wpAny _ _ (eval (.Constant (.str x4) k4 p4) env) _ _ _
  refine Constant_str ?_
  refine spliced_cons ?_
  show wpAny _ _ (eval (.Constant (.str x5) k5 p5) env) _ _ _
  refine Constant_str ?_
  refine spliced_nil ⟨by rw [sizeLine_eq]; exact Nat.le_of_ble_eq_true rfl, ?_⟩
  exact hQ _ _ _ _ _ _ _ _ (fun b o e => Heap.get?_push_of_some _ e) (Heap.get?_push_size _ rfl) (fresh_none (Nat.le_refl _))
end

def opens : List (List Nat) := [[50, 53, 55, 32], [50, 53, 55, 34], [50, 53], [50, 50, 53, 55, 32, 34], []]
def alone : List (List Nat) := [[50, 53, 55, 32, 34], [50, 53, 55, 32], [50, 53, 55], [50, 53], []]
def repliesL (l : List Nat) : List (List Nat) := opens.map (· ++ l) ++ alone

theorem opens_dat {u1 u2 u3 u4 u5 : Tok} {l : List (Addr × Obj)} : DatAll l [.str (Str.ofString "257 ") u1, .str (Str.ofString "257\"") u2, .str (Str.ofString "25") u3, .str (Str.ofString "2257 \"") u4, .str (Str.ofString "") u5] (dTexts opens) := by
  have e1 : Str.ofString "257 " = txt [50, 53, 55, 32] := by decide
  have e2 : Str.ofString "257\"" = txt [50, 53, 55, 34] := by decide
  have e3 : Str.ofString "25" = txt [50, 53] := by decide
  have e4 : Str.ofString "2257 \"" = txt [50, 50, 53, 55, 32, 34] := by decide
  have e5 : Str.ofString "" = txt [] := by decide
  rw [e1, e2, e3, e4, e5]
  exact .cons (.str _ _) (.cons (.str _ _) (.cons (.str _ _) (.cons (.str _ _) (.cons (.str _ _) .nil))))
theorem alone_dat {u1 u2 u3 u4 u5 : Tok} {l : List (Addr × Obj)} : DatAll l [.str (Str.ofString "257 \"") u1, .str (Str.ofString "257 ") u2, .str (Str.ofString "257") u3, .str (Str.ofString "25") u4, .str (Str.ofString "") u5] (dTexts alone) := by
  have e1 : Str.ofString "257 \"" = txt [50, 53, 55, 32, 34] := by decide
  have e2 : Str.ofString "257 " = txt [50, 53, 55, 32] := by decide
  have e3 : Str.ofString "257" = txt [50, 53, 55] := by decide
  have e4 : Str.ofString "25" = txt [50, 53] := by decide
  have e5 : Str.ofString "" = txt [] := by decide
  rw [e1, e2, e3, e4, e5]
  exact .cons (.str _ _) (.cons (.str _ _) (.cons (.str _ _) (.cons (.str _ _) (.cons (.str _ _) .nil))))

theorem opens_len {l : List Nat} (h : l ∈ opens) : l.length ≤ 6 := by
  have : ∀ l ∈ opens, l.length ≤ 6 := by decide
  exact this l h

section
variable {prog : Program} {w : World} {A : Around} {L : Addr} {s : Shared} {Q : Flow → Shared → Prop} {p : Program} {loose : List Str} {mean : ExcName → Option Value} {mg mb : Str → Option Value} {base : Heap} {m : Str → Option Value} {P : Addr}
  {name qual : Str} {params : Arguments} {s0 s1 s2 s3 s4 s5 s6 s7 s8 : Stmt} {rest : List Stmt} {scope : Scope} {dV kV doc pm cdv ct oc : Value} {an od : Option Addr} {osl : Array (Option Value)} {ns : List Int}

set_option maxHeartbeats 8000000 in
theorem law_s7
    (ho : (KF w).lookup 117 = some ⟨oc, od, .func (fnOf name qual params (s0 :: s1 :: s2 :: s3 :: s4 :: s5 :: s6 :: s7 :: rest) scope dV kV doc pm an cdv ct), osl⟩)
    (C : LawC p loose mean mg mb w A base L) (S : LSt base L s.heap m P ns) (hz : ns.length ≤ 17)
    (h : ∀ R h' tk, LSt base L h' (fun z => if z = Str.ofString "replies" then some (.ref R) else m z) P ns → HD h' (.ref R) (.list (dTexts (repliesL (pcs ns).flatten))) → Q .next { s with heap := h', toks := tk }) :
    wpAny (model prog w) (A.deeper (envOfC qual scope L 117 cdv)) (exec s7 (envOfC qual scope L 117 cdv)) Q NE s := by
  have key : (KF w).lookup 117 = some ⟨_, _, .func (fnOf _ _ _ (_ :: _ :: _ :: _ :: _ :: _ :: _ :: _ :: _) _ _ _ _ _ _ _ _), _⟩ := rfl
  have e := key.symm.trans ho
  clear key ho
  cases e
  have T0 := topRead_of C.T
  have htot := pcs_total ns
  refine wpAny_Assign_Name ?_ (by with_unfolding_all rfl)
  refine wpAny_BinOp ?_
  refine' comp_expr (cl := [(Str.ofString "pieces", L + 1)]) ?hclos ?hcell ?hkind ?hnames ?_ ?hs
  case hclos => with_unfolding_all rfl
  case hcell => decide
  case hkind => rfl
  case hnames => decide
  case hs => intro _; rfl
  refine disp_texts5 rfl ?_
  intro D h₂ tk₂ u1 u2 u3 u4 u5 k₂ hD hDn
  have hDH : HD h₂ (.ref D) (.list (dTexts opens)) := HD.mk hD ⟨[], fun _ hp => (nomatch hp), opens_dat⟩
  obtain ⟨vs, n, hDl, hvl, hvs⟩ := texts_at hDH
  have S2 := S.on k₂
  have hL2 : h₂.IsList D vs.toArray := ⟨_, hDl, rfl, _, rfl⟩
  have hvl5 : vs.length = 5 := by rw [hvl]; rfl
  refine wpAny_pyIter_list hL2 ?_
  have hDI : D ≠ h₂.objs.size := Nat.ne_of_lt (Heap.lt_size hD)
  have lt2 : ∀ b o, h₂.get? b = some o → b ≠ h₂.objs.size := fun b o e => Nat.ne_of_lt (Heap.lt_size e)
  refine ⟨h₂.objs.size, [h₂.objs.size], vs.length, _, _, fun _ => true, fun i _ y => ∃ q u, opens[i]? = some q ∧ y = .str (txt (q ++ (pcs ns).flatten)) u, rfl,
    ⟨Src.of_walks (x := Str.ofString "opening") (Walks.list (by exact C.hh) h₂.objs.size D hDI vs.toArray) ?_ ?_ rfl rfl, by rw [sizeLine_eq]; omega, ?_, ?_, ?_, ?_⟩, ?_⟩
  · intro b hb
    rw [Heap.size_push]
    rcases List.mem_cons.mp hb with rfl | hb
    · exact Nat.lt_succ_self _
    · rw [List.mem_singleton.mp hb]; exact Nat.lt_succ_of_lt (Heap.lt_size hD)
  · intro j h st b hb
    rw [List.mem_singleton.mp hb]
    obtain ⟨o, ho, _⟩ := st.1
    exact ⟨o, ho⟩
  · exact ⟨⟨_, Heap.get?_push_size _ rfl, rfl, rfl⟩, hL2.push _⟩
  · rintro C' j s3 m3 hC3 hj _ hn3 hk3
    exact wpAny_tests_nil ⟨rfl, s3.heap, s3.toks, rfl, fun _ _ e => e⟩
  · rintro C' j s3 m3 hC3 hj _ ⟨vb, hvb, hmb⟩ hn3 hk3
    obtain ⟨q, u, hq, rfl⟩ := hvs j vb (by simpa using hvb)
    have k3 : h₂.StaysIn s3.heap := fun b o e => hk3 b o (fun q => lt2 b o e (List.mem_singleton.mp q)) (Heap.get?_push_of_some _ e)
    have S3 := S2.on k3
    refine wpAny_BinOp ?_
    refine nm_local hn3 hmb ?_ rfl rfl (by decide)
    refine MethodCall_ ?_
    refine Constant_str ?_
    refine GM.join ?_
    refine callWith_method1 ?_
    refine spliced_more ?_
    refine nm_cell S3.cell ?_ rfl rfl rfl (by decide)
    refine spliced_none ?_
    refine join_call S3.pc (by omega) ?_
    intro t4 tk4
    have hql := opens_len (List.mem_of_getElem? hq)
    refine PyProof.Rows.add_str (fun t5 tk5 => ?_) (by rw [sizeLine_eq, tx_len, tx_len, tx_txt, tx_txt]; omega)
    refine ⟨s3.heap, _, [], rfl, fun _ _ e => e, fun _ hp => (nomatch hp), q, t5, hq, ?_⟩
    have : txt q ++ txt (pcs ns).flatten = txt (q ++ (pcs ns).flatten) := by
      rw [str_eq_iff]
      simp [Str.cps_append, txt]
    rw [this]
  · intro j l' l'' y hR _
    exact hR
  · intro D3 h4 tk4 ys l4 k4 hD3n hD3 hF hlD hP hk4
    have kk4 : h₂.StaysIn h4 := fun b o e => hk4 b o (fun q => lt2 b o e (List.mem_singleton.mp q)) (Heap.get?_push_of_some _ e)
    have hP' : Paired (fun j y => DatIn l4 y ((dTexts (opens.map (· ++ (pcs ns).flatten))).getD j .none)) ((List.range vs.length).filter fun _ => true) ys.toList := hP.mono fun j y hy => by
      obtain ⟨q, u, hq, rfl⟩ := hy
      have e : (dTexts (opens.map (· ++ (pcs ns).flatten)))[j]? = some (.str (txt (q ++ (pcs ns).flatten))) := by simp [dTexts, hq]
      rw [List.getD_eq_getElem?_getD, e]
      exact .str _ _
    have hd3 := datAll_of hP'
    have e3 : ((List.range vs.length).filter fun _ => true).map (fun j => (dTexts (opens.map (· ++ (pcs ns).flatten))).getD j .none) = dTexts (opens.map (· ++ (pcs ns).flatten)) := by
      rw [filter_true]
      apply List.ext_getElem
      · simp [hvl, dTexts]
      · intro i h1 h2
        simp at h1 h2
        rw [List.getElem_map, List.getElem_range, List.getD_eq_getElem?_getD, List.getElem?_eq_getElem h2]
        rfl
    rw [e3] at hd3
    have S4 := S2.on kk4
    have hyl : ys.size = 5 := by
      have := hd3.length
      simpa [dTexts, opens] using this
    refine disp_texts5 rfl ?_
    intro D5 h5 tk5 w1 w2 w3 w4 w5 k5 hD5 hD5n
    have S5 := S4.on k5
    have hD3' : h5.get? D3 = some (listOf ys.toList.toArray k4) := by
      rw [Array.toArray_toList]
      exact k5 _ _ hD3
    refine add_two hD3' hD5 (by simp; omega) ?_
    intro D6 h6 k6 hD6 hD6n
    have S6 := S5.on k6
    refine wpAny_storeName_local rfl S6.nsL (fun h7 n7 s7 => ?_) rfl
    have hk7 : ∀ b o, b ≠ L → h6.get? b = some o → h7.get? b = some o := fun b o hb e => s7.extBut b o hb e
    refine h D6 h7 _ (S6.step C.bL hk7 n7) ?_
    refine HD.but (L := L) ?_ S6.nsL hk7
    refine HD.mk hD6 ⟨l4, fun q hq => k6 _ _ (k5 _ _ (hF q hq).1), ?_⟩
    show DatAll l4 _ (dTexts (opens.map (· ++ (pcs ns).flatten) ++ alone))
    rw [show dTexts (opens.map (· ++ (pcs ns).flatten) ++ alone) = dTexts (opens.map (· ++ (pcs ns).flatten)) ++ dTexts alone from by simp [dTexts]]
    exact Mine.DatAll.append hd3 alone_dat
end
end Mine
end

section
open PySem PySem.W PySem.Calls PyProof.Rows
namespace Mine
set_option maxRecDepth 100000

theorem due_kqd {l : List Nat} (h : ∀ c ∈ l, c < 0x110000) : kqdOk 2 (dueD l) = true := by
  have b1 : PyData.strOk (Str.ofString "refused") = true := by decide +kernel
  have b2 : PyData.strOk (Str.ofString "told") = true := by decide +kernel
  have b3 : PyData.strOk (Str.ofString "") = true := by decide +kernel
  unfold dueD
  split
  · split
    · have e : ∀ y : Str, y = txt (tx y) := fun y => by cases y; simp [txt, tx]
      have hm : atD (deedL (l.drop 5)) 0 ∈ deedL (l.drop 5) := atD_mem (by rw [(deedL_ok _).len]; decide)
      have b4 : PyData.strOk (atD (deedL (l.drop 5)) 0).2 = true := by
        rw [e (atD (deedL (l.drop 5)) 0).2]
        exact strOk_txt fun c hc => h c (List.mem_of_mem_drop (deed_mem hm hc))
      simp [kqdOk, b2, b4]
    · simp [kqdOk, b2, b3]
  · have b5 := strOk_txt h
    simp [kqdOk, b1, b5]

theorem replies_chars {ns : List Int} {l : List Nat} (hl : l ∈ repliesL (pcs ns).flatten) : ∀ c ∈ l, c < 0x110000 := by
  intro c hc
  unfold repliesL at hl
  rcases List.mem_append.mp hl with hl | hl
  · obtain ⟨q, hq, rfl⟩ := List.mem_map.mp hl
    rcases List.mem_append.mp hc with hc | hc
    · have : ∀ q ∈ opens, ∀ c ∈ q, c < 0x110000 := by decide
      exact this q hq c hc
    · exact flat_chars c hc
  · have : ∀ q ∈ alone, ∀ c ∈ q, c < 0x110000 := by decide
    exact this l hl c hc
theorem replies_len {ns : List Int} (hz : ns.length ≤ 17) {l : List Nat} (hl : l ∈ repliesL (pcs ns).flatten) : l.length ≤ 30 := by
  have htot := pcs_total ns
  unfold repliesL at hl
  rcases List.mem_append.mp hl with hl | hl
  · obtain ⟨q, hq, rfl⟩ := List.mem_map.mp hl
    have := opens_len hq
    rw [List.length_append]
    omega
  · have : ∀ q ∈ alone, q.length ≤ 30 := by decide
    exact this l hl

theorem got_list {rs : List (List Nat)} {l4 : List (Addr × Obj)} {n : Nat} {ys : Array Value} (hn : n = rs.length) (hP : Paired (fun i y => ∃ q, rs[i]? = some q ∧ DatIn l4 y (dueD q)) (List.range n) ys.toList) : DatAll l4 ys.toList (rs.map dueD) := by
  have hP' : Paired (fun j y => DatIn l4 y ((rs.map dueD).getD j .none)) (List.range n) ys.toList := hP.mono fun j y hy => by
    obtain ⟨q, hq, d⟩ := hy
    simpa [hq] using d
  have hd3 := datAll_of hP'
  have e3 : (List.range n).map (fun j => (rs.map dueD).getD j .none) = rs.map dueD := by
    apply List.ext_getElem
    · simp [hn]
    · intro i h1 h2
      simp at h1 h2
      simp [h2]
  rw [e3] at hd3
  exact hd3

section
variable {prog : Program} {w : World} {A : Around} {L : Addr} {s : Shared} {Q : Flow → Shared → Prop} {p : Program} {loose : List Str} {mean : ExcName → Option Value} {mg mb : Str → Option Value} {base : Heap} {m : Str → Option Value} {P : Addr}
  {name qual : Str} {params : Arguments} {s0 s1 s2 s3 s4 s5 s6 s7 s8 : Stmt} {rest : List Stmt} {scope : Scope} {dV kV doc pm cdv ct oc : Value} {an od : Option Addr} {osl : Array (Option Value)} {ns : List Int}

set_option maxHeartbeats 8000000 in
theorem law_s8 {R : Addr}
    (ho : (KF w).lookup 117 = some ⟨oc, od, .func (fnOf name qual params (s0 :: s1 :: s2 :: s3 :: s4 :: s5 :: s6 :: s7 :: s8 :: rest) scope dV kV doc pm an cdv ct), osl⟩)
    (C : LawC p loose mean mg mb w A base L) (S : LSt base L s.heap m P ns) (hz : ns.length ≤ 17)
    (mr : m (Str.ofString "replies") = some (.ref R)) (hR : HD s.heap (.ref R) (.list (dTexts (repliesL (pcs ns).flatten))))
    (h : ∀ h' tk, base.StaysIn h' → Q (.ret (.bool true)) { s with heap := h', toks := tk }) :
    wpAny (model prog w) (A.deeper (envOfC qual scope L 117 cdv)) (exec s8 (envOfC qual scope L 117 cdv)) Q NE s := by
  have key : (KF w).lookup 117 = some ⟨_, _, .func (fnOf _ _ _ (_ :: _ :: _ :: _ :: _ :: _ :: _ :: _ :: _ :: _) _ _ _ _ _ _ _ _), _⟩ := rfl
  have e := key.symm.trans ho
  clear key ho
  cases e
  have T0 := topRead_of C.T
  have room := C.room
  have hu := C.units
  generalize hrs : repliesL (pcs ns).flatten = rs at hR
  have hch : ∀ l ∈ rs, ∀ c ∈ l, c < 0x110000 := fun l hl => replies_chars (ns := ns) (by rw [hrs]; exact hl)
  have hln : ∀ l ∈ rs, l.length ≤ 30 := fun l hl => replies_len hz (by rw [hrs]; exact hl)
  have hrl : rs.length = 10 := by rw [← hrs]; rfl
  obtain ⟨vs, n, hRl, hvl, hvs⟩ := texts_at hR
  have hRL : s.heap.IsList R vs.toArray := ⟨_, hRl, rfl, _, rfl⟩
  have hRI : R ≠ s.heap.objs.size := Nat.ne_of_lt (Heap.lt_size hRl)
  have hRneL : R ≠ L := fun q => by
    obtain ⟨o, es, ep, ho, hd, _⟩ := S.nsL
    rw [← q, hRl] at ho
    cases ho
    cases hd
  have lt0 : ∀ b o, s.heap.get? b = some o → b ≠ s.heap.objs.size := fun b o e => Nat.ne_of_lt (Heap.lt_size e)
  have hLlt : L < s.heap.objs.size := by obtain ⟨o, _, _, ho, _⟩ := S.nsL; exact Heap.lt_size ho
  refine wpAny_Return_some ?_
  refine wpAny_Compare1 ?_
  refine' comp_exprF (cl := []) ?hclos ?hcell ?hkind ?hnames ?_ ?hs
  case hclos => with_unfolding_all rfl
  case hcell => decide
  case hkind => rfl
  case hnames => decide
  case hs => intro _; rfl
  refine nm_local S.nsL mr ?_ rfl rfl (by decide)
  refine wpAny_pyIter_list hRL ?_
  refine ⟨s.heap.objs.size, [s.heap.objs.size], [L], vs.length, _, fun h => h.Ns L m, _, fun i l y => ∃ q, rs[i]? = some q ∧ DatIn l y (dueD q), rfl,
    ⟨Src.of_walks (x := Str.ofString "reply") (Walks.list (by exact C.hh) s.heap.objs.size R hRI vs.toArray) ?_ ?_ rfl rfl, by rw [sizeLine_eq]; omega, ?_, S.nsL.push _, ?_, ?_, ?_, ?_, ?_, ?_⟩, ?_⟩
  · intro b hb
    rw [Heap.size_push]
    rcases List.mem_cons.mp hb with rfl | hb
    · exact Nat.lt_succ_self _
    · rw [List.mem_singleton.mp hb]; exact Nat.lt_succ_of_lt (Heap.lt_size hRl)
  · intro j h st b hb
    rw [List.mem_singleton.mp hb]
    obtain ⟨o, ho, _⟩ := st.1
    exact ⟨o, ho⟩
  · exact ⟨⟨_, Heap.get?_push_size _ rfl, rfl, rfl⟩, hRL.push _⟩
  · intro b hb
    rw [List.mem_singleton.mp hb, Heap.size_push]
    exact Nat.lt_succ_of_lt hLlt
  · intro i h h' st hk
    have hz : ∀ b, b ∈ [s.heap.objs.size, R] → b < (s.heap.push { cls := .type "list_iterator", data := .fields #[.ref R, .int 0 0] }).objs.size := by
      intro b hb
      rw [Heap.size_push]
      rcases List.mem_cons.mp hb with rfl | hb
      · exact Nat.lt_succ_self _
      · rw [List.mem_singleton.mp hb]; exact Nat.lt_succ_of_lt (Heap.lt_size hRl)
    refine ⟨st.1.at fun o e => hk _ o (hz _ (.head _)) (fun q => ?_) e, st.2.at fun o e => hk _ o (hz _ (.tail _ (.head _))) (fun q => hRneL (List.mem_singleton.mp q)) e⟩
    have : s.heap.objs.size = L := List.mem_singleton.mp q
    exact Nat.lt_irrefl _ (by rw [this] at hLlt; exact hLlt)
  · intro h h' n hk
    refine n.at' fun o e => hk L o (by rw [Heap.size_push]; exact Nat.lt_succ_of_lt hLlt) (fun q => ?_) e
    have : L = s.heap.objs.size := List.mem_singleton.mp q
    rw [← this] at hLlt
    exact Nat.lt_irrefl _ hLlt
  · intro h n b hb
    obtain ⟨o, _, _, ho, _⟩ := n
    rw [List.mem_singleton.mp hb]
    exact ⟨o, ho⟩
  · rintro C' j s3 m3 hC3 hj ⟨vb, hvb, hmb⟩ hn3 inv3 hk3
    obtain ⟨q, u, hq, rfl⟩ := hvs j vb (by simpa using hvb)
    have kk3 : base.StaysIn s3.heap := fun b o e => hk3 b o (fun q => lt0 b o (S.stay _ _ e) (List.mem_singleton.mp q)) (fun q => by rw [List.mem_singleton.mp q, C.bL] at e; cases e) (Heap.get?_push_of_some _ (S.stay _ _ e))
    refine call_top (K := KF w) (f := 86) (C.X.keeps kk3) (T0.g.keeps kk3) (by rfl) (by exact rfl) rfl ?_ rfl rfl rfl (by decide) (by rfl)
    refine spliced_more ?_
    refine nm_local hn3 hmb ?_ rfl rfl (by decide)
    refine spliced_none ⟨fun _ _ e => e, ?_⟩
    have hql := hln q (List.mem_of_getElem? hq)
    refine answer_spec (base := base) (law_below C.fr kk3 inv3 C.bL rfl rfl) (dicts_of inv3) C.X C.T (by exact C.hh) (by show A.depth + 1 + 1 < _; omega) (by show A.units + _ + 100 < cLine; omega) (by simp [txt]; omega) ?_
    intro r g4 h4 tk4 l4 T4 k4 f4 d4
    obtain ⟨kk4, n4⟩ := turn_keep (L := L) T4 k4 inv3
    rw [tx_txt] at d4
    refine ⟨h4, tk4, l4, rfl, fun b o hb e => kk4 b o (fun q => hb (by rw [q]; exact .head _)) e, n4, fun p hp => ⟨(f4 p hp).1, ?_⟩, q, hq, d4⟩
    cases e : s3.heap.get? p.1 with
    | none => rfl
    | some o =>
      obtain ⟨sl, hs⟩ := T4.up e
      rw [(f4 p hp).2] at hs
      cases hs
  · rintro j l' l'' y ⟨q, hq, d⟩ hs
    exact ⟨q, hq, d.mono hs⟩
  · intro D3 h4 tk4 ys l4 k4 hD3n hD3 hF hlD hP inv4 hk4
    have kk4 : ∀ b o, b ≠ L → s.heap.get? b = some o → h4.get? b = some o := fun b o hb e => hk4 b o (fun q => lt0 b o e (List.mem_singleton.mp q)) (fun q => hb (List.mem_singleton.mp q)) (Heap.get?_push_of_some _ e)
    have S4 := S.step C.bL kk4 inv4
    have hR4 := hR.but S.nsL kk4
    have hd4 := got_list hvl hP
    have hD4 : HD h4 (.ref D3) (.list (rs.map dueD)) := HD.mk (vs := ys.toList) (n := k4) (by rw [Array.toArray_toList]; exact hD3) ⟨l4, fun q hq => (hF q hq).1, hd4⟩
    have hRl4 := kk4 _ _ hRneL hRl
    have hRL4 : h4.IsList R vs.toArray := ⟨_, hRl4, rfl, _, rfl⟩
    have hRI4 : R ≠ h4.objs.size := Nat.ne_of_lt (Heap.lt_size hRl4)
    have lt4 : ∀ b o, h4.get? b = some o → b ≠ h4.objs.size := fun b o e => Nat.ne_of_lt (Heap.lt_size e)
    refine' comp_expr (cl := []) ?hclos ?hcell ?hkind ?hnames ?_ ?hs
    case hclos => with_unfolding_all rfl
    case hcell => decide
    case hkind => rfl
    case hnames => decide
    case hs => intro _; rfl
    refine nm_local S4.nsL mr ?_ rfl rfl (by decide)
    refine wpAny_pyIter_list hRL4 ?_
    refine ⟨h4.objs.size, [h4.objs.size], vs.length, _, _, fun _ => true, fun i l y => ∃ q, rs[i]? = some q ∧ DatIn l y (dueD q), rfl,
      ⟨Src.of_walks (x := Str.ofString "reply") (Walks.list (by exact C.hh) h4.objs.size R hRI4 vs.toArray) ?_ ?_ rfl rfl, by rw [sizeLine_eq]; omega, ?_, ?_, ?_, ?_⟩, ?_⟩
    · intro b hb
      rw [Heap.size_push]
      rcases List.mem_cons.mp hb with rfl | hb
      · exact Nat.lt_succ_self _
      · rw [List.mem_singleton.mp hb]; exact Nat.lt_succ_of_lt (Heap.lt_size hRl4)
    · intro j h st b hb
      rw [List.mem_singleton.mp hb]
      obtain ⟨o, ho, _⟩ := st.1
      exact ⟨o, ho⟩
    · exact ⟨⟨_, Heap.get?_push_size _ rfl, rfl, rfl⟩, hRL4.push _⟩
    · rintro C' j s5 m5 hC5 hj _ hn5 hk5
      exact wpAny_tests_nil ⟨rfl, s5.heap, s5.toks, rfl, fun _ _ e => e⟩
    · rintro C' j s5 m5 hC5 hj _ ⟨vb, hvb, hmb⟩ hn5 hk5
      obtain ⟨q, u, hq, rfl⟩ := hvs j vb (by simpa using hvb)
      have k5 : h4.StaysIn s5.heap := fun b o e => hk5 b o (fun q => lt4 b o e (List.mem_singleton.mp q)) (Heap.get?_push_of_some _ e)
      have kk5 : base.StaysIn s5.heap := StaysIn.trans S4.stay k5
      refine call_top (K := KF w) (f := 91) (C.X.keeps kk5) (T0.g.keeps kk5) (by rfl) (by exact rfl) rfl ?_ rfl rfl rfl (by decide) (by rfl)
      refine spliced_more ?_
      refine nm_local hn5 hmb ?_ rfl rfl (by decide)
      refine spliced_none ⟨fun _ _ e => e, ?_⟩
      have hql := hln q (List.mem_of_getElem? hq)
      refine due_spec (C.X.keeps kk5) (T0.g.keeps kk5) (T0.b.keeps kk5) T0.builtins (T0.nolimit.keeps kk5) (by exact C.hh) (by show A.depth + 1 + 2 < _; omega) (by show A.units + _ + 100 < cLine; omega) (by simp [txt]; omega) ?_
      intro r h6 tk6 l6 k6 f6 d6
      rw [tx_txt] at d6
      exact ⟨h6, tk6, l6, rfl, k6, f6, q, hq, d6⟩
    · rintro j l' l'' y ⟨q, hq, d⟩ hs
      exact ⟨q, hq, d.mono hs⟩
    · intro D7 h7 tk7 ys7 l7 k7 hD7n hD7 hF7 hlD7 hP7 hk7
      have kk7 : h4.StaysIn h7 := fun b o e => hk7 b o (fun q => lt4 b o e (List.mem_singleton.mp q)) (Heap.get?_push_of_some _ e)
      rw [filter_true] at hP7
      have hd7 := got_list hvl hP7
      have hD7' : HD h7 (.ref D7) (.list (rs.map dueD)) := HD.mk (vs := ys7.toList) (n := k7) (by rw [Array.toArray_toList]; exact hD7) ⟨l7, fun q hq => (hF7 q hq).1, hd7⟩
      refine eq_same (n := 3) (hD4.keep kk7) hD7' ?_ (by decide) (by show A.units + _ + 64 < cLine; omega) ?_
      · simp only [kqdOk, List.all_map, List.all_eq_true]
        intro q hq
        exact due_kqd (hch q hq)
      · exact h _ _ (StaysIn.trans S4.stay kk7)
end
end Mine
end

section
open PySem PySem.W PySem.Calls PyProof.Rows
namespace Mine
set_option maxRecDepth 100000

set_option maxHeartbeats 8000000 in
theorem law_code {prog : Program} {w : World} {A : Around} {p : Program} {loose : List Str} {mean : ExcName → Option Value} {mg mb : Str → Option Value} {s : Shared} {R : Result → Shared → Prop} {a : Addr} {vs : List Value} {ns : List Int}
    (X : (KF w).In s.heap) (T : Top p loose mean mg mb s.heap) (hfr : A.frames = some []) (hh : A.handled = none) (hroom : A.depth + 6 < recursionLimit) (hu : A.units + 300 < cLine)
    (hL : s.heap.IsList a vs.toArray) (hI : IntsAre vs ns) (hn : ns.length ≤ 63)
    (h : ∀ h' tk, s.heap.StaysIn h' → R (.ok (.ret (.bool true))) { s with heap := h', toks := tk }) :
    codeAny (model prog w) A (.call (.ref 117) ⟨[.ref a], []⟩) R s := by
  have T0 := topRead_of T
  refine' enterK (binds := [(Str.ofString "script", .ref a)]) X T0.nolimit ?ho ?hcd (by omega) ?hb ?hl ?_ ?c1 ?c2 ?c3
  case ho => exact rfl
  case hcd => rfl
  case hb => rfl
  case hl => rfl
  case c1 => rfl
  case c2 => rfl
  case c3 => rfl
  intro s₁ hC
  obtain ⟨h₁, tk₁, rfl, hk₁⟩ := hC.done
  have hn1 : h₁.Ns s.heap.objs.size (fun y => if y = Str.ofString "script" then some (.ref a) else none) := hC.toInCall.ns
  have cr : h₁.IsCell (s.heap.objs.size + 1) none := hC.cell (Str.ofString "pieces") _ rfl
  clear hC
  have C : LawC p loose mean mg mb w A s.heap s.heap.objs.size := ⟨X, T, fresh_none (Nat.le_refl _), fresh_none (Nat.le_succ _), hfr, hh, hroom, hu⟩
  have hz : (ns.take 10 ++ tailN).length ≤ 17 := by
    simp [tailN]
    omega
  refine wpAny_execs_cons ?_
  refine law_s0 (by exact rfl) C hk₁ hn1 (if_pos rfl) cr (hL.at fun o e => hk₁ _ _ e) hI hn ?_
  intro P h2 tk2 S2
  refine wpAny_execs_cons ?_
  refine law_s1 (by exact rfl) C S2 (by omega) ?_
  intro D h3 tk3 S3 hD3
  refine wpAny_execs_cons ?_
  refine law_s2 (by exact rfl) C S3 (by omega) ?_
  intro vw Rw h4 tk4 k4 n4 hw4 hr4
  have S4 := S3.step C.bL k4 n4
  have hD4 := hD3.but S3.nsL k4
  refine wpAny_execs_cons ?_
  refine law_s3 (by exact rfl) C S4 (by omega) (by rfl) hD4 (by rfl) hw4 ?_
  intro h5 tk5 k5
  have S5 := S4.on k5
  have hD5 := hD4.keep k5
  have hr5 := hr4.keep k5
  refine wpAny_execs_cons ?_
  refine law_s4 (by exact rfl) C S5 (by omega) ?_
  intro N h6 tk6 k6 n6 hN6
  have S6 := S5.step C.bL k6 n6
  have hD6 := hD5.but S5.nsL k6
  have hr6 := hr5.but S5.nsL k6
  refine wpAny_execs_cons ?_
  refine law_s5 (by exact rfl) C S6 hz (by rfl) hN6 (by rfl) hr6 ?_
  intro h7 tk7 k7
  have S7 := S6.on k7
  have hD7 := hD6.keep k7
  refine wpAny_execs_cons ?_
  refine law_s6 (by exact rfl) C S7 hz (by rfl) hD7 ?_
  intro h8 tk8 k8
  have S8 := S7.on k8
  refine wpAny_execs_cons ?_
  refine law_s7 (by exact rfl) C S8 hz ?_
  intro Rp h9 tk9 S9 hR9
  refine wpAny_execs_cons ?_
  refine law_s8 (by exact rfl) C S9 hz (by rfl) hR9 ?_
  intro h10 tk10 k10
  exact h h10 _ k10
end Mine
end

open PySem PySem.W PySem.Calls PyProof.Rows
set_option maxRecDepth 100000 in
set_option maxHeartbeats 8000000 in
theorem PySem.Challenge.cw_of0003_01_holds : PySem.Challenge.rw_of0003_01.Holds := by
  exact Mine.hd (by
    k_fill
    intro w s₀ s₁ mg mb G Y fa o pm cd doc dV kV ho hd hcd hD hmg hg args vals as hpre hlay hrd hwl hlo
    have KX := kIn_of Y
    refine Ground.open G ?_
    intro T B D TE TW
    try (refine guard_noD D (by decide +kernel) ?_; clear D)
    wrow_args hpre hlay hrd hwl hlo
    rename_i ns _ _ _ _ _ _ _ a vs _ hL _ _ _ hI _ hcond _
    have h117 : mg (Str.ofString "law") = some (.ref 117) := mg_of KX T.g (by rfl)
    have h2 : some (Value.ref fa) = some (Value.ref 117) := Eq.trans (Eq.symm hmg) h117
    cases h2
    refine enter_call ?_
    refine codeAny_mono ?_ (fun _ _ g => GoodW.toG g)
    refine Mine.law_code KX T rfl rfl (by decide) (by decide) hL hI (by omega) ?_
    intro h' tk k
    refine ⟨.inl ⟨_, _, _, rfl, ?_, .bool true, ?_, ?_⟩, k, rfl, hg⟩
    · exact fun cls => rfl
    · kernel_rfl
    · exact unshared_nil)
