import PyProof.Rows.All
import Wide.All
import OpenK.AllK
import Wide.FinOn
import PySem.Challenge.RW_mr0172_01
set_option Elab.async false
set_option maxRecDepth 100000
set_option maxHeartbeats 8000000

/-! part HD -/
section
open PySem PySem.W PyProof.Rows
namespace Mine
open_top hd for PySem.Challenge.rw_mr0172_01
end Mine
end

/-! part W0 -/
section
open PySem PySem.W PyProof.Rows
namespace Mine

/-- what the top left, at a heap -/
structure G (w : World) (mg mb : Str → Option Value) (h : Heap) : Prop where
  k : (hd.heap_39 w.params).In h
  t : TopRead hd.view_39 (looseW hd.view_39 [Str.ofString "EXACT_TOKEN_TYPES"]) mg mb h

theorem G.keeps {w : World} {mg mb : Str → Option Value} {h h' : Heap} (x : G w mg mb h) (hk : ∀ b o, h.get? b = some o → h'.get? b = some o) : G w mg mb h' :=
  ⟨x.k.keeps hk, x.t.keeps hk⟩

section
variable {prog : Program} {w : World} {A : Around} {s : Shared} {mg mb : Str → Option Value} {R : Result → Shared → Prop}

theorem enter {name qual : Str} {params : Arguments} {body : List Stmt} {scope : Scope} {dV kV doc pm cdv ct oc : Value} {an od : Option Addr} {osl : Array (Option Value)} {f : Addr} {args : Args} {binds : List (Str × Value)}
    (g : G w mg mb s.heap) (ho : (hd.heap_39 w.params).lookup f = some ⟨oc, od, .func (fnOf name qual params body scope dV kV doc pm an cdv ct), osl⟩)
    (hcd : codeIn (hd.heap_39 w.params) cdv qual = true) (hroom : A.depth < recursionLimit)
    (hbind : BindsTo s (fnOf name qual params body scope dV kV doc pm an cdv ct) args binds) (hloc : ∀ y ∈ binds, scope.names.lookup y.1 = some .local)
    (h : ∀ h₁, Fr s.heap s.heap.objs.size h₁ (fun x => binds.reverse.lookup x) →
      wpAny (model prog w) (A.deeper (envOf qual scope s.heap.objs.size f cdv)) (execs body (envOf qual scope s.heap.objs.size f cdv))
        (fun fl s' => R (.ok (.ret (match fl with | .ret v => v | _ => .none))) s') (fun _ _ => False)
        { s with heap := h₁, toks := s.toks + binds.length })
    (hcell : ∀ x ∈ scope.names, x.2 ≠ .cell := by decide)
    (hco : scope.isCoroutine = false := by rfl) (hgen : scope.isGenerator = false := by rfl) (hk : scope.kind = .function := by rfl) :
    codeAny (model prog w) A (.call (.ref f) args) R s := by
  refine codeAny_call_def (fd := fnOf name qual params body scope dV kV doc pm an cdv ct) (body := body) (binds := binds) hroom (g.k _ _ ho) rfl g.t.nolimit (codeRec_of g.k hcd) rfl hbind hcell hloc (fun h₁ hns hk₁ => ?_) hco hgen hk
  exact wpAny_mono (h h₁ ⟨hns, hk₁, Nat.le_refl _⟩) (fun _ _ x => x) (fun _ _ x => x.elim)
end


abbrev NoE : Value → Shared → Prop := fun _ _ => False

section
variable {prog : Program} {w : World} {A : Around} {s : Shared} {mg mb : Str → Option Value} {R : Result → Shared → Prop}

/-- a def whose names are captured by a comprehension -/
theorem enterC {name qual : Str} {params : Arguments} {body : List Stmt} {scope : Scope} {dV kV doc pm cdv ct oc : Value} {an od : Option Addr} {osl : Array (Option Value)} {f : Addr} {args : Args} {binds : List (Str × Value)}
    (g : G w mg mb s.heap) (ho : (hd.heap_39 w.params).lookup f = some ⟨oc, od, .func (fnOf name qual params body scope dV kV doc pm an cdv ct), osl⟩)
    (hcd : codeIn (hd.heap_39 w.params) cdv qual = true) (hroom : A.depth < recursionLimit)
    (hbind : BindsTo s (fnOf name qual params body scope dV kV doc pm an cdv ct) args binds)
    (hkind : (binds.all fun y => scope.names.lookup y.1 == some .local || scope.names.lookup y.1 == some .cell) = true)
    (hnd : ((cellsFrom 0 scope.names []).map (·.1)).Nodup)
    (h : ∀ h₁ tk cells, Fr s.heap s.heap.objs.size h₁ (bindL (envOfC qual scope s.heap.objs.size f cdv).kindOf binds fun _ => none) → News s.heap s.heap.objs.size h₁ cells →
      CellsAre (bindC (envOfC qual scope s.heap.objs.size f cdv).kindOf binds fun _ => none) (cellsFrom (s.heap.objs.size + 1) scope.names []) cells →
      wpAny (model prog w) (A.deeper (envOfC qual scope s.heap.objs.size f cdv)) (execs body (envOfC qual scope s.heap.objs.size f cdv))
        (fun fl s' => R (.ok (.ret (match fl with | .ret v => v | _ => .none))) s') (fun _ _ => False)
        { s with heap := h₁, toks := tk })
    (hco : scope.isCoroutine = false := by rfl) (hgen : scope.isGenerator = false := by rfl) (hk : scope.kind = .function := by rfl) :
    codeAny (model prog w) A (.call (.ref f) args) R s := by
  refine codeAny_call_function (fd := fnOf name qual params body scope dV kV doc pm an cdv ct) hroom (g.k _ _ ho) rfl hco hgen rfl (codeRec_of g.k hcd) (hbind _ _ _ _ ?_)
  refine wpAny_newFunctionEnv_cells hk (kindsX hkind _) fun env' he s' x => ?_
  subst he
  refine ⟨g.t.nolimit.keeps x.toInCall.keep, codeAny_func ?_⟩
  obtain ⟨h₁, tk, rfl, _⟩ := x.done
  obtain ⟨cells, NC, Y⟩ := Cl.news (h₀ := s.heap) (Nat.le_refl _) fun n c hm => ⟨x.cell n c (lookup_of_mem_nodup (cellsFrom_names scope.names 0 (s.heap.objs.size + 1) [] [] rfl ▸ hnd) hm), x.above n c hm⟩
  exact wpAny_mono (h h₁ tk cells ⟨x.toInCall.ns, x.toInCall.keep, Nat.le_refl _⟩ NC Y) (fun _ _ y => y) fun _ _ y => y.elim
end

/-- a later state: all is kept but what lies in wr -/
def Stays (wr : List Addr) (s s' : Shared) : Prop := ∃ h' tk, s' = { s with heap := h', toks := tk } ∧ ∀ b o, b ∉ wr → s.heap.get? b = some o → h'.get? b = some o

theorem Stays.refl (wr : List Addr) (s : Shared) : Stays wr s s := ⟨s.heap, s.toks, rfl, fun _ _ _ e => e⟩
theorem Stays.trans {wr : List Addr} {s s' s'' : Shared} (x : Stays wr s s') (y : Stays wr s' s'') : Stays wr s s'' := by
  obtain ⟨h, tk, rfl, k⟩ := x
  obtain ⟨h', tk', rfl, k'⟩ := y
  exact ⟨h', tk', rfl, fun b o n e => k' b o n (k b o n e)⟩
theorem Stays.mono {wr wr' : List Addr} {s s' : Shared} (x : Stays wr s s') (h : ∀ b ∈ wr, b ∈ wr') : Stays wr' s s' := by
  obtain ⟨h', tk, rfl, k⟩ := x
  exact ⟨h', tk, rfl, fun b o n e => k b o (fun q => n (h b q)) e⟩
theorem Stays.get {wr : List Addr} {s s' : Shared} (x : Stays wr s s') {b : Addr} {o : Obj} (n : b ∉ wr) (e : s.heap.get? b = some o) : s'.heap.get? b = some o := by
  obtain ⟨h', tk, rfl, k⟩ := x
  exact k b o n e

section
variable {prog : Program} {w : World} {A : Around} {s : Shared} {env : Env} {Q : Flow → Shared → Prop}

def ForAt (prog : Program) (w : World) (A : Around) (env : Env) (target : Expr) (body : List Stmt) (Q : Flow → Shared → Prop) (it : Value) (s₂ : Shared) : Prop :=
  ∃ I fp wr n P St, ∃ J : Nat → Shared → Prop, it = .ref I ∧ Walks prog w A I fp wr n P St ∧ St 0 s₂.heap ∧ J 0 s₂ ∧
    (∀ i v s₁ s', i < n → P i v → J i s₁ → Stays wr s₁ s' → St (i + 1) s'.heap →
      wpAny (model prog w) A (letOwnedTupleGo target (.ref I) v) (fun _ s₂ => wpAny (model prog w) A (assign target env v) (fun _ s₃ =>
        wpAny (model prog w) A (execs body env) (fun f s₄ => match f with
          | .next | .cont => J (i + 1) s₄ ∧ St (i + 1) s₄.heap
          | .brk => Q .next s₄
          | .ret v => Q (.ret v) s₄) NoE s₃) NoE s₂) NoE s') ∧
    ∀ s₁ s', J n s₁ → Stays wr s₁ s' → Q .next s'

theorem Stays.fr {wr : List Addr} {s₁ s' : Shared} {h₀ : Heap} {L : Addr} {m : Str → Option Value} (x : Stays wr s₁ s') (F : Fr h₀ L s₁.heap m) (hL : L ∉ wr) (hw : ∀ b ∈ wr, h₀.get? b = none) : Fr h₀ L s'.heap m := by
  obtain ⟨h', tk, rfl, k⟩ := x
  exact ⟨F.ns.at' fun o e => k _ _ hL e, fun b o e => k b o (fun q => by rw [hw b q] at e; cases e) (F.keep b o e), F.above⟩
theorem Stays.news {wr : List Addr} {s₁ s' : Shared} {h₀ : Heap} {L : Addr} {news : List (Addr × Obj)} (x : Stays wr s₁ s') (N : News h₀ L s₁.heap news) (hw : ∀ p ∈ news, p.1 ∉ wr) : News h₀ L s'.heap news := by
  obtain ⟨h', tk, rfl, k⟩ := x
  exact fun p hp => ⟨k _ _ (hw p hp) (N p hp).1, (N p hp).2⟩
theorem Stays.of {s : Shared} {h : Heap} {tk : Nat} (k : ∀ b o, s.heap.get? b = some o → h.get? b = some o) : Stays [] s { s with heap := h, toks := tk } := ⟨h, tk, rfl, fun b o _ e => k b o e⟩
theorem Stays.keep {s s' : Shared} (x : Stays [] s s') : ∀ b o, s.heap.get? b = some o → s'.heap.get? b = some o := fun _ _ e => x.get (List.not_mem_nil) e
theorem fresh_none {h₀ h : Heap} {L : Addr} {m : Str → Option Value} (F : Fr h₀ L h m) {b : Addr} (hb : h.objs.size ≤ b) : h₀.get? b = none := by
  cases q : h₀.get? b with
  | none => rfl
  | some o => exact absurd (Heap.lt_size (F.keep _ _ q)) (Nat.not_lt.mpr hb)

theorem for_rule {target iter : Expr} {body : List Stmt} {pos : Pos}
    (h : wpAny (model prog w) A (eval iter env) (fun x s₁ => wpAny (model prog w) A (pyIter x) (fun it s₂ => ForAt prog w A env target body Q it s₂) NoE s₁) NoE s)
    (hs : ∀ x, foldedSetIterable iter env x = pure x := by intro _; rfl) :
    wpAny (model prog w) A (exec (.For target iter body [] pos) env) Q NoE s := by
  refine wpAny_For (wpAny_mono h (fun x s₁ h₁ => wpAny_mono h₁ (fun it s₂ h₂ => ?_) fun _ _ e => e.elim) fun _ _ e => e.elim) hs
  obtain ⟨I, fp, wr, n, P, St, J, rfl, W, hst, hj, turn, done⟩ := h₂
  refine codeAny_forLoop_any (fun k s => ∃ i, k = n + 1 - i ∧ i ≤ n ∧ J i s ∧ St i s.heap) ?_ (n + 1) ⟨0, by omega, by omega, hj, hst⟩
  rintro k s' ⟨i, rfl, hi, hJ, hS⟩
  by_cases hin : i < n
  · refine W.item i s' _ _ hin hS fun v h' tk hP hS' hk => ?_
    refine wpAny_mono (turn i v s' _ hin hP hJ ⟨h', tk, rfl, hk⟩ hS') (fun _ s₂ h₂ => wpAny_mono h₂ (fun _ s₃ h₃ => wpAny_mono h₃ (fun f s₄ h₄ => ?_) fun _ _ e => e.elim) fun _ _ e => e.elim) fun _ _ e => e.elim
    cases f with
    | next => exact ⟨n + 1 - (i + 1), by omega, i + 1, rfl, hin, h₄.1, h₄.2⟩
    | cont => exact ⟨n + 1 - (i + 1), by omega, i + 1, rfl, hin, h₄.1, h₄.2⟩
    | brk => exact h₄
    | ret v => exact h₄
  · obtain rfl : i = n := by omega
    exact W.done s' _ _ hS fun h' tk hk => wpAny_execs_nil (done s' _ hJ ⟨h', tk, rfl, hk⟩)


theorem news_add {h₀ : Heap} {L b : Addr} {m : Str → Option Value} {s s' : Shared} {news : List (Addr × Obj)} {o : Obj} (F : Fr h₀ L s.heap m) (N : News h₀ L s.heap news) (hst : Stays [] s s') (hnew : s.heap.get? b = none) (hb : s'.heap.get? b = some o) :
    News h₀ L s'.heap ((b, o) :: news) := fun p hp => by
  rcases List.mem_cons.mp hp with rfl | hp
  · refine ⟨hb, fun e => ?_, ?_⟩
    · obtain ⟨oL, es, ep, hL, _⟩ := F.ns
      have e' : b = L := e
      rw [e', hL] at hnew; cases hnew
    · cases q : h₀.get? b with
      | none => rfl
      | some o' => rw [F.keep _ _ q] at hnew; cases hnew
  · exact ⟨hst.keep _ _ (N p hp).1, (N p hp).2⟩

/-- a frame's names: the ones said, and some more -/
def pin : List (Str × Value) → (Str → Option Value) → Str → Option Value
  | [], u, y => u y
  | (x, v) :: r, u, y => if y = x then some v else pin r u y
theorem pin_nil (m : Str → Option Value) : m = pin [] m := rfl
theorem pin_cons {m : Str → Option Value} {x : Str} {v : Value} {r : List (Str × Value)} (h : m x = some v) (e : m = pin r m) : m = pin ((x, v) :: r) m := by
  funext y
  show m y = if y = x then some v else pin r m y
  by_cases hy : y = x
  · rw [if_pos hy, hy, h]
  · rw [if_neg hy]; exact congrFun e y

theorem fr_pin {h₀ h : Heap} {L : Addr} {m m' : Str → Option Value} (F : Fr h₀ L h m) (e : m = m') : Fr h₀ L h m' := e ▸ F

/-- the end of a turn: the frame, the iterator as it stood, the ledger -/
def TurnN (h₀ : Heap) (L I : Addr) (o : Obj) (J : (Str → Option Value) → List (Addr × Obj) → Prop) (s s₄ : Shared) : Prop :=
  ∃ h' tk' m' news', s₄ = { s with heap := h', toks := tk' } ∧ Fr h₀ L h' m' ∧ News h₀ L h' ((I, o) :: news') ∧ (∀ p ∈ news', p.1 ≠ I) ∧ J m' news'

theorem loopN {h₀ : Heap} {L I : Addr} {fp : List Addr} {n : Nat} {P : Nat → Value → Prop} {St : Nat → Heap → Prop} {target : Expr} {body : List Stmt} {m₀ : Str → Option Value} {news₀ : List (Addr × Obj)}
    (W : Walks prog w A I fp [I] n P St) (kept : List (Addr × Obj)) (hfp : ∀ b ∈ fp, b = I ∨ (∃ q, h₀.get? b = some q) ∨ ∃ q, (b, q) ∈ kept) (hI : h₀.get? I = none) (hIL : I ≠ L) (hlive : ∀ i h, St i h → ∃ o, h.get? I = some o)
    (F : Fr h₀ L s.heap m₀) (N : News h₀ L s.heap news₀) (hIn : ∀ p ∈ news₀, p.1 ≠ I) (hst : St 0 s.heap) (J : Nat → (Str → Option Value) → List (Addr × Obj) → Prop) (hkept : ∀ i m news, J i m news → ∀ p ∈ kept, p ∈ news) (hj : J 0 m₀ news₀)
    (turn : ∀ i v m news h tk o, i < n → P i v → J i m news → (∀ p ∈ news, p.1 ≠ I) → St (i + 1) h → Fr h₀ L h m → News h₀ L h ((I, o) :: news) →
      wpAny (model prog w) A (letOwnedTupleGo target (.ref I) v) (fun _ s₂ => wpAny (model prog w) A (assign target env v) (fun _ s₃ =>
        wpAny (model prog w) A (execs body env) (fun f s₄ => match f with
          | .next | .cont => TurnN h₀ L I o (J (i + 1)) s s₄
          | .brk => Q .next s₄
          | .ret v => Q (.ret v) s₄) NoE s₃) NoE s₂) NoE { s with heap := h, toks := tk })
    (done : ∀ m news h tk, J n m news → Fr h₀ L h m → News h₀ L h news → Q .next { s with heap := h, toks := tk }) : ForAt prog w A env target body Q (.ref I) s := by
  refine ⟨I, fp, [I], n, P, St, fun i s' => ∃ h tk m news, s' = { s with heap := h, toks := tk } ∧ Fr h₀ L h m ∧ News h₀ L h news ∧ (∀ p ∈ news, p.1 ≠ I) ∧ J i m news, rfl, W, hst, ⟨s.heap, s.toks, m₀, news₀, rfl, F, N, hIn, hj⟩, ?_, ?_⟩
  · rintro i v s₁ s' hi hP ⟨h, tk, m, news, rfl, F₁, N₁, hn, hJ⟩ hst' hS
    have hw : ∀ b ∈ [I], h₀.get? b = none := fun b hb => by rw [List.mem_singleton.mp hb]; exact hI
    have F₂ := hst'.fr F₁ (fun q => hIL (List.mem_singleton.mp q).symm) hw
    have N₂ := hst'.news N₁ (fun p hp q => hn p hp (List.mem_singleton.mp q))
    obtain ⟨h', tk', rfl, hk⟩ := hst'
    obtain ⟨o, ho⟩ := hlive _ _ hS
    have N₃ : News h₀ L h' ((I, o) :: news) := fun p hp => by
      rcases List.mem_cons.mp hp with rfl | hp
      · exact ⟨ho, hIL, hI⟩
      · exact N₂ p hp
    refine wpAny_mono (turn i v m news h' tk' o hi hP hJ hn hS F₂ N₃) (fun _ s₂ h₂ => wpAny_mono h₂ (fun _ s₃ h₃ => wpAny_mono h₃ (fun f s₄ h₄ => ?_) fun _ _ e => e) fun _ _ e => e) fun _ _ e => e
    have fin : TurnN h₀ L I o (J (i + 1)) s s₄ → (∃ h tk m news, s₄ = { s with heap := h, toks := tk } ∧ Fr h₀ L h m ∧ News h₀ L h news ∧ (∀ p ∈ news, p.1 ≠ I) ∧ J (i + 1) m news) ∧ St (i + 1) s₄.heap := by
      rintro ⟨h₅, tk₄, m₄, news₄, rfl, F₄, N₄, hn₄, hJ₄⟩
      refine ⟨⟨h₅, tk₄, m₄, news₄, rfl, F₄, fun p hp => N₄ p (.tail _ hp), hn₄, hJ₄⟩, W.frame _ _ _ hS fun b hb ob hob => ?_⟩
      rcases hfp b hb with rfl | ⟨q, hq⟩ | ⟨q, hq⟩
      · have e1 : h'.get? b = some o := ho
        have e2 : h'.get? b = some ob := hob
        rw [e1] at e2
        exact ((N₄ _ (.head _)).1).trans e2
      · have e1 : h'.get? b = some q := F₂.keep b q hq
        have e2 : h'.get? b = some ob := hob
        rw [e1] at e2
        exact (F₄.keep b q hq).trans e2
      · have e1 : h'.get? b = some q := (N₃ _ (.tail _ (hkept _ _ _ hJ _ hq))).1
        have e2 : h'.get? b = some ob := hob
        rw [e1] at e2
        exact ((N₄ _ (.tail _ (hkept _ _ _ hJ₄ _ hq))).1).trans e2
    cases f with
    | next => exact fin h₄
    | cont => exact fin h₄
    | brk => exact h₄
    | ret v => exact h₄
  · rintro s₁ s' ⟨h, tk, m, news, rfl, F₁, N₁, hn, hJ⟩ hst'
    have hw : ∀ b ∈ [I], h₀.get? b = none := fun b hb => by rw [List.mem_singleton.mp hb]; exact hI
    have F₂ := hst'.fr F₁ (fun q => hIL (List.mem_singleton.mp q).symm) hw
    have N₂ := hst'.news N₁ (fun p hp q => hn p hp (List.mem_singleton.mp q))
    obtain ⟨h', tk', rfl, hk⟩ := hst'
    exact done m news h' tk' hJ F₂ N₂

theorem for_list {h₀ : Heap} {L l : Addr} {items : Array Value} {target : Expr} {body : List Stmt} {m₀ : Str → Option Value} {news₀ : List (Addr × Obj)} (hh : A.handled = none) (hl : h₀.IsList l items)
    (F : Fr h₀ L s.heap m₀) (N : News h₀ L s.heap news₀) (J : Nat → (Str → Option Value) → List (Addr × Obj) → Prop) (hj : J 0 m₀ news₀)
    (turn : ∀ I i v m news h tk o, items[i]? = some v → J i m news → (∀ p ∈ news, p.1 ≠ I) → h.IsListIter I l (i + 1) → Fr h₀ L h m → News h₀ L h ((I, o) :: news) →
      wpAny (model prog w) A (letOwnedTupleGo target (.ref I) v) (fun _ s₂ => wpAny (model prog w) A (assign target env v) (fun _ s₃ =>
        wpAny (model prog w) A (execs body env) (fun f s₄ => match f with
          | .next | .cont => TurnN h₀ L I o (J (i + 1)) s s₄
          | .brk => Q .next s₄
          | .ret v => Q (.ret v) s₄) NoE s₃) NoE s₂) NoE { s with heap := h, toks := tk })
    (done : ∀ m news h tk, J items.size m news → Fr h₀ L h m → News h₀ L h news → Q .next { s with heap := h, toks := tk }) :
    wpAny (model prog w) A (pyIter (.ref l)) (fun it s₂ => ForAt prog w A env target body Q it s₂) NoE s := by
  have hls : s.heap.IsList l items := hl.at fun o e => F.keep l o e
  have hlL : l ≠ s.heap.objs.size := by obtain ⟨ol, hol, _⟩ := hls; exact Nat.ne_of_lt (Heap.lt_size hol)
  have hl0 : ∃ q, h₀.get? l = some q := by obtain ⟨ol, hol, _⟩ := hl; exact ⟨ol, hol⟩
  refine wpAny_pyIter_list hls ?_
  have hin : ∀ p ∈ news₀, p.1 ≠ s.heap.objs.size := fun p hp => Nat.ne_of_lt (Heap.lt_size (N p hp).1)
  refine loopN (s := { s with heap := s.heap.push { cls := .type "list_iterator", data := .fields #[.ref l, .int 0 0] } }) (Walks.list hh s.heap.objs.size l hlL items) [] ?_ (fresh_none F (Nat.le_refl _)) (Nat.ne_of_gt F.ns.lt) ?_ (F.push _)
    (fun p hp => ⟨Heap.get?_push_of_some _ (N p hp).1, (N p hp).2⟩) hin ⟨⟨_, Heap.get?_push_size _ rfl, rfl, rfl⟩, hls.push _⟩ J (fun _ _ _ _ _ h => absurd h (List.not_mem_nil)) hj ?_ done
  · intro b hb
    rcases List.mem_cons.mp hb with e | hb
    · exact .inl e
    · rw [List.mem_singleton.mp hb]; exact .inr (.inl hl0)
  · rintro i h ⟨⟨o, ho, _⟩, _⟩
    exact ⟨o, ho⟩
  · intro i v m news h tk o _ hP hJ hn hS F₁ N₁
    exact turn _ i v m news h tk o hP hJ hn hS.1 F₁ N₁

theorem for_range {h₀ : Heap} {L r : Addr} {a₀ b₀ c₀ : Int} {t₀ u₀ v₀ : Tok} {n : Nat} {x : Str} {px : Pos} {body : List Stmt} {m₀ : Str → Option Value} {news₀ : List (Addr × Obj)} (hh : A.handled = none)
    (hr : IsRange s.heap r a₀ b₀ c₀ t₀ u₀ v₀) (hsmall : Builtin.Range.small a₀ b₀ c₀ = true) (hn : Builtin.Range.rangeSize a₀ b₀ c₀ = (n : Int))
    (F : Fr h₀ L s.heap m₀) (N : News h₀ L s.heap news₀) (J : Nat → (Str → Option Value) → List (Addr × Obj) → Prop) (hj : J 0 m₀ news₀)
    (turn : ∀ I i t m news h tk o, i < n → J i m news → (∀ p ∈ news, p.1 ≠ I) → Fr h₀ L h m → News h₀ L h ((I, o) :: news) →
      wpAny (model prog w) A (assign (.Name x px) env (.int (a₀ + (i : Int) * c₀) t)) (fun _ s₃ =>
        wpAny (model prog w) A (execs body env) (fun f s₄ => match f with
          | .next | .cont => TurnN h₀ L I o (J (i + 1)) s s₄
          | .brk => Q .next s₄
          | .ret v => Q (.ret v) s₄) NoE s₃) NoE { s with heap := h, toks := tk })
    (done : ∀ m news h tk, J n m news → Fr h₀ L h m → News h₀ L h news → Q .next { s with heap := h, toks := tk }) :
    wpAny (model prog w) A (pyIter (.ref r)) (fun it s₂ => ForAt prog w A env (.Name x px) body Q it s₂) NoE s := by
  refine wpAny_pyIter_range hr hsmall ?_
  have hin : ∀ p ∈ news₀, p.1 ≠ s.heap.objs.size := fun p hp => Nat.ne_of_lt (Heap.lt_size (N p hp).1)
  refine loopN (s := { s with heap := s.heap.push { cls := .type "range_iterator", data := .fields #[rawInt a₀, rawInt (Builtin.Range.rangeSize a₀ b₀ c₀), rawInt c₀] } }) (Walks.range hh s.heap.objs.size a₀ c₀ n) [] ?_ (fresh_none F (Nat.le_refl _)) (Nat.ne_of_gt F.ns.lt) ?_ (F.push _)
    (fun p hp => ⟨Heap.get?_push_of_some _ (N p hp).1, (N p hp).2⟩) hin (by show IsRangeIter _ _ _ _ _; rw [hn]; simpa using Heap.get?_push_size _ rfl) J (fun _ _ _ _ _ h => absurd h (List.not_mem_nil)) hj ?_ done
  · intro b hb
    exact .inl (List.mem_singleton.mp hb)
  · intro i h ho
    exact ⟨_, ho⟩
  · rintro i v m news h tk o hi ⟨t, rfl⟩ hJ hn hS F₁ N₁
    exact wpAny_of_eq (a := ()) rfl (turn _ i t m news h tk o hi hJ hn F₁ N₁)

theorem for_tuple {h₀ : Heap} {L tp : Addr} {items : Array Value} {nt : Nat} {x : Str} {px : Pos} {body : List Stmt} {m₀ : Str → Option Value} {news₀ : List (Addr × Obj)} (hh : A.handled = none)
    (ht : (tp, ({ cls := .type "tuple", data := .seq items nt } : Obj)) ∈ news₀) (F : Fr h₀ L s.heap m₀) (N : News h₀ L s.heap news₀) (J : Nat → (Str → Option Value) → List (Addr × Obj) → Prop)
    (hkept : ∀ i m news, J i m news → (tp, ({ cls := .type "tuple", data := .seq items nt } : Obj)) ∈ news) (hj : J 0 m₀ news₀)
    (turn : ∀ I i v m news h tk o, items[i]? = some v → J i m news → (∀ p ∈ news, p.1 ≠ I) → Fr h₀ L h m → News h₀ L h ((I, o) :: news) →
      wpAny (model prog w) A (assign (.Name x px) env v) (fun _ s₃ =>
        wpAny (model prog w) A (execs body env) (fun f s₄ => match f with
          | .next | .cont => TurnN h₀ L I o (J (i + 1)) s s₄
          | .brk => Q .next s₄
          | .ret v => Q (.ret v) s₄) NoE s₃) NoE { s with heap := h, toks := tk })
    (done : ∀ m news h tk, J items.size m news → Fr h₀ L h m → News h₀ L h news → Q .next { s with heap := h, toks := tk }) :
    wpAny (model prog w) A (pyIter (.ref tp)) (fun it s₂ => ForAt prog w A env (.Name x px) body Q it s₂) NoE s := by
  have hts : s.heap.IsTuple tp items := ⟨_, (N _ ht).1, rfl, _, rfl⟩
  have htL : tp ≠ s.heap.objs.size := Nat.ne_of_lt (Heap.lt_size (N _ ht).1)
  refine wpAny_pyIter_tuple hts ?_
  have hin : ∀ p ∈ news₀, p.1 ≠ s.heap.objs.size := fun p hp => Nat.ne_of_lt (Heap.lt_size (N p hp).1)
  refine loopN (s := { s with heap := s.heap.push { cls := .type "tuple_iterator", data := .fields #[.ref tp, .int 0 0] } }) (Walks.tuple hh s.heap.objs.size tp htL items) [(tp, { cls := .type "tuple", data := .seq items nt })] ?_ (fresh_none F (Nat.le_refl _)) (Nat.ne_of_gt F.ns.lt) ?_ (F.push _)
    (fun p hp => ⟨Heap.get?_push_of_some _ (N p hp).1, (N p hp).2⟩) hin ⟨⟨_, Heap.get?_push_size _ rfl, rfl, rfl⟩, hts.at fun o e => Heap.get?_push_of_some _ e⟩ J (fun i m news hJ p hp => by rw [List.mem_singleton.mp hp]; exact hkept i m news hJ) hj ?_ done
  · intro b hb
    rcases List.mem_cons.mp hb with e | hb
    · exact .inl e
    · rw [List.mem_singleton.mp hb]; exact .inr (.inr ⟨_, .head _⟩)
  · rintro i h ⟨⟨o, ho, _⟩, _⟩
    exact ⟨o, ho⟩
  · intro i v m news h tk o _ hP hJ hn hS F₁ N₁
    exact wpAny_of_eq (a := ()) rfl (turn _ i v m news h tk o hP hJ hn F₁ N₁)

def WhileEnd (I : Nat → Shared → Prop) (n : Nat) (s : Shared) : Prop := ∃ m, m < n ∧ I m s
theorem while_rule {test : Expr} {body : List Stmt} {pos : Pos} (I : Nat → Shared → Prop)
    (turn : ∀ n s, I n s → wpAny (model prog w) A (isTrue test env (eval test env)) (fun b s₂ =>
        if b then wpAny (model prog w) A (execs body env) (fun f s₃ => match f with
            | .next | .cont => WhileEnd I n s₃
            | .brk => Q .next s₃
            | .ret v => Q (.ret v) s₃) NoE s₂
        else Q .next s₂) NoE s)
    (n : Nat) (h : I n s) : wpAny (model prog w) A (exec (.While test body [] pos) env) Q NoE s := by
  refine wpAny_While (codeAny_whileLoop I (fun n s hI => wpAny_mono (turn n s hI) (fun b s₂ h₂ => ?_) fun _ _ e => e.elim) n h)
  cases b with
  | true => exact wpAny_mono h₂ (fun f s₃ h₃ => by cases f <;> exact h₃) fun _ _ e => e.elim
  | false => exact wpAny_execs_nil h₂
end

abbrev lst (vs : List Value) (n : Nat) : Obj := { cls := .type "list", data := .seq vs.toArray n }

theorem item_lst {prog : Program} {w : World} {A : Around} {s : Shared} {E : Value → Shared → Prop} {Q : Value → Shared → Prop} {value slice : Expr} {t : Addr} {vs : List Value} {k : Int} {u : Tok} {x : Value}
    (hl : s.heap.IsList t vs.toArray) (h0 : 0 ≤ k) (hk : k < 2 ^ 62) (hx : vs[k.toNat]? = some x) (h : Q x s)
    (hs : subscripted slice false (.ref t) (.int k u) = operate [.ref t, .int k u] (getItem (.ref t) (.int k u)) := by with_unfolding_all rfl) :
    wpAny (model prog w) A (subscriptTail value slice (.ref t) (.int k u)) Q E s :=
  tail_any hl.typeIs slot_list_getitem.lookup (wpAny_getItem_list hl h0 (by omega) (by simpa using hx) h) hs

theorem fdiv2 (n : Nat) : Int.fdiv (n : Int) 2 = ((n / 2 : Nat) : Int) := by
  rw [Int.fdiv_eq_ediv_of_nonneg _ (by decide)]; rfl

theorem seqIndex_nat {k n : Nat} (h : k < n) : seqIndex? (k : Int) n = some k := by
  unfold seqIndex?
  have h1 : ¬ ((k : Int) < 0) := by omega
  simp only [if_neg h1, Int.toNat_natCast]
  rw [if_pos (by simp; omega)]

theorem item_at {prog : Program} {w : World} {A : Around} {s : Shared} {E : Value → Shared → Prop} {Q : Value → Shared → Prop} {h₀ : Heap} {L : Addr} {m : Str → Option Value} {value slice : Expr} {t : Addr} {vs : List Value} {k : Nat} {u : Tok} {x : Value}
    (F : Fr h₀ L s.heap m) (ht : IsTup h₀ t vs.toArray) (hk : k < 2 ^ 62) (hx : vs[k]? = some x) (h : Q x s)
    (hs : subscripted slice false (.ref t) (.int (k : Int) u) = operate [.ref t, .int (k : Int) u] (getItem (.ref t) (.int (k : Int) u)) := by with_unfolding_all rfl) (hg : ∀ r, letTemporaryGo value (.ref t) r = pure () := by intro _; with_unfolding_all rfl) :
    wpAny (model prog w) A (subscriptTail value slice (.ref t) (.int (k : Int) u)) Q E s :=
  item_tuple (ht.keeps F.keep) (by omega) (by omega) (by simpa using seqIndex_nat (List.getElem?_eq_some_iff.mp hx).1) (by simpa using hx) h hs hg

end Mine
end

/-! part C1 -/
section
open PySem PySem.W PyProof.Rows
namespace Mine

inductive Cell where
  | s (x : Str)
  | i (n : Int)
def Cell.Is : Cell → Value → Prop
  | .s x, v => ∃ t, v = .str x t
  | .i n, v => ∃ t, v = .int n t
def Cell.lt : Cell → Cell → Bool
  | .s x, .s y => decide (x.cps.toList < y.cps.toList)
  | .i a, .i b => decide (a < b)
  | _, _ => false
def Cell.alike : Cell → Cell → Bool
  | .s _, .s _ => true
  | .i _, .i _ => true
  | _, _ => false
/-- a tuple whose items are these cells -/
def TupAt (h : Heap) (a : Addr) (cs : List Cell) : Prop :=
  ∃ vs : List Value, IsTup h a vs.toArray ∧ vs.length = cs.length ∧ ∀ (i : Nat) (c : Cell), cs[i]? = some c → ∃ v, vs[i]? = some v ∧ Cell.Is c v
theorem TupAt.keeps {h h' : Heap} {a : Addr} {cs : List Cell} (x : TupAt h a cs) (k : ∀ o, h.get? a = some o → h'.get? a = some o) : TupAt h' a cs := by
  obtain ⟨vs, ⟨o, ho, r⟩, y⟩ := x
  exact ⟨vs, ⟨o, k _ ho, r⟩, y⟩

def cmpL : List (Nat × Int) → List Cell → List Cell → Int
  | [], _, _ => 0
  | (i, d) :: r, a, b => match a[i]?, b[i]? with
    | some x, some y => if x.lt y then -d else if y.lt x then d else cmpL r a b
    | _, _ => 0

structure OrderAt (h : Heap) (o : Addr) (ps : List (Nat × Int)) (d l : Addr) (hs : Int) (tk : Tok) (n : Nat) (items : List Value) : Prop where
  inst : h.get? o = some (instObj 38 d)
  dict : h.get? d = some (dictOf [⟨hs, .str "comp_select_list" tk, .ref l⟩] n)
  list : h.IsList l items.toArray
  len : items.length = ps.length
  tups : ∀ (i : Nat) (p : Nat × Int), ps[i]? = some p → ∃ a, items[i]? = some (Value.ref a) ∧ TupAt h a [Cell.i (p.1 : Int), Cell.i p.2]

theorem OrderAt.keeps {h h' : Heap} {o : Addr} {ps : List (Nat × Int)} {d l : Addr} {hs : Int} {tk : Tok} {n : Nat} {items : List Value} (x : OrderAt h o ps d l hs tk n items)
    (k : ∀ b o, h.get? b = some o → h'.get? b = some o) : OrderAt h' o ps d l hs tk n items :=
  ⟨k _ _ x.inst, k _ _ x.dict, x.list.at fun o e => k _ _ e, x.len, fun i p e => let ⟨a, e1, e2⟩ := x.tups i p e; ⟨a, e1, e2.keeps fun o e => k _ _ e⟩⟩


theorem alike_lt {x y : Cell} (h : x.alike y = true) : (∃ a b, x = .s a ∧ y = .s b) ∨ (∃ a b, x = .i a ∧ y = .i b) := by
  cases x <;> cases y <;> simp_all [Cell.alike]

theorem order_list {prog : Program} {w : World} {A : Around} {s : Shared} {mg mb : Str → Option Value} {E : Value → Shared → Prop} {Q : Value → Shared → Prop} {o : Addr} {ps : List (Nat × Int)} {d l : Addr} {hs : Int} {tk : Tok} {n : Nat} {items : List Value} {h₀ : Heap} {L : Addr} {m : Str → Option Value}
    (g : G w mg mb h₀) (F : Fr h₀ L s.heap m) (O : OrderAt s.heap o ps d l hs tk n items) (h : Q (.ref l) { s with toks := s.toks + 1 }) : wpAny (model prog w) A (getAttr (.ref o) "comp_select_list" true) Q E s := by
  have I₁ : PySem.W.InstAt s.heap o (instObj 38 d) 38 (some (dictOf [⟨hs, .str "comp_select_list" tk, .ref l⟩] n)) := ⟨O.inst, rfl, rfl, O.dict⟩
  refine get_own (attr := none) (v := .ref l) F g.k I₁ (by kernel_rfl) (by kernel_rfl) (by kernel_rfl) (by kernel_rfl) (by k_get) (by k_handed) h

theorem cmpL_step {p : Nat × Int} {r : List (Nat × Int)} {ca cb : List Cell} {x y : Cell} (hx : ca[p.1]? = some x) (hy : cb[p.1]? = some y) :
    cmpL (p :: r) ca cb = if x.lt y then -p.2 else if y.lt x then p.2 else cmpL r ca cb := by
  obtain ⟨p1, p2⟩ := p
  simp only [cmpL, hx, hy]

theorem compare_spec {prog : Program} {w : World} {A : Around} {s : Shared} {mg mb : Str → Option Value} {R : Result → Shared → Prop} {o a b : Addr} {ps : List (Nat × Int)} {d l : Addr} {hs : Int} {tk : Tok} {n : Nat} {items : List Value} {ca cb : List Cell}
    (g : G w mg mb s.heap) (hroom : A.depth < recursionLimit) (hh : A.handled = none) (O : OrderAt s.heap o ps d l hs tk n items) (ha : TupAt s.heap a ca) (hb : TupAt s.heap b cb)
    (hlen : ca.length ≤ 64)
    (hok : ∀ p ∈ ps, ∃ x y, ca[p.1]? = some x ∧ cb[p.1]? = some y ∧ x.alike y = true)
    (hR : ∀ s' t, Stays [] s s' → R (.ok (.ret (.int (cmpL ps ca cb) t))) s') :
    codeAny (model prog w) A (.call (.ref 35) ⟨[.ref o, .ref a, .ref b], []⟩) R s := by
  refine enter (binds := [("self", .ref o), ("left", .ref a), ("right", .ref b)]) g rfl (by kernel_rfl) hroom (BindsTo.of_eq rfl) (locs rfl) ?_ 
  intro h₁ F
  have kX := g.k
  have kT := g.t
  refine wpAny_execs_cons (for_rule ?_)
  refine Attribute_Name_ (ld F rfl ?_)
  refine order_list g F (O.keeps F.keep) ?_
  refine for_list hh O.list F News.nil (fun i m _ => (∃ u, m = pin [("left", .ref a), ("right", .ref b)] u) ∧ cmpL (ps.drop i) ca cb = cmpL ps ca cb)
    ⟨⟨_, pin_cons rfl (pin_cons rfl (pin_nil _))⟩, rfl⟩ ?turn ?done
  case done =>
    intro m news h tk' ⟨_, hc⟩ F₁ N₁
    k_steps
    rw [← hc, List.drop_of_length_le (by simp [O.len])] at hR
    exact hR _ _ (Stays.of F₁.keep)
  case turn =>
    intro I i v m news h tk' o' hP ⟨⟨u, hm⟩, hc⟩ hn hS F₁ N₁
    subst hm
    have hips : i < ps.length := by have := O.len; have := (List.getElem?_eq_some_iff.mp (by simpa using hP)).1; omega
    obtain ⟨t, ht1, T2⟩ := O.tups i ps[i] (by simp [hips])
    obtain ⟨vt, hvt, hvl, hvc⟩ := T2.keeps (F₁.keep t)
    obtain rfl : v = .ref t := by simp [ht1] at hP; exact hP.symm
    refine wpAny_letOwnedTupleGo_listiter hS ?_
    obtain ⟨v0, e0, t0, rfl⟩ := hvc 0 (.i (ps[i].1 : Int)) rfl
    obtain ⟨v1, e1, t1, rfl⟩ := hvc 1 (.i ps[i].2) rfl
    obtain rfl : vt = [.int (ps[i].1 : Int) t0, .int ps[i].2 t1] := by
      match vt, hvl with
      | [x, y], _ => simp at e0 e1; rw [e0, e1]
    obtain ⟨x, y, hx, hy, hxy⟩ := hok ps[i] (List.getElem_mem hips)
    obtain ⟨va, hva, hal, hac⟩ := ha
    obtain ⟨vb, hvb, hbl, hbc⟩ := hb
    obtain ⟨vx, hvx, cx⟩ := hac _ _ hx
    obtain ⟨vy, hvy, cy⟩ := hbc _ _ hy
    have hp64 : ps[i].1 < 64 := by have := (List.getElem?_eq_some_iff.mp hx).1; omega
    have hga : ps[i].1 < va.length := (List.getElem?_eq_some_iff.mp hvx).1
    have hgb : ps[i].1 < vb.length := (List.getElem?_eq_some_iff.mp hvy).1
    have hcl : cmpL (ps.drop i) ca cb = if x.lt y then -ps[i].2 else if y.lt x then ps[i].2 else cmpL (ps.drop (i + 1)) ca cb := by
      rw [List.drop_eq_getElem_cons hips, cmpL_step hx hy]
    refine unpackN_ F₁ N₁ hvt hh rfl rfl fun h₂ F₃ N₃ => ?_
    rcases alike_lt hxy with ⟨xa, ya, rfl, rfl⟩ | ⟨xa, ya, rfl, rfl⟩
    all_goals
      obtain ⟨tx, rfl⟩ := cx
      obtain ⟨ty, rfl⟩ := cy
      k_steps
      (rename Fr _ _ _ _ => F₅); refine item_at F₅ hva (by omega) hvx ?_
      k_steps
      (rename Fr _ _ _ _ => F₆); refine item_at F₆ hvb (by omega) hvy ?_
      k_steps
      · (rename Fr _ _ _ _ => F₇)
        rw [hcl, if_pos (by simp only [Cell.lt, decide_eq_true_eq]; assumption)] at hc
        rw [← hc] at hR
        exact hR _ _ (Stays.of F₇.keep)
      · (rename Fr _ _ _ _ => F₇)
        rw [hcl, if_neg (by simp only [Cell.lt, decide_eq_true_eq]; assumption), if_pos (by simp only [Cell.lt, decide_eq_true_eq]; assumption)] at hc
        rw [← hc] at hR
        exact hR _ _ (Stays.of F₇.keep)
      · (rename Fr _ _ _ _ => F₇)
        (rename News _ _ _ _ => N₇)
        rw [hcl, if_neg (by simp only [Cell.lt, decide_eq_true_eq]; assumption), if_neg (by simp only [Cell.lt, decide_eq_true_eq]; assumption)] at hc
        exact ⟨_, _, _, _, rfl, F₇, N₇, hn, ⟨_, pin_cons rfl (pin_cons rfl (pin_nil _))⟩, hc⟩

/-- the values of a list of rows -/
def RowsAt (c : Nat → List Cell) (h : Heap) : List Value → List Nat → Prop
  | [], [] => True
  | v :: vs, k :: ks => (∃ a, v = .ref a ∧ TupAt h a (c k)) ∧ RowsAt c h vs ks
  | _, _ => False
theorem RowsAt.keeps {c : Nat → List Cell} {h h' : Heap} (hk : ∀ b o, h.get? b = some o → h'.get? b = some o) : ∀ {vs : List Value} {ks : List Nat}, RowsAt c h vs ks → RowsAt c h' vs ks
  | [], [], _ => trivial
  | _ :: _, _ :: _, ⟨⟨a, e, x⟩, r⟩ => ⟨⟨a, e, x.keeps fun o q => hk _ _ q⟩, RowsAt.keeps hk r⟩
theorem RowsAt.length {c : Nat → List Cell} {h : Heap} : ∀ {vs : List Value} {ks : List Nat}, RowsAt c h vs ks → vs.length = ks.length
  | [], [], _ => rfl
  | _ :: _, _ :: _, ⟨_, r⟩ => by simp [RowsAt.length r]
theorem RowsAt.get {c : Nat → List Cell} {h : Heap} : ∀ {vs : List Value} {ks : List Nat}, RowsAt c h vs ks → ∀ (i : Nat) (k : Nat), ks[i]? = some k → ∃ a, vs[i]? = some (.ref a) ∧ TupAt h a (c k)
  | [], [], _, i, k, e => by simp at e
  | _ :: _, _ :: _, ⟨⟨a, e, x⟩, _⟩, 0, k, q => by simp at q; subst q; exact ⟨a, by simp [e], x⟩
  | _ :: _, _ :: _, ⟨_, r⟩, i + 1, k, q => by simpa using RowsAt.get r i k (by simpa using q)
theorem RowsAt.append {c : Nat → List Cell} {h : Heap} {vs' : List Value} {ks' : List Nat} (y : RowsAt c h vs' ks') : ∀ {vs : List Value} {ks : List Nat}, RowsAt c h vs ks → RowsAt c h (vs ++ vs') (ks ++ ks')
  | [], [], _ => y
  | _ :: _, _ :: _, ⟨x, r⟩ => ⟨x, RowsAt.append y r⟩

end Mine
end

/-! part P0 -/
section
namespace Mine
/-- the operators of the law's own row, as codes -/
def ops : List (List Nat) := [[40], [41], [91], [93], [58], [44], [59], [43], [45], [42], [47], [124], [38], [60], [62], [61], [46], [37], [123], [125],
  [61, 61], [33, 61], [60, 61], [62, 61], [126], [94], [60, 60], [62, 62], [42, 42], [43, 61], [45, 61], [42, 61], [47, 61], [37, 61], [38, 61], [124, 61], [94, 61],
  [60, 60, 61], [62, 62, 61], [42, 42, 61], [47, 47], [47, 47, 61], [64], [64, 61], [45, 62], [46, 46, 46], [58, 61], [33]]
def opNames : List PySem.Str := ops.map fun l => ⟨l.toArray⟩

def cand (t : List Nat) (R : List (List Int)) (z : Nat) : Option (List Int) :=
  if z ≤ R.length ∧ t.take z ∈ ops then some ((7 + (ops.idxOf (t.take z) : Int)) :: R.getD (z - 1) []) else none
def better : Option (List Int) → Option (List Int) → Option (List Int)
  | b, none => b
  | none, some c => some c
  | some b, some c => if c.length < b.length then some c else some b
def bests (t : List Nat) (R : List (List Int)) (zs : List Nat) : Option (List Int) := zs.foldl (fun b z => better b (cand t R z)) none
def rests : List Nat → List (List Int)
  | [] => [[]]
  | c :: t => ((bests (c :: t) (rests t) [3, 2, 1]).getD []) :: rests t
def fewest (t : List Nat) : List Int := (rests t).headD []

theorem rests_length : ∀ t, (rests t).length = t.length + 1
  | [] => rfl
  | _ :: t => by simp [rests, rests_length t]
theorem bests_mem {t : List Nat} {R : List (List Int)} {b : List Int} : ∀ (zs : List Nat) (o : Option (List Int)), zs.foldl (fun b z => better b (cand t R z)) o = some b → o = some b ∨ ∃ z ∈ zs, cand t R z = some b
  | [], o, h => .inl h
  | z :: zs, o, h => by
    rcases bests_mem zs _ h with e | ⟨z', hz', e⟩
    · replace e : better o (cand t R z) = some b := e
      cases hc : cand t R z with
      | none => rw [hc] at e; cases o <;> exact .inl e
      | some c =>
        rw [hc] at e
        cases o with
        | none => exact .inr ⟨z, .head _, hc.trans e⟩
        | some o =>
          simp only [better] at e
          split at e
          · exact .inr ⟨z, .head _, hc.trans e⟩
          · exact .inl e
    · exact .inr ⟨z', .tail _ hz', e⟩
theorem bests_le {t : List Nat} {R : List (List Int)} {n : Nat} {b : List Int} {zs : List Nat} (hR : ∀ (i : Nat) (r : List Int), R[i]? = some r → r.length + i ≤ n) (hz : ∀ z ∈ zs, 1 ≤ z) (h : bests t R zs = some b) : b.length ≤ n + 1 := by
  rcases bests_mem _ _ h with e | ⟨z, hz', e⟩
  · cases e
  · unfold cand at e
    split at e
    · rename_i hc
      cases e
      have h1 := hz z hz'
      have hz0 : z - 1 < R.length := by omega
      have := hR (z - 1) (R.getD (z - 1) []) (by rw [List.getD_eq_getElem?_getD, List.getElem?_eq_getElem hz0]; rfl)
      simp only [List.length_cons]; omega
    · cases e
theorem better_some (o : Option (List Int)) (c : List Int) : ∃ b, better o (some c) = some b := by
  cases o with
  | none => exact ⟨c, rfl⟩
  | some q => simp only [better]; split <;> exact ⟨_, rfl⟩
theorem bests_some {t : List Nat} {R : List (List Int)} (h : cand t R 1 ≠ none) : ∃ b, bests t R [3, 2, 1] = some b := by
  obtain ⟨c, hc⟩ := Option.ne_none_iff_exists'.mp h
  show ∃ b, better _ (cand t R 1) = some b
  rw [hc]
  exact better_some _ c
theorem rests_head (t : List Nat) : ∃ r, rests t = fewest t :: r := by
  cases t with
  | nil => exact ⟨[], rfl⟩
  | cons c t => exact ⟨rests t, rfl⟩
theorem rests_le : ∀ (t : List Nat) (i : Nat) (r : List Int), (rests t)[i]? = some r → r.length + i ≤ t.length
  | [], i, r, h => by
    cases i with
    | zero => simp [rests] at h; subst h; exact Nat.le_refl _
    | succ i => simp [rests] at h
  | c :: t, i, r, h => by
    cases i with
    | succ i =>
      have := rests_le t i r (by simpa [rests] using h)
      simp; omega
    | zero =>
      simp only [rests, List.getElem?_cons_zero, Option.some.injEq] at h
      cases hb : bests (c :: t) (rests t) [3, 2, 1] with
      | none => rw [hb] at h; subst h; simp
      | some b =>
        rw [hb] at h
        simp only [Option.getD_some] at h
        subst h
        have := bests_le (n := t.length) (fun i r h => rests_le t i r h) (by decide) hb
        simpa using this
end Mine
end

/-! part P1 -/
section
namespace Mine
/-- the rows of EXACT_TOKEN_TYPES: the sign's codes, the number -/
def tab : List (List Nat × Int) := [([33], 54), ([33, 61], 28), ([37], 24), ([37, 61], 40), ([38], 19), ([38, 61], 41), ([40], 7), ([41], 8), ([42], 16), ([42, 42], 35), ([42, 42, 61], 46), ([42, 61], 38),
  ([43], 14), ([43, 61], 36), ([44], 12), ([45], 15), ([45, 61], 37), ([45, 62], 51), ([46], 23), ([46, 46, 46], 52), ([47], 17), ([47, 47], 47), ([47, 47, 61], 48), ([47, 61], 39), ([58], 11), ([58, 61], 53),
  ([59], 13), ([60], 20), ([60, 60], 33), ([60, 60, 61], 44), ([60, 61], 29), ([61], 22), ([61, 61], 27), ([62], 21), ([62, 61], 30), ([62, 62], 34), ([62, 62, 61], 45), ([64], 49), ([64, 61], 50), ([91], 9), ([93], 10),
  ([94], 32), ([94, 61], 43), ([123], 25), ([124], 18), ([124, 61], 42), ([125], 26), ([126], 31)]
def sgn (k : Nat) : List Nat := (tab.getD k ([], 0)).1
def num (k : Nat) : Int := (tab.getD k ([], 0)).2
def fits (t : List Nat) (at' : Nat) (k : Nat) : Bool := decide ((t.drop at').take (sgn k).length = sgn k)
def readF (t : List Nat) (ks : List Nat) : Nat → Nat → Option (List Int)
  | 0, _ => none
  | n + 1, at' => if at' < t.length then
      match ks.filter (fits t at') with
      | [] => none
      | k :: _ => (readF t ks n (at' + (sgn k).length)).map (num k :: ·)
    else some []
end Mine
end

/-! part X1 -/
section
open PySem PySem.W PyProof.Rows
namespace Mine

def mkS (l : List Nat) : Str := ⟨l.toArray⟩
theorem mkS_inj {a b : List Nat} (h : mkS a = mkS b) : a = b := by
  have := congrArg (fun x : Str => x.cps.toList) h
  simpa [mkS] using this
theorem mkS_beq (a b : List Nat) : (mkS a == mkS b) = decide (a = b) := by
  by_cases h : a = b
  · subst h; simp
  · have : mkS a ≠ mkS b := fun e => h (mkS_inj e)
    simp [h, this]
theorem any_ops (l : List Nat) (L : List (List Nat)) : ((L.map mkS).any (· == mkS l)) = decide (l ∈ L) := by
  induction L with
  | nil => simp
  | cons a r ih =>
    simp only [List.map_cons, List.any_cons, ih, mkS_beq, List.mem_cons]
    by_cases h1 : a = l
    · simp [h1]
    · simp [h1, show ¬ l = a from fun e => h1 e.symm]

theorem slice_in {x : Str} {a z : Nat} (h : a + z ≤ x.cps.toList.length) : Txt.slice x (some (a : Int)) (some ((a : Int) + (z : Int))) = mkS ((x.cps.toList.drop a).take z) := by
  have := StrLaws.sliceText_nat x (a := a) (b := a + z) (by omega) (by simpa [Str.length] using h)
  rw [Nat.add_sub_cancel_left] at this
  rw [← Int.natCast_add]
  exact this

theorem slice_past {x : Str} {a b : Nat} (h : x.length ≤ b) : Txt.slice x (some (a : Int)) (some (b : Int)) = Txt.slice x (some (a : Int)) (some (x.length : Int)) := by
  have e : PySem.Builtin.Str.strSliceIndices (some (a : Int)) (some (b : Int)) 1 x.length = PySem.Builtin.Str.strSliceIndices (some (a : Int)) (some (x.length : Int)) 1 x.length := by
    have h1 : ¬ ((b : Int) < 0) := by omega
    have h2 : ¬ ((x.length : Int) < 0) := by omega
    have h3 : min (b : Int) (x.length : Int) = x.length := by omega
    simp [PySem.Builtin.Str.strSliceIndices, h1, h2, h3]
  unfold Txt.slice
  rw [e]
theorem slice_any {x : Str} {a z : Nat} (ha : a ≤ x.cps.toList.length) : Txt.slice x (some (a : Int)) (some ((a : Int) + (z : Int))) = mkS ((x.cps.toList.drop a).take z) := by
  by_cases h : a + z ≤ x.cps.toList.length
  · exact slice_in h
  · have hl : x.length = x.cps.toList.length := by simp [Str.length]
    rw [← Int.natCast_add, slice_past (by omega)]
    have := slice_in (x := x) (a := a) (z := x.cps.toList.length - a) (by omega)
    rw [← Int.natCast_add, show a + (x.cps.toList.length - a) = x.length by omega] at this
    rw [this]
    congr 1
    rw [List.take_of_length_le (by simp), List.take_of_length_le (by simp; simp at h; omega)]

theorem StrsAre.getS {vs : List Value} {ys : List Str} (h : StrsAre vs ys) : ∀ (i : Nat) (y : Str), ys[i]? = some y → ∃ t, vs[i]? = some (.str y t) := by
  induction h with
  | nil => intro i y e; simp at e
  | cons n t _ ih =>
    intro i y e
    cases i with
    | zero => simp at e; subst e; exact ⟨t, rfl⟩
    | succ i => simpa using ih i y (by simpa using e)

theorem index_strs {prog : Program} {w : World} {A : Around} {s : Shared} {E : Value → Shared → Prop} {Q : Value → Shared → Prop} {D : Addr} {vs : List Value} {n : Nat} {L : List (List Nat)} {l : List Nat} {t : Tok}
    (hD : s.heap.get? D = some (lst vs n)) (hi : StrsAre vs (L.map mkS)) (hl : l ∈ L) (hL : L.length ≤ 1000) (h : Q (.int (L.idxOf l : Nat) s.toks) { s with toks := s.toks + 1 }) :
    wpAny (model prog w) A (call (.builtin "list.index") [.ref D, .str (mkS l) t]) Q E s := by
  have hlen : vs.length = L.length := by rw [hi.length]; simp
  have hj : L.idxOf l < L.length := List.idxOf_lt_length_of_mem hl
  refine call_meets PySem.F.slot_list_index ⟨_, hD, rfl⟩ PySem.F.entry_list_index (PySem.F.args_list_index_2 _ _)
    (MeetsSeq.list_index D vs.toArray n (.str (mkS l) t) (isStrOf (mkS l)) (fun y hy => eq_isStrOf (mkS l) t hi y (by simpa using hy)) (L.idxOf l) (by simp; omega) (by omega) ?_ ?_) ⟨hD, h⟩
  · obtain ⟨u, hu⟩ := StrsAre.getS hi (L.idxOf l) (mkS l) (by simp [hj])
    have : vs.toArray[L.idxOf l]? = some (.str (mkS l) u) := by simpa using hu
    rw [Array.getElem?_eq_getElem (by simp; omega)] at this
    rw [Option.some.inj this]
    simp [isStrOf]
  · intro i hi' hlt
    have hil : i < L.length := by simp at hi'; omega
    obtain ⟨u, hu⟩ := StrsAre.getS hi i (mkS L[i]) (by simp [hil])
    have : vs.toArray[i]? = some (.str (mkS L[i]) u) := by simpa using hu
    rw [Array.getElem?_eq_getElem hi'] at this
    rw [Option.some.inj this]
    have hne : L[i] ≠ l := fun e => by
      have := List.not_of_lt_findIdx (p := (· == l)) (xs := L) (i := i) hlt
      simp [e] at this
    simp [isStrOf, mkS_beq, hne]

theorem mkS_append (a b : List Nat) : mkS a ++ mkS b = mkS (a ++ b) := by
  apply Str.ext'
  show (mkS a).cps ++ (mkS b).cps = _
  simp [mkS]
theorem mkS_length (a : List Nat) : (mkS a).length = a.length := by simp [mkS, Str.length]
theorem mkS_codes (a : List Nat) : (mkS a).cps.toList = a := by simp [mkS]
theorem join_mk (l : List (List Nat)) : Txt.join (Str.ofString "") (l.map mkS) = mkS l.flatten := by
  have e : Txt.join (Str.ofString "") (l.map mkS) = Str.join (Str.ofString "") (l.map mkS) := eq_of_beq (join_closes rfl)
  rw [e, show Str.ofString "" = mkS [] from by decide +kernel]
  induction l with
  | nil => show Str.empty = _; decide +kernel
  | cons a r ih =>
    have ih' := ih (eq_of_beq (join_closes rfl))
    cases r with
    | nil => simp [Str.join]
    | cons b r =>
      show mkS a ++ mkS [] ++ Str.join (mkS []) ((b :: r).map mkS) = _
      rw [ih', mkS_append, mkS_append]; simp
end Mine
end

/-! part N1 -/
section
open PySem PySem.W PyProof.Rows
namespace Mine
theorem fill_N1 (w : World) : hd.heap_39 w.params = hd.heap_39 w.params ∧ PySem.Challenge.rw_mr0172_01 = PySem.Challenge.rw_mr0172_01 := by k_fill; exact ⟨rfl, rfl⟩

theorem names_spec {prog : Program} {w : World} {A : Around} {s : Shared} {mg mb : Str → Option Value} {R : Result → Shared → Prop}
    (g : G w mg mb s.heap) (hroom : A.depth < recursionLimit) (hh : A.handled = none)
    (hR : ∀ s' b vs n, Stays [] s s' → s.heap.get? b = none → s'.heap.get? b = some (lst vs n) → StrsAre vs opNames → vs.length = 48 → R (.ok (.ret (.ref b))) s') :
    codeAny (model prog w) A (.call (.ref 52) ⟨[], []⟩) R s := by
  refine enter (binds := []) g rfl (by kernel_rfl) hroom (BindsTo.of_eq rfl) (locs rfl) ?_ 
  intro h₁ F
  have kX := g.k
  have kT := g.t
  have N : News s.heap s.heap.objs.size h₁ [] := News.nil
  k_steps
  (rename Fr _ _ _ _ => F₁); (rename News _ _ _ _ => N₁); (rename StrsAre _ _ => S₁); (rename List.map _ _ = _ => e₁)
  rw [e₁, show Txt.split _ _ = opNames from by kernel_rfl] at S₁
  exact hR _ _ _ _ (Stays.of F₁.keep) (N₁.fresh (.head _)) (N₁.get (.head _)) S₁ (by rw [S₁.length]; rfl)
end Mine
end

/-! part S1 -/
section
open PySem PySem.W PyProof.Rows
namespace Mine
theorem fill_S1 (w : World) : hd.heap_39 w.params = hd.heap_39 w.params ∧ PySem.Challenge.rw_mr0172_01 = PySem.Challenge.rw_mr0172_01 := by k_fill; exact ⟨rfl, rfl⟩

def qs (cmp : Nat → Nat → Int) : Nat → List Nat → List Nat
  | 0, _ => []
  | _ + 1, [] => []
  | n + 1, k :: ks =>
    let rs := k :: ks
    let mid := rs.getD (rs.length / 2) 0
    qs cmp n (rs.filter fun r => decide (cmp r mid < 0)) ++ (rs.filter fun r => decide (cmp r mid = 0)) ++ qs cmp n (rs.filter fun r => decide (0 < cmp r mid))

theorem eq_empty {prog : Program} {w : World} {A : Around} {s : Shared} {E : Value → Shared → Prop} {Q : Value → Shared → Prop} {l b : Addr} {vs : List Value}
    (hl : s.heap.IsList l vs.toArray) (hb : s.heap.IsList b ([] : List Value).toArray) (hu : A.units < cLine) (h : Q (.bool vs.isEmpty) s) : wpAny (model prog w) A (compareOp .Eq (.ref l) (.ref b)) Q E s := by
  cases vs with
  | nil => exact SeqAt.eq_listAt (e := fun _ => true) hl hb rfl hu (fun j h1 => absurd h1 (Nat.not_lt_zero _)) h
  | cons v vs => exact SeqAt.eq_list_lengthsAt hl hb (by simp) hu h

theorem qs_length (cmp : Nat → Nat → Int) : ∀ (n : Nat) (ks : List Nat), (qs cmp n ks).length ≤ ks.length
  | 0, _ => Nat.zero_le _
  | _ + 1, [] => Nat.le_refl _
  | n + 1, k :: ks => by
    have part : ∀ (f : Nat → Int) (l : List Nat), (l.filter fun r => decide (f r < 0)).length + (l.filter fun r => decide (f r = 0)).length + (l.filter fun r => decide (0 < f r)).length = l.length := by
      intro f l
      induction l with
      | nil => rfl
      | cons a l ih =>
        simp only [List.filter_cons]
        rcases Int.lt_trichotomy (f a) 0 with h | h | h
        · simp [h, show ¬ f a = 0 by omega, show ¬ 0 < f a by omega] at ih ⊢; omega
        · simp [h] at ih ⊢; omega
        · simp [h, show ¬ f a = 0 by omega, show ¬ f a < 0 by omega] at ih ⊢; omega
    have h1 := qs_length cmp n ((k :: ks).filter fun r => decide (cmp r ((k :: ks).getD ((k :: ks).length / 2) 0) < 0))
    have h2 := qs_length cmp n ((k :: ks).filter fun r => decide (0 < cmp r ((k :: ks).getD ((k :: ks).length / 2) 0)))
    have h3 := part (fun r => cmp r ((k :: ks).getD ((k :: ks).length / 2) 0)) (k :: ks)
    simp only [qs, List.length_append] at h1 h2 h3 ⊢
    omega

theorem OrderAt.instAt {h₀ h : Heap} {L : Addr} {m : Str → Option Value} {o : Addr} {ps : List (Nat × Int)} {d l : Addr} {hs : Int} {tk : Tok} {n : Nat} {items : List Value} (O : OrderAt h₀ o ps d l hs tk n items) (F : Fr h₀ L h m) :
    PySem.W.InstAt h o (instObj 38 d) 38 (some (dictOf [⟨hs, .str "comp_select_list" tk, .ref l⟩] n)) := ⟨F.keep _ _ O.inst, rfl, rfl, F.keep _ _ O.dict⟩
local macro_rules | `(tactic| walk_at "exec For Name Name cons nil") => `(tactic| refine for_rule ?_)
local macro_rules | `(tactic| k_inst) => `(tactic| exact OrderAt.instAt (by assumption) (by assumption))

theorem sorted_spec (c : Nat → List Cell) (ps : List (Nat × Int)) {prog : Program} {w : World} {mg mb : Str → Option Value} {o d l : Addr} {hs : Int} {tk : Tok} {nn : Nat} {items : List Value} :
    ∀ (n : Nat) {A : Around} {s : Shared} {R : Result → Shared → Prop} {ra : Addr} {vs : List Value} {ks : List Nat},
    G w mg mb s.heap → A.depth + n + 4 < recursionLimit → A.units + 3 * n + 100 < cLine → A.handled = none → OrderAt s.heap o ps d l hs tk nn items →
    s.heap.IsList ra vs.toArray → RowsAt c s.heap vs ks → ks.length ≤ 1000 → ks.length < n →
    (∀ r ∈ ks, (c r).length ≤ 64) →
    (∀ r ∈ ks, cmpL ps (c r) (c r) = 0) →
    (∀ r ∈ ks, ∀ q ∈ ks, ∀ p ∈ ps, ∃ x y, (c r)[p.1]? = some x ∧ (c q)[p.1]? = some y ∧ x.alike y = true) →
    (∀ s' b' vs' n', Stays [] s s' → s.heap.get? b' = none → s'.heap.get? b' = some (lst vs' n') → RowsAt c s'.heap vs' (qs (fun r q => cmpL ps (c r) (c q)) n ks) → R (.ok (.ret (.ref b'))) s') →
    codeAny (model prog w) A (.call (.ref 59) ⟨[.ref ra, .ref o], []⟩) R s := by
  intro n
  induction n with
  | zero => intro A s R ra vs ks g hroom hu hh O hl hr h1000 hlen; omega
  | succ n ih =>
    intro A s R ra vs ks g hroom hu hh O hl hr h1000 hlen h64 hrefl hok hR
    refine enter (binds := [("rows", .ref ra), ("order", .ref o)]) g rfl (by kernel_rfl) (by omega) (BindsTo.of_eq rfl) (locs rfl) ?_ 
    intro h₁ F
    have kX := g.k
    have kT := g.t
    have N : News s.heap s.heap.objs.size h₁ [] := News.nil
    have hu' : ∀ env, (A.deeper env).units < cLine := fun env => by rw [Around.deeper_units]; omega
    k_steps
    (rename Fr _ _ _ _ => F₁); (rename News _ _ _ _ => N₁)
    refine eq_empty (hl.at fun o e => F₁.keep _ _ e) (N₁.isList (.head _)) (hu' _) ?_
    cases ks with
    | nil =>
      obtain rfl : vs = [] := List.length_eq_zero_iff.mp hr.length
      dsimp only [List.isEmpty]
      k_steps
      (rename Fr _ _ _ _ => F₂); (rename News _ _ _ _ => N₂)
      exact hR _ _ [] _ (Stays.of F₂.keep) (N₂.fresh (.head _)) (N₂.get (.head _)) trivial
    | cons k ks =>
      obtain ⟨v, vs, rfl⟩ : ∃ v vs', vs = v :: vs' := List.exists_cons_of_length_eq_add_one hr.length
      dsimp only [List.isEmpty]
      k_steps
      (rename Fr _ _ _ _ => F₂); (rename News _ _ _ _ => N₂)
      have hvl : vs.length = ks.length := by have := hr.length; simpa using this
      have hkl : ks.length + 1 ≤ 1000 := by simpa using h1000
      refine len_list (hl.at fun o e => F₂.keep _ _ e) (by simp; omega) ?_
      k_steps
      (rename Fr _ _ _ _ => F₃); (rename News _ _ _ _ => N₃)
      have hmid : (k :: ks)[(k :: ks).length / 2]? = some ((k :: ks).getD ((k :: ks).length / 2) 0) := by
        rw [List.getD_eq_getElem?_getD, List.getElem?_eq_getElem (by simp; omega)]; rfl
      generalize hme : (k :: ks).getD ((k :: ks).length / 2) 0 = mid at hmid
      obtain ⟨ma, hma, tma⟩ := hr.get _ _ hmid
      have hmem : mid ∈ k :: ks := List.mem_of_getElem? hmid
      refine item_lst (x := .ref ma) (hl.at fun o e => F₃.keep _ _ e) (by rw [fdiv2]; omega) (by rw [fdiv2]; simp; omega) (by rw [fdiv2, Int.toNat_natCast]; simpa [hvl] using hma) ?_
      k_steps
      rename_i b _ lt1 _ _ al _ lt2 _ be _ lt3 h₄ F₄ N₄
      have N₄' : News s.heap s.heap.objs.size h₄ [(be, lst [] 0), (al, lst [] 0), (b, lst [] 0)] := fun p hp => N₄ p (by simp at hp ⊢; rcases hp with e | e | e <;> simp [e])
      have hlt1 := ltN (a := b) (b := al) lt2.1
      have hlt2 := ltN (a := al) (b := be) lt3.1
      clear lt1 lt2 lt3
      refine for_list hh hl F₄ N₄' (fun i m news => ∃ u bs as es n1 n2 n3, m = pin [("rows", .ref ra), ("order", .ref o), ("middle", .ref ma), ("before", .ref b), ("alike", .ref al), ("behind", .ref be)] u ∧
        news = [(be, lst es n3), (al, lst as n2), (b, lst bs n1)] ∧ RowsAt c s.heap bs (((k :: ks).take i).filter fun r => decide (cmpL ps (c r) (c mid) < 0)) ∧
        RowsAt c s.heap as (((k :: ks).take i).filter fun r => decide (cmpL ps (c r) (c mid) = 0)) ∧ RowsAt c s.heap es (((k :: ks).take i).filter fun r => decide (0 < cmpL ps (c r) (c mid))))
        ⟨_, [], [], [], 0, 0, 0, pin_cons rfl (pin_cons rfl (pin_cons rfl (pin_cons rfl (pin_cons rfl (pin_cons rfl (pin_nil _)))))), rfl, trivial, trivial, trivial⟩ ?turn ?done
      case turn =>
        rintro I i v' m news h tk' it hP ⟨u, bs, as, es, n1, n2, n3, rfl, rfl, rb, rl, re⟩ hn hS F₅ N₅
        refine wpAny_of_eq (a := ()) rfl ?_
        have hi : i < (k :: ks).length := by
          have := (List.getElem?_eq_some_iff.mp (show (v :: vs)[i]? = some v' by simpa using hP)).1
          rw [← hr.length]; exact this
        obtain ⟨a, ha, ta⟩ := hr.get i (k :: ks)[i] (by simp)
        obtain rfl : v' = .ref a := by simp [ha] at hP; exact hP.symm
        have hmi : (k :: ks)[i] ∈ k :: ks := List.getElem_mem hi
        k_steps
        (rename Fr _ _ _ _ => F₆); (rename News _ _ _ _ => N₆)
        refine wpAny_call (compare_spec (g.keeps F₆.keep) (by show A.depth + 1 < _; omega) hh (O.keeps F₆.keep) (ta.keeps fun o e => F₆.keep _ _ e) (tma.keeps fun o e => F₆.keep _ _ e) (h64 _ hmi) (hok _ hmi _ hmem) ?_)
        intro s' t hst
        have F₇ := hst.fr F₆ (List.not_mem_nil) (fun _ h => absurd h (List.not_mem_nil))
        have N₇ := hst.news N₆ (fun _ _ => List.not_mem_nil)
        obtain ⟨h', tk', rfl, hk'⟩ := hst
        clear F₆ N₆ hk'
        have hb1 := neN (a := be) (b := I) <| hn (be, lst es n3) (by simp)
        have hb2 := neN (a := al) (b := I) <| hn (al, lst as n2) (by simp)
        have hb3 := neN (a := b) (b := I) <| hn (b, lst bs n1) (by simp)
        dsimp only
        have hin : (k :: ks)[i]? = some (k :: ks)[i] := by simp
        have hle : ((k :: ks).take i).length ≤ 1000 := by simp; omega
        have hbs : bs.length ≤ 1000 := by rw [rb.length]; exact Nat.le_trans (List.length_filter_le _ _) hle
        have has : as.length ≤ 1000 := by rw [rl.length]; exact Nat.le_trans (List.length_filter_le _ _) hle
        have hes : es.length ≤ 1000 := by rw [re.length]; exact Nat.le_trans (List.length_filter_le _ _) hle
        have row1 : RowsAt c s.heap [.ref a] [(k :: ks)[i]] := ⟨⟨a, rfl, ta⟩, trivial⟩
        k_steps
        all_goals
          (rename Fr _ _ _ _ => F₈); (rename News _ _ _ _ => N₈)
          simp only [List.push_toArray] at N₈
          refine ⟨_, _, _, _, rfl, F₈, N₈, ?_, _, _, _, _, _, _, _, pin_cons rfl (pin_cons rfl (pin_cons rfl (pin_cons rfl (pin_cons rfl (pin_cons rfl (pin_nil _)))))), rfl, ?_, ?_, ?_⟩
          · intro p hp
            simp at hp
            rcases hp with rfl | rfl | rfl <;> assumption
          all_goals rw [take_succ_filter _ _ i _ hin]
          all_goals first
            | (rw [if_pos (by simp; omega)]; exact RowsAt.append row1 (by assumption))
            | (rw [if_neg (by simp; omega), List.append_nil]; assumption)
      case done =>
        rintro m news h tk' ⟨u, bs, as, es, n1, n2, n3, rfl, rfl, rb, rl, re⟩ F₅ N₅
        rw [List.take_of_length_le (by simp [hvl])] at rb rl re
        have hfl : ∀ p : Nat → Bool, p mid = false → ((k :: ks).filter p).length < n := fun p hp => by
          have h1 : ((k :: ks).filter p).length < (k :: ks).length := by
            rw [List.length_filter_lt_length_iff_exists]
            exact ⟨mid, hmem, by simp [hp]⟩
          omega
        have hsub : ∀ p : Nat → Bool, ∀ r ∈ (k :: ks).filter p, r ∈ k :: ks := fun p r hr => (List.mem_filter.mp hr).1
        have hf1000 : ∀ p : Nat → Bool, ((k :: ks).filter p).length ≤ 1000 := fun p => Nat.le_trans (List.length_filter_le _ _) h1000
        k_steps
        refine wpAny_call (ih (g.keeps F₅.keep) (by show A.depth + 1 + n + 4 < _; omega) (by rw [Around.deeper_units]; omega) hh (O.keeps F₅.keep) (N₅.isList (.tail _ (.tail _ (.head _)))) (rb.keeps F₅.keep) (hf1000 _)
          (hfl _ (by simp [hrefl mid hmem])) (fun r hr => h64 r (hsub _ r hr)) (fun r hr => hrefl r (hsub _ r hr)) (fun r hr q hq => hok r (hsub _ r hr) q (hsub _ q hq)) ?_)
        intro s' b' vb nb hst _ hlb hrb
        have F₆ := hst.fr F₅ (List.not_mem_nil) (fun _ h => absurd h (List.not_mem_nil))
        have N₆ := hst.news N₅ (fun _ _ => List.not_mem_nil)
        obtain ⟨h', tk', rfl, hk'⟩ := hst
        clear F₅ N₅ hk'
        have lb : vb.length ≤ 1000 := by rw [hrb.length]; exact Nat.le_trans (qs_length _ _ _) (hf1000 _)
        have la : as.length ≤ 1000 := by rw [rl.length]; exact hf1000 _
        dsimp only at hlb hrb ⊢
        k_steps
        refine P.add_list (items := vb.toArray) (items2 := as.toArray) hlb (N₆.get (.tail _ (.head _))) ?_ (by simp; rw [sizeLine_eq]; omega)
        have F₇ := F₆.push (lst (vb ++ as) 0)
        have N₇ := N₆.push F₆ (lst (vb ++ as) 0)
        have hrb' := hrb.keeps (h' := h'.push (lst (vb ++ as) 0)) fun b o e => Heap.get?_push_of_some _ e
        rw [List.append_toArray]
        clear F₆ N₆
        dsimp only
        generalize h'.push (lst (vb ++ as) 0) = h₇ at F₇ N₇ hrb' ⊢
        k_steps
        refine wpAny_call (ih (g.keeps F₇.keep) (by show A.depth + 1 + n + 4 < _; omega) (by rw [Around.deeper_units]; omega) hh (O.keeps F₇.keep) (N₇.isList (.tail _ (.head _))) (re.keeps F₇.keep) (hf1000 _)
          (hfl _ (by simp [hrefl mid hmem])) (fun r hr => h64 r (hsub _ r hr)) (fun r hr => hrefl r (hsub _ r hr)) (fun r hr q hq => hok r (hsub _ r hr) q (hsub _ q hq)) ?_)
        intro s' e' ve ne hst _ hle hre
        have F₈ := hst.fr F₇ (List.not_mem_nil) (fun _ h => absurd h (List.not_mem_nil))
        have N₈ := hst.news N₇ (fun _ _ => List.not_mem_nil)
        have hrb8 := hrb'.keeps hst.keep
        obtain ⟨h₈, tk₈, rfl, hk₈⟩ := hst
        have le : ve.length ≤ 1000 := by rw [hre.length]; exact Nat.le_trans (qs_length _ _ _) (hf1000 _)
        dsimp only at hle hre hrb8 ⊢
        k_steps
        refine P.add_list (items := (vb ++ as).toArray) (items2 := ve.toArray) (N₈.get (.head _)) hle ?_ (by simp; rw [sizeLine_eq]; omega)
        rw [List.append_toArray]
        have F₉ := F₈.push (lst (vb ++ as ++ ve) 0)
        refine hR _ _ _ 0 (Stays.of F₉.keep) (fresh_none F₈ (Nat.le_refl _)) (Heap.get?_push_size _ rfl) ?_
        have up : ∀ b o, h₈.get? b = some o → (h₈.push (lst (vb ++ as ++ ve) 0)).get? b = some o := fun b o e => Heap.get?_push_of_some _ e
        rw [qs, hme]
        exact RowsAt.append (hre.keeps up) (RowsAt.append (rl.keeps F₉.keep) (hrb8.keeps up))
end Mine
end

/-! part F1 -/
section
open PySem PySem.W PyProof.Rows
namespace Mine
theorem fill_F1 (w : World) : hd.heap_39 w.params = hd.heap_39 w.params ∧ PySem.Challenge.rw_mr0172_01 = PySem.Challenge.rw_mr0172_01 := by k_fill; exact ⟨rfl, rfl⟩

local macro_rules | `(tactic| walk_at "exec For Name Call cons nil") => `(tactic| with_unfolding_all refine for_rule ?_)
local macro_rules | `(tactic| walk_at "exec For Name Tuple cons nil") => `(tactic| with_unfolding_all refine for_rule ?_)

def IntsIn (news : List (Addr × Obj)) (v : Value) (ns : List Int) : Prop := ∃ a vs n, v = .ref a ∧ (a, lst vs n) ∈ news ∧ IntsAre vs ns
def RestsIn (news : List (Addr × Obj)) : List Value → List (List Int) → Prop
  | [], [] => True
  | v :: vs, r :: rs => IntsIn news v r ∧ RestsIn news vs rs
  | _, _ => False
def BestIn (news : List (Addr × Obj)) (v : Value) : Option (List Int) → Prop
  | none => v = .none
  | some ns => IntsIn news v ns
theorem IntsIn.mono {news news' : List (Addr × Obj)} {v : Value} {ns : List Int} (h : IntsIn news v ns) (k : ∀ p ∈ news, p ∈ news') : IntsIn news' v ns := by
  obtain ⟨a, vs, n, e, hm, hi⟩ := h
  exact ⟨a, vs, n, e, k _ hm, hi⟩
theorem RestsIn.mono {news news' : List (Addr × Obj)} (k : ∀ p ∈ news, p ∈ news') : ∀ {vs : List Value} {rs : List (List Int)}, RestsIn news vs rs → RestsIn news' vs rs
  | [], [], _ => trivial
  | _ :: _, _ :: _, ⟨h, r⟩ => ⟨h.mono k, RestsIn.mono k r⟩
theorem BestIn.mono {news news' : List (Addr × Obj)} {v : Value} (k : ∀ p ∈ news, p ∈ news') : ∀ {o : Option (List Int)}, BestIn news v o → BestIn news' v o
  | none, h => h
  | some _, h => IntsIn.mono h k
theorem RestsIn.length {news : List (Addr × Obj)} : ∀ {vs : List Value} {rs : List (List Int)}, RestsIn news vs rs → vs.length = rs.length
  | [], [], _ => rfl
  | _ :: _, _ :: _, ⟨_, r⟩ => by simp [RestsIn.length r]
theorem RestsIn.get {news : List (Addr × Obj)} : ∀ {vs : List Value} {rs : List (List Int)}, RestsIn news vs rs → ∀ (i : Nat) (r : List Int), rs[i]? = some r → ∃ v, vs[i]? = some v ∧ IntsIn news v r
  | [], [], _, i, r, e => by simp at e
  | v :: _, _ :: _, ⟨h, _⟩, 0, r, e => by simp at e; subst e; exact ⟨v, rfl, h⟩
  | _ :: _, _ :: _, ⟨_, q⟩, i + 1, r, e => by simpa using RestsIn.get q i r (by simpa using e)

theorem news_keep {h₀ h : Heap} {L : Addr} {q q2 q3 : Addr × Obj} {news : List (Addr × Obj)} (M : News h₀ L h (q :: q2 :: q3 :: news)) : News h₀ L h (q3 :: q :: news) := fun p hp => M p (by
  rcases List.mem_cons.mp hp with e | hp
  · rw [e]; exact .tail _ (.tail _ (.head _))
  · rcases List.mem_cons.mp hp with e | hp
    · rw [e]; exact .head _
    · exact .tail _ (.tail _ (.tail _ hp)))

theorem fewest_spec {prog : Program} {w : World} {A : Around} {s : Shared} {mg mb : Str → Option Value} {R : Result → Shared → Prop} {x : Str} {tx : Tok}
    (g : G w mg mb s.heap) (hroom : A.depth + 4 < recursionLimit) (hu : A.units + 100 < cLine) (hh : A.handled = none) (hx : x.cps.toList.length ≤ 1000) (hop : ∀ c ∈ x.cps.toList, [c] ∈ ops)
    (hR : ∀ s' b vs n, Stays [] s s' → s.heap.get? b = none → s'.heap.get? b = some (lst vs n) → IntsAre vs (fewest x.cps.toList) → R (.ok (.ret (.ref b))) s') :
    codeAny (model prog w) A (.call (.ref 71) ⟨[.str x tx], []⟩) R s := by
  refine enter (binds := [("text", .str x tx)]) g rfl (by kernel_rfl) (by omega) (BindsTo.of_eq rfl) (locs rfl) ?_ 
  intro h₁ F
  have kX := g.k
  have kT := g.t
  have N : News s.heap s.heap.objs.size h₁ [] := News.nil
  k_steps
  refine wpAny_call (names_spec (g.keeps F.keep) (by show A.depth + 1 < _; omega) hh ?_)
  intro s' nb nvs nn hst hnew hnb hns hnl
  have F₁ := hst.fr F (List.not_mem_nil) (fun _ h => absurd h (List.not_mem_nil))
  have N₁ : News s.heap s.heap.objs.size s'.heap [(nb, lst nvs nn)] := news_add F N hst hnew hnb
  obtain ⟨h', tk', rfl, hk'⟩ := hst
  clear N
  dsimp only at hnb ⊢
  k_steps
  have hxl : x.length = x.cps.toList.length := by simp [Str.length]
  refine len_str (by show ¬ ((x.length : Int) ≥ 2 ^ 63); omega) ?_
  k_steps
  generalize ht : x.cps.toList = t at hx hop hR hxl
  rename_i b0 _ _ rb _ _ _ _ _ h₂ _ _ _ _ hr₂ F₂ N₂ _
  refine for_range (n := t.length) hh hr₂ ?small ?size F₂ N₂ (fun i m news => ∃ u rb rvs n, m = pin [("text", .str x tx), ("names", .ref nb), ("rests", .ref rb)] u ∧ (nb, lst nvs nn) ∈ news ∧ (rb, lst rvs n) ∈ news ∧ RestsIn news rvs (rests (t.drop (t.length - i)))) ?init ?turn ?done
  case small =>
    rw [hxl]
    have hx' : (t.length : Int) ≤ 1000 := by omega
    have hx0 : 0 ≤ (t.length : Int) := by omega
    generalize (t.length : Int) = q at hx' hx0
    have hsz : Builtin.Range.rangeSize (q - 1) (-1) (-1) = q := by
      unfold Builtin.Range.rangeSize
      simp
      omega
    simp [Builtin.Range.small, hsz, Builtin.Range.rangeFitsLong]
    omega
  case size =>
    rw [hxl]
    unfold Builtin.Range.rangeSize
    simp
    omega
  case init => 
    refine ⟨_, rb, [.ref b0], 0, pin_cons rfl (pin_cons rfl (pin_cons rfl (pin_nil _))), by simp, by simp, ?_⟩
    rw [Nat.sub_zero, List.drop_length]
    exact ⟨⟨b0, [], 0, rfl, by simp, .nil⟩, trivial⟩
  case done =>
    rintro m news h tk' ⟨u, rb, rvs, n, rfl, hnb, hrb, hrs⟩ F₃ N₃
    rw [Nat.sub_self, List.drop_zero] at hrs
    obtain ⟨rr, hrr⟩ := rests_head t
    obtain ⟨v, hv, a, vs, nv, rfl, ha, hvi⟩ := hrs.get 0 (fewest t) (by rw [hrr]; rfl)
    k_steps
    (rename Fr _ _ _ _ => F₄); (rename News _ _ _ _ => N₄)
    refine item_lst (x := .ref a) (N₄.isList hrb) (by omega) (by omega) hv ?_
    k_steps
    exact hR _ _ _ _ (Stays.of F₄.keep) (N₄.fresh ha) (N₄.get ha) hvi
  case turn =>
    rintro I i ta m news h tk' it hi ⟨u, rb, rvs, n, rfl, hnb, hrb, hrs⟩ hn F₃ N₃
    k_steps
    rename_i D h₄ F₄ N₄ hlt
    have hat : (↑x.length : Int) - 1 + (i : Int) * -1 = ((t.length - 1 - i : Nat) : Int) := by omega
    rw [hat] at F₄
    have hdl : t.length - i = t.length - 1 - i + 1 := by omega
    rw [hdl] at hrs
    generalize hatd : t.length - 1 - i = at' at F₄ hrs
    have hatl : at' < t.length := by omega
    generalize hR' : rests (t.drop (at' + 1)) = Rs at hrs
    obtain ⟨t3, t2, t1, N₄⟩ : ∃ t3 t2 t1, News s.heap s.heap.objs.size h₄ ((D, ({ cls := .type "tuple", data := .seq #[.int 3 t3, .int 2 t2, .int 1 t1] } : Obj)) :: (I, it) :: news) := ⟨_, _, _, N₄⟩
    refine for_tuple hh (.head _) F₄ N₄ (fun j m news2 => ∃ u bv, m = pin [("text", .str x tx), ("names", .ref nb), ("rests", .ref rb), ("at", .int (at' : Int) ta), ("best", bv)] u ∧
      (∀ p ∈ (D, ({ cls := .type "tuple", data := .seq #[.int 3 t3, .int 2 t2, .int 1 t1] } : Obj)) :: (I, it) :: news, p ∈ news2) ∧ BestIn news2 bv (bests (t.drop at') Rs ([3, 2, 1].take j)) ∧ ∀ a, bv = .ref a → @Ne Nat a I) ?kept2 ?init2 ?turn2 ?done2
    case turn2 =>
      rintro I2 j v m news2 h₅ tk₅ o₂ hP ⟨u2, bv, rfl, hsub, hbest, hbI⟩ hn2 F₅ N₅
      obtain ⟨z, tz, rfl, hz, hz1, hz3⟩ : ∃ (z : Nat) (tz : Tok), v = .int (z : Int) tz ∧ ([3, 2, 1] : List Nat)[j]? = some z ∧ 1 ≤ z ∧ z ≤ 3 := by
        match j, hP with
        | 0, hP => exact ⟨3, t3, by simpa using hP.symm, rfl, by decide, by decide⟩
        | 1, hP => exact ⟨2, t2, by simpa using hP.symm, rfl, by decide, by decide⟩
        | 2, hP => exact ⟨1, t1, by simpa using hP.symm, rfl, by decide, by decide⟩
        | j + 3, hP => simp at hP
      have hnb5 : (nb, lst nvs nn) ∈ news2 := hsub _ (by simp [hnb])
      have hrb5 : (rb, lst rvs n) ∈ news2 := hsub _ (by simp [hrb])
      have hrs5 : RestsIn news2 rvs Rs := hrs.mono fun p hp => hsub p (by simp [hp])
      have hrl : rvs.length ≤ 1001 := by rw [hrs.length, ← hR', rests_length]; simp; omega
      k_steps
      (rename Fr _ _ _ _ => F₆); (rename News _ _ _ _ => N₆)
      refine len_list (N₆.isList (.tail _ hrb5)) (by simp; omega) ?_
      have hrL : rvs.length = t.length - at' := by rw [hrs.length, ← hR', rests_length]; simp; omega
      have hns' : StrsAre nvs (ops.map mkS) := hns
      have hbn : bests (t.drop at') Rs ([3, 2, 1].take (j + 1)) = better (bests (t.drop at') Rs ([3, 2, 1].take j)) (cand (t.drop at') Rs z) := by
        rw [List.take_add_one, hz]; simp [bests, List.foldl_append]
      have hzI2 : ∀ p ∈ news2, p.1 ≠ I2 := hn2
      k_steps
      · have hzl : z ≤ rvs.length := by
          rename ((z : Int) ≤ _) => hq
          simp at hq; omega
        have hszl : at' + z ≤ x.cps.toList.length := by rw [ht]; omega
        rw [slice_in hszl, ht]
        (rename Fr _ _ _ _ => F₇); (rename News _ _ _ _ => N₇)
        refine in_list_strs (N₇.isList (.tail _ hnb5)) hns' ?_
        rw [any_ops]
        by_cases hmem : (t.drop at').take z ∈ ops
        · have hcand : cand (t.drop at') Rs z = some ((7 + (ops.idxOf ((t.drop at').take z) : Int)) :: Rs.getD (z - 1) []) := by
            rw [cand, if_pos ⟨by rw [← hrs.length]; exact hzl, hmem⟩]
          rw [decide_eq_true hmem]
          rw [hcand] at hbn
          k_steps
          (rename Fr _ _ _ _ => F₈); (rename News _ _ _ _ => N₈)
          refine kf_method N₈ (.tail _ hnb5) PySem.F.slot_list_index PySem.F.type_list_index ?_
          k_steps
          (rename Fr _ _ _ _ => F₉); (rename News _ _ _ _ => N₉)
          rw [slice_in hszl, ht]
          refine index_strs (N₉.get (.tail _ hnb5)) hns' hmem (by decide) ?_
          k_steps
          (rename Fr _ _ _ _ => G₁); (rename News _ _ _ _ => M₁)
          obtain ⟨rv, hrv, ra, ivs, ni, rfl, hra, hri⟩ := hrs5.get (z - 1) (Rs.getD (z - 1) []) (by
            rw [List.getD_eq_getElem?_getD, List.getElem?_eq_getElem (by rw [← hrs.length]; omega)]; rfl)
          refine item_lst (x := .ref ra) (M₁.isList (.tail _ (.tail _ hrb5))) (by omega) (by omega) (by rw [show ((z : Int) - 1).toNat = z - 1 by omega]; exact hrv) ?_
          have hil : ivs.length ≤ 1000 := by
            rw [hri.length]
            have := rests_le (t.drop (at' + 1)) (z - 1) (Rs.getD (z - 1) []) (by
              rw [hR', List.getD_eq_getElem?_getD, List.getElem?_eq_getElem (by rw [← hrs.length]; omega)]; rfl)
            simp at this; simp; omega
          k_steps
          refine kmk_add_lit G₁ M₁ (M₁.isList (.head _)) (M₁.isList (.tail _ (.tail _ hra))) rfl (fun D2 h₂ G₂ M₂ hlt2 => ?_) (by simp; rw [sizeLine_eq]; omega)
          have hDI : @Ne Nat D2 I2 := Nat.ne_of_gt (hlt2 _ (.tail _ (.head _)))
          have hD2I : @Ne Nat D2 I := Nat.ne_of_gt (hlt2 (I, it) (.tail _ (.tail _ (hsub _ (.tail _ (.head _))))))
          have hnD : ∀ {o' : Obj}, ∀ p ∈ (D2, o') :: news2, p.1 ≠ I2 := fun p hp => by
            rcases List.mem_cons.mp hp with e | hp
            · rw [e]; exact hDI
            · exact hn2 p hp
          have hci : ∀ {tt : Tok}, IntsAre ([Value.int (7 + (ops.idxOf ((t.drop at').take z) : Int)) tt] ++ ivs) ((7 + (ops.idxOf ((t.drop at').take z) : Int)) :: Rs.getD (z - 1) []) := fun {tt} => .cons _ tt hri
          cases hbb : bests (t.drop at') Rs ([3, 2, 1].take j) with
          | none =>
            rw [hbb] at hbest hbn
            obtain rfl : bv = .none := hbest
            k_steps
            (rename Fr _ _ _ _ => G₃); (rename News _ _ _ _ => M₃)
            refine ⟨_, _, _, _, rfl, G₃, news_keep M₃, hnD, _, _, pin_cons rfl (pin_cons rfl (pin_cons rfl (pin_cons rfl (pin_cons rfl (pin_nil _))))), fun p hp => .tail _ (hsub p hp), ?_, fun a e => by cases e; exact hD2I⟩
            rw [hbn]; exact ⟨_, _, _, rfl, .head _, hci⟩
          | some b =>
            rw [hbb] at hbest hbn
            have hbl : b.length ≤ 1001 := by
              have := bests_le (n := t.length) (fun i r h => by have := rests_le (t.drop (at' + 1)) i r (by rw [hR']; exact h); simp at this; omega) (fun z hz => by have := List.mem_of_mem_take hz; simp at this; omega) hbb
              omega
            obtain ⟨ba, bvs, bn, rfl, hba, hbi⟩ := hbest
            have hbvl := hbi.length
            k_steps
            (rename Fr _ _ _ _ => G₃); (rename News _ _ _ _ => M₃)
            refine len_list (M₃.isList (.head _)) (by simp; omega) ?_
            k_steps
            (rename Fr _ _ _ _ => G₄); (rename News _ _ _ _ => M₄)
            refine len_list (M₄.isList (.tail _ (.tail _ (.tail _ hba)))) (by simp; omega) ?_
            k_steps
            · (rename Fr _ _ _ _ => G₅); (rename News _ _ _ _ => M₅)
              rename (_ < _) => hlt3
              refine ⟨_, _, _, _, rfl, G₅, news_keep M₅, hnD, _, _, pin_cons rfl (pin_cons rfl (pin_cons rfl (pin_cons rfl (pin_cons rfl (pin_nil _))))), fun p hp => .tail _ (hsub p hp), ?_, fun a e => by cases e; exact hD2I⟩
              rw [hbn, better, if_pos (by rw [List.length_cons, ← hri.length, ← hbvl]; simp at hlt3; omega)]; exact ⟨_, _, _, rfl, .head _, hci⟩
            · (rename Fr _ _ _ _ => G₅); (rename News _ _ _ _ => M₅)
              rename (¬ _ < _) => hlt3
              refine ⟨_, _, _, _, rfl, G₅, news_keep M₅, hnD, _, _, pin_cons rfl (pin_cons rfl (pin_cons rfl (pin_cons rfl (pin_cons rfl (pin_nil _))))), fun p hp => .tail _ (hsub p hp), ?_, hbI⟩
              rw [hbn, better, if_neg (by rw [List.length_cons, ← hri.length, ← hbvl]; simp at hlt3; omega)]; exact ⟨_, _, _, rfl, .tail _ hba, hbi⟩
        · have hcand : cand (t.drop at') Rs z = none := by
            rw [cand, if_neg (fun q => hmem q.2)]
          rw [decide_eq_false hmem]
          rw [hcand] at hbn
          k_steps
          (rename Fr _ _ _ _ => F₈); (rename News _ _ _ _ => N₈)
          refine ⟨_, _, _, _, rfl, F₈, N₈, hn2, _, bv, pin_cons rfl (pin_cons rfl (pin_cons rfl (pin_cons rfl (pin_cons rfl (pin_nil _))))), hsub, ?_, hbI⟩
          rw [hbn]; cases hbb : bests (t.drop at') Rs ([3, 2, 1].take j) <;> rw [hbb] at hbest <;> exact hbest
      · have hcand : cand (t.drop at') Rs z = none := by
          rename (¬ (z : Int) ≤ _) => hq
          rw [cand, if_neg (fun q => hq (by have := hrs.length; simp; omega))]
        rw [hcand] at hbn
        refine ⟨_, _, _, _, rfl, F₆, N₆, hn2, _, bv, pin_cons rfl (pin_cons rfl (pin_cons rfl (pin_cons rfl (pin_cons rfl (pin_nil _))))), hsub, ?_, hbI⟩
        rw [hbn]; cases hbb : bests (t.drop at') Rs ([3, 2, 1].take j) <;> rw [hbb] at hbest <;> exact hbest
    case kept2 =>
      rintro i m news2 ⟨u, bv, _, hsub, _⟩
      exact hsub _ (.head _)
    case init2 => exact ⟨_, .none, pin_cons rfl (pin_cons rfl (pin_cons rfl (pin_cons rfl (pin_cons rfl (pin_nil _))))), fun p hp => hp, rfl, fun a e => by cases e⟩
    case done2 =>
      rintro m news2 h₆ tk₆ ⟨u2, bv, rfl, hsub, hbest, hbI⟩ F₆ N₆
      have hrb6 : (rb, lst rvs n) ∈ news2 := hsub _ (by simp [hrb])
      have hrl : rvs.length ≤ 1001 := by rw [hrs.length, ← hR', rests_length]; simp; omega
      have hdrop : t.drop at' = t[at'] :: t.drop (at' + 1) := List.drop_eq_getElem_cons hatl
      have hrn : rests (t.drop at') = ((bests (t.drop at') Rs [3, 2, 1]).getD []) :: Rs := by rw [hdrop, rests, hR']
      obtain ⟨b, hb⟩ : ∃ b, bests (t.drop at') Rs [3, 2, 1] = some b := bests_some (by
        rw [cand, if_pos ⟨by rw [← hR', rests_length]; omega, by rw [hdrop]; exact hop _ (List.getElem_mem hatl)⟩]; simp)
      have hbest' : BestIn news2 bv (bests (t.drop at') Rs [3, 2, 1]) := hbest
      rw [hb] at hbest'
      obtain ⟨ba, bvs, bn, rfl, hba, hbi⟩ := hbest'
      have hbaI : @Ne Nat ba I := hbI _ rfl
      k_steps
      (rename Fr _ _ _ _ => F₇); (rename News _ _ _ _ => N₇)
      refine kmk_add_lit F₇ N₇ (N₇.isList (.head _)) (N₇.isList (.tail _ hrb6)) rfl (fun D2 h₈ F₈ N₈ hlt8 => ?_) (by simp; rw [sizeLine_eq]; omega)
      have hD2I : @Ne Nat D2 I := Nat.ne_of_gt (hlt8 (I, it) (.tail _ (hsub _ (.tail _ (.head _)))))
      k_steps
      (rename Fr _ _ _ _ => F₉); (rename News _ _ _ _ => N₉)
      have hin : ∀ p : Addr × Obj, @Ne Nat p.1 I → p ∈ (D2, lst (.ref ba :: rvs) 0) :: news2 → p ∈ ((D2, lst (.ref ba :: rvs) 0) :: news2).filter (fun p => decide (@Ne Nat p.1 I)) := fun p h1 h2 => List.mem_filter.mpr ⟨h2, decide_eq_true h1⟩
      have hold : ∀ p ∈ news, p ∈ ((D2, lst (.ref ba :: rvs) 0) :: news2).filter (fun p => decide (@Ne Nat p.1 I)) := fun p hp => hin p (hn p hp) (.tail _ (hsub p (.tail _ (.tail _ hp))))
      refine ⟨_, _, _, ((D2, lst (.ref ba :: rvs) 0) :: news2).filter (fun p => decide (@Ne Nat p.1 I)), rfl, F₉, ?_, ?_, _, D2, .ref ba :: rvs, 0, pin_cons rfl (pin_cons rfl (pin_cons rfl (pin_nil _))), hold _ hnb, hin _ hD2I (.head _), ?_⟩
      · intro p hp
        rcases List.mem_cons.mp hp with e | hp
        · rw [e]; exact N₉ _ (.tail _ (.tail _ (hsub _ (.tail _ (.head _)))))
        · rcases List.mem_cons.mp (List.mem_filter.mp hp).1 with e | hp
          · rw [e]; exact N₉ _ (.head _)
          · exact N₉ _ (.tail _ (.tail _ hp))
      · intro p hp
        exact of_decide_eq_true (List.mem_filter.mp hp).2
      · rw [show t.length - (i + 1) = at' by omega, hrn, hb]
        exact ⟨⟨ba, bvs, bn, rfl, hin _ hbaI (.tail _ hba), hbi⟩, hrs.mono hold⟩
end Mine
end

/-! part R1 -/
section
open PySem PySem.W PyProof.Rows
namespace Mine
theorem fill_R1 (w : World) : hd.heap_39 w.params = hd.heap_39 w.params ∧ PySem.Challenge.rw_mr0172_01 = PySem.Challenge.rw_mr0172_01 := by k_fill; exact ⟨rfl, rfl⟩

def rowC (k : Nat) : List Cell := [.s (mkS (sgn k)), .i (num k), .s (mkS ((sgn k).take 1)), .i ((sgn k).length : Int), .i (-((sgn k).length : Int))]
def Stop (P : Prop) : Prop := P
theorem stop_here {P : Prop} (h : Stop P) : P := h
local macro_rules | `(tactic| walk_at "exec While Compare cons nil") => `(tactic| refine stop_here ?_)

theorem cell_unique {c d : Cell} {v : Value} (h : c.Is v) (h' : d.Is v) : c = d := by
  cases c <;> cases d <;> obtain ⟨t, rfl⟩ := h <;> obtain ⟨t', e⟩ := h' <;> cases e <;> rfl
theorem tup_unique {h : Heap} {a : Addr} {c d : List Cell} (x : TupAt h a c) (y : TupAt h a d) : c = d := by
  obtain ⟨vs, ⟨o, ho, _, n, hd⟩, hl, hc⟩ := x
  obtain ⟨vs', ⟨o', ho', _, n', hd'⟩, hl', hc'⟩ := y
  rw [ho] at ho'; cases ho'
  rw [hd] at hd'
  obtain rfl : vs = vs' := by simpa using congrArg (fun d : Data => match d with | .seq xs _ => xs.toList | _ => []) hd'
  refine List.ext_getElem? fun i => ?_
  by_cases hi : i < c.length
  · have hi' : i < d.length := by omega
    obtain ⟨v, hv, hcv⟩ := hc i c[i] (by simp [hi])
    obtain ⟨v', hv', hcv'⟩ := hc' i d[i] (by simp [hi'])
    rw [hv] at hv'; cases hv'
    simp [hi, hi', cell_unique hcv hcv']
  · have hi' : ¬ i < d.length := by omega
    simp [hi, hi']

open Classical in
/-- the row at v fits -/
noncomputable def fitsV (t : List Nat) (at' : Nat) (h : Heap) (v : Value) : Bool := decide (∃ k a, fits t at' k = true ∧ v = .ref a ∧ TupAt h a (rowC k))
open Classical in
theorem fitsV_eq {t : List Nat} {at' : Nat} {h : Heap} {a : Addr} {k : Nat} (x : TupAt h a (rowC k)) : fitsV t at' h (.ref a) = fits t at' k := by
  unfold fitsV
  cases hf : fits t at' k with
  | true => exact decide_eq_true ⟨k, a, hf, rfl, x⟩
  | false =>
    refine decide_eq_false ?_
    rintro ⟨k', a', hf', e, x'⟩
    cases e
    have := tup_unique x x'
    simp only [rowC, List.cons.injEq, Cell.s.injEq] at this
    have hs := mkS_inj this.1
    simp only [fits, hs] at hf
    rw [fits, hf] at hf'
    cases hf'

theorem row_item {prog : Program} {w : World} {A : Around} {s : Shared} {E : Value → Shared → Prop} {Q : Value → Shared → Prop} {value slice : Expr} {a : Addr} {cs : List Cell} {c : Cell} {k : Nat} {u : Tok}
    (ht : TupAt s.heap a cs) (hc : cs[k]? = some c) (hk : k < 64) (h : ∀ v, c.Is v → Q v s)
    (hs : subscripted slice false (.ref a) (.int (k : Int) u) = operate [.ref a, .int (k : Int) u] (getItem (.ref a) (.int (k : Int) u)) := by with_unfolding_all rfl) (hg : ∀ r, letTemporaryGo value (.ref a) r = pure () := by intro _; with_unfolding_all rfl) :
    wpAny (model prog w) A (subscriptTail value slice (.ref a) (.int (k : Int) u)) Q E s := by
  obtain ⟨vs, hvt, hl, hv⟩ := ht
  obtain ⟨v, hv1, hv2⟩ := hv k c hc
  exact item_tuple hvt (by omega) (by omega) (by simpa using seqIndex_nat (List.getElem?_eq_some_iff.mp hv1).1) (by simpa using hv1) (h v hv2) hs hg

theorem test_fits {prog : Program} {w : World} {A : Around} {s : Shared} {E : Value → Shared → Prop} {Q : Bool → Shared → Prop} {cenv : Env} {p1 p2 p3 p4 p5 p6 p7 p8 p9 p10 p11 p12 p13 : Pos} {whole : Sem Value} {x : Str} {tx ta : Tok} {at' : Nat} {ct ca a : Addr} {m : Str → Option Value} {k : Nat}
    (hk : cenv.scope.kind = .function) (ht : cenv.kindOf "text" = some .cell) (hat : cenv.kindOf "at" = some .cell) (hr : cenv.kindOf "row" = some .local) (hct : cenv.cells.lookup ("text" : Str) = some ct) (hca : cenv.cells.lookup ("at" : Str) = some ca)
    (hvt : s.heap.IsCell ct (some (.str x tx))) (hva : s.heap.IsCell ca (some (.int (at' : Int) ta))) (hns : s.heap.Ns cenv.locals m) (hm : m "row" = some (.ref a)) (hrow : TupAt s.heap a (rowC k)) (hx : x.length ≤ 1000) (hatl : at' ≤ x.cps.toList.length)
    (h : ∀ h' tk, (∀ b o, s.heap.get? b = some o → h'.get? b = some o) → Q (fits x.cps.toList at' k) { s with heap := h', toks := tk }) :
    wpAny (model prog w) A (isTrue (.Compare (.Subscript (.Name "text" p1) (.Slice (some (.Name "at" p2)) (some (.BinOp (.Name "at" p3) .Add (.Subscript (.Name "row" p4) (.Constant (.int 3) 0 p5) p6) p7)) none p8) p9) [.Eq] [.Subscript (.Name "row" p10) (.Constant (.int 0) 0 p11) p12] p13) cenv whole) Q E s := by
  refine wpAny_isTrue_Compare1 (Subscript_ (wpAny_Name (wpAny_loadName_cell hk ht hct hvt (wpAny_Slice ?_))))
  refine wpAny_Name (wpAny_loadName_cell hk hat hca hva ?_)
  refine evalPart_some_step (wpAny_BinOp (wpAny_Name (wpAny_loadName_cell hk hat hca hva (Subscript_ (wpAny_Name (wpAny_loadName_local hk hr hns hm (wpAny_Constant_int ?_)))))))
  refine row_item (k := 3) (c := .i ((sgn k).length : Int)) hrow rfl (by decide) fun v hv => ?_
  obtain ⟨t3, rfl⟩ := hv
  refine add_int (evalPart_none_step ?_)
  refine tail_of_ItemOn (SBH.sliceItem_ss (P := fun h' => ∀ b o, s.heap.get? b = some o → h'.get? b = some o) (fun h' ob p b o e => Heap.get?_push_of_some _ (p b o e)) (fun b o e => e) (fun h' t' k' hk' => ?_) (by rw [sizeLine_eq]; omega)) (by with_unfolding_all rfl) (by intro _; with_unfolding_all rfl)
  rw [slice_any hatl]
  refine Subscript_ (wpAny_Name (wpAny_loadName_local hk hr (hns.keeps hk') hm (wpAny_Constant_int ?_)))
  refine row_item (k := 0) (c := .s (mkS (sgn k))) (hrow.keeps fun o e => hk' _ _ e) rfl (by decide) fun v hv => ?_
  obtain ⟨t0, rfl⟩ := hv
  refine eq_str ?_
  rw [mkS_beq]
  exact wpAny_truthy_bool (h h' _ hk')

/-- what the comprehension leaves: the rows that fit -/
theorem rows_filter {t : List Nat} {at' : Nat} {h : Heap} : ∀ {vs : List Value} {ks : List Nat}, RowsAt rowC h vs ks → RowsAt rowC h (vs.filter (fitsV t at' h)) (ks.filter (fits t at'))
  | [], [], _ => trivial
  | _ :: vs, k :: ks, ⟨⟨a, e, x⟩, r⟩ => by
    have ih := rows_filter (t := t) (at' := at') r
    subst e
    simp only [List.filter_cons, fitsV_eq x]
    split
    · exact ⟨⟨a, rfl, x⟩, ih⟩
    · exact ih
theorem paired_eq {l l' : List Value} (h : Paired (fun v y => y = v) l l') : l' = l := by
  induction h with
  | nil => rfl
  | cons e _ ih => rw [e, ih]

theorem reading_spec {prog : Program} {w : World} {A : Around} {s : Shared} {mg mb : Str → Option Value} {R : Result → Shared → Prop} {x : Str} {tx : Tok} {ra : Addr} {vs : List Value} {ks : List Nat} {ns : List Int} {nf : Nat}
    (g : G w mg mb s.heap) (hroom : A.depth + 4 < recursionLimit) (hu : A.units + 100 < cLine) (hh : A.handled = none) (hx : x.cps.toList.length ≤ 1000)
    (hl : s.heap.IsList ra vs.toArray) (hr : RowsAt rowC s.heap vs ks) (hk : ks.length ≤ 1000) (hread : readF x.cps.toList ks nf 0 = some ns) (hns : ns.length ≤ 1000)
    (hR : ∀ s' b vs n, Stays [] s s' → s.heap.get? b = none → s'.heap.get? b = some (lst vs n) → IntsAre vs ns → R (.ok (.ret (.ref b))) s') :
    codeAny (model prog w) A (.call (.ref 64) ⟨[.str x tx, .ref ra], []⟩) R s := by
  refine enterC (binds := [("text", .str x tx), ("rows", .ref ra)]) g rfl (by kernel_rfl) (by omega) (BindsTo.of_eq rfl) rfl (by decide +kernel) ?_ 
  intro h₁ tk₁ cells F N Y
  have kX := g.k
  have kT := g.t
  have hxl : x.length = x.cps.toList.length := by simp [Str.length]
  generalize ht : x.cps.toList = t at hx hread hxl
  k_cells Y
  k_steps
  unfold Stop
  rename_i o2 _ d2 tl _ hlt _ h₂ o1 F₂ N₂ d1
  refine while_rule (fun n' s' => ∃ h tk u dvs n1 oa ot at' ta dn rest, s' = { s with heap := h, toks := tk } ∧ Fr s.heap s.heap.objs.size h (pin [("told", .ref tl), ("rows", .ref ra)] u) ∧
    News s.heap s.heap.objs.size h [(tl, lst dvs n1), (s.heap.objs.size + 1 + 1, oa), (s.heap.objs.size + 1, ot)] ∧ oa.data = .cell (some (.int ((at' : Nat) : Int) ta)) ∧ ot.data = .cell (some (.str x tx)) ∧
    IntsAre dvs dn ∧ readF t ks n' at' = some rest ∧ dn ++ rest = ns) ?turn nf ?init
  case init => exact ⟨h₂, _, _, [], 0, o1, o2, 0, _, [], ns, rfl, fr_pin F₂ (pin_cons rfl (pin_cons rfl (pin_nil _))), N₂, d1, d2, .nil, hread, rfl⟩
  case turn =>
    rintro n' s' ⟨h, tk, u, dvs, n1, oa, ot, at', ta, dn, rest, rfl, F₃, N₃, da, dt, hdi, hrd, hdn⟩
    k_steps
    · rename ((at' : Int) < _) => hlt'
      have hatl : at' < t.length := by omega
      refine wpAny_Assign_ListComp_free (cl := [("text", s.heap.objs.size + 1), ("at", s.heap.objs.size + 1 + 1)]) (fitsV t at' s.heap) (fun v y => y = v) (by rfl) (by rfl) (by decide) rfl (by decide) (by rfl) (by rfl) (by rfl) ?_
      k_steps
      have hls : h.IsList ra vs.toArray := hl.at fun o e => F₃.keep _ _ e
      have hrh := hr.keeps F₃.keep
      have hraI : ra ≠ h.objs.size := by obtain ⟨ol, hol, _⟩ := hls; exact Nat.ne_of_lt (Heap.lt_size hol)
      refine wpAny_pyIter_list hls ?_
      refine ⟨h.objs.size, _, _, vs.toArray.size, _, _, _, rfl, Walks.list (A := A.deeper _) hh h.objs.size ra hraI vs.toArray, ?z1, ?z0, ?z2, ?z3, (F₃.push _).ns, ?quiet, ?fin⟩
      case z0 => exact ⟨⟨_, Heap.get?_push_size _ rfl, rfl, rfl⟩, hls.push _⟩
      case z1 => rw [sizeLine_eq]; have := hr.length; simp; omega
      case z2 =>
        intro b hb
        have hsz : (h.push { cls := Value.type "list_iterator", data := Data.fields #[Value.ref ra, Value.int 0 0] }).objs.size = h.objs.size + 1 := Heap.size_push ..
        show b < _
        rw [hsz]
        rcases List.mem_cons.mp hb with e | hb
        · rw [e]; exact Nat.lt_succ_self _
        · rw [List.mem_singleton.mp hb]; obtain ⟨ol, hol, _⟩ := hls; exact Nat.lt_succ_of_lt (Heap.lt_size hol)
      case z3 =>
        intro q
        exact absurd F₃.ns.lt (by rw [← List.mem_singleton.mp q]; exact Nat.lt_irrefl _)
      case quiet =>
        have up : ∀ (s₃ : Shared), (∀ b o, b ∉ [h.objs.size] → (h.push { cls := Value.type "list_iterator", data := Data.fields #[Value.ref ra, Value.int 0 0] }).get? b = some o → s₃.heap.get? b = some o) → ∀ b o, h.get? b = some o → s₃.heap.get? b = some o :=
          fun s₃ hk b o e => hk b o (fun q => Nat.lt_irrefl _ (by have := Heap.lt_size e; rw [List.mem_singleton.mp q] at this; exact this)) (Heap.get?_push_of_some _ e)
        have item : ∀ (i : Nat) (v : Value), vs.toArray[i]? = some v → ∃ a k, v = .ref a ∧ TupAt s.heap a (rowC k) := fun i v hv => by
          have hil : i < ks.length := by have := (List.getElem?_eq_some_iff.mp (show vs[i]? = some v by simpa using hv)).1; rw [← hr.length]; exact this
          obtain ⟨a, ha, ta⟩ := hr.get i ks[i] (by simp [hil])
          exact ⟨a, ks[i], by simp [ha] at hv; exact hv.symm, ta⟩
        refine ⟨?_, ?_⟩
        · intro C i v s₃ m₃ E' hC hP hn3 hm3 hk3 _
          obtain ⟨a, k, rfl, tak⟩ := item i v hP
          have hup := up s₃ hk3
          refine wpAny_tests_one ?_
          refine test_fits (k := k) rfl (by rfl) (by rfl) (by rfl) (by rfl) (by rfl) ⟨ot, hup _ _ (N₃ _ (.tail _ (.tail _ (.head _)))).1, dt⟩ ⟨oa, hup _ _ (N₃ _ (.tail _ (.head _))).1, da⟩ hn3 hm3 (tak.keeps fun o e => hup _ _ (F₃.keep _ _ e)) (by omega) (by rw [ht]; omega) ?_
          intro h' tk' hk'
          rw [ht]
          exact ⟨(fitsV_eq tak).symm, h', tk', rfl, hk'⟩
        · intro C i v s₃ m₃ E' hC hP _ hn3 hm3 hk3 _
          exact wpAny_Name (wpAny_loadName_local rfl (by rfl) hn3 hm3 ⟨rfl, _, _, rfl, fun _ _ e => e⟩)
      case fin =>
        intro D h₄ tk₄ ys vs' hD hlD hplD hlen hPv hpair hns4 hk4
        obtain rfl : vs' = vs := by
          refine List.ext_getElem? fun i => ?_
          by_cases hi : i < vs'.length
          · have := hPv i vs'[i] (by simp [hi])
            rw [List.getElem?_eq_getElem hi]
            simpa using this.symm
          · have hi' : ¬ i < vs.length := by simp at hlen; omega
            simp [hi, hi']
        have hys := paired_eq hpair
        have rf := rows_filter (t := t) (at' := at') hr
        rw [← hys] at rf
        cases n' with
        | zero => simp [readF] at hrd
        | succ n' =>
        rw [readF, if_pos hatl] at hrd
        cases hkf : ks.filter (fits t at') with
        | nil => rw [hkf] at hrd; cases hrd
        | cons k kr =>
        rw [hkf] at hrd rf
        obtain ⟨rest', hrd', rfl⟩ := Option.map_eq_some_iff.mp hrd
        obtain ⟨yv, yr, hyl⟩ : ∃ yv yr, ys.toList = yv :: yr := by
          cases hq : ys.toList with
          | nil => rw [hq] at rf; exact rf.elim
          | cons a b => exact ⟨a, b, rfl⟩
        rw [hyl] at rf
        obtain ⟨⟨a, rfl, tak⟩, _⟩ := rf
        obtain ⟨nD, hgD⟩ := hplD
        obtain rfl : ys = (.ref a :: yr).toArray := by rw [← hyl]
        have hDh : h.get? D = none := by
          cases q : h.get? D with
          | none => rfl
          | some o => rw [Heap.get?_push_of_some _ q] at hD; cases hD
        have hkk : ∀ b o, b ≠ s.heap.objs.size → h.get? b = some o → h₄.get? b = some o := fun b o hb e =>
          hk4 b o hb (fun q => Nat.lt_irrefl _ (by have := Heap.lt_size e; rw [List.mem_singleton.mp q] at this; exact this)) (Heap.get?_push_of_some _ e)
        have F₄ : Fr s.heap s.heap.objs.size h₄ (fun z => if z = "fits" then some (.ref D) else pin [("told", .ref tl), ("rows", .ref ra)] u z) :=
          ⟨hns4, fun b o e => hkk b o (Nat.ne_of_lt (Heap.lt_size e)) (F₃.keep b o e), F₃.above⟩
        have N₄ : News s.heap s.heap.objs.size h₄ [(D, lst (.ref a :: yr) nD), (tl, lst dvs n1), (s.heap.objs.size + 1 + 1, oa), (s.heap.objs.size + 1, ot)] := fun p hp => by
          rcases List.mem_cons.mp hp with e | hp
          · rw [e]
            refine ⟨hgD, fun e' => ?_, ?_⟩
            · obtain ⟨oL, _, _, hL, _⟩ := F₃.ns
              have e'' : D = s.heap.objs.size := e'
              rw [e'', hL] at hDh; cases hDh
            · cases q : s.heap.get? D with
              | none => rfl
              | some o' => rw [F₃.keep _ _ q] at hDh; cases hDh
          · exact ⟨hkk _ _ (N₃ p hp).2.1 (N₃ p hp).1, (N₃ p hp).2⟩
        clear hk4 hns4 hlD hkk hPv hpair hys hD hyl
        dsimp only
        have hdl : dvs.length ≤ 1000 := by rw [hdi.length]; have := congrArg List.length hdn; simp at this; omega
        have hlt1 := ltN (a := s.heap.objs.size + 1 + 1) (b := tl) hlt.1
        have hlt2 := ltN (a := s.heap.objs.size + 1) (b := tl) hlt.2
        have hDt : @Ne Nat D tl := fun e => by rw [e, (N₃ _ (.head _)).1] at hDh; cases hDh
        have hD1 : @Ne Nat D (s.heap.objs.size + 1 + 1) := fun e => by rw [e, (N₃ _ (.tail _ (.head _))).1] at hDh; cases hDh
        have hD2 : @Ne Nat D (s.heap.objs.size + 1) := fun e => by rw [e, (N₃ _ (.tail _ (.tail _ (.head _)))).1] at hDh; cases hDh
        clear F₃ N₃ hrd
        k_steps
        refine row_item (k := 1) (c := .i (num k)) (tak.keeps fun o e => F₄.keep _ _ e) rfl (by decide) fun v hv => ?_
        obtain ⟨t1, rfl⟩ := hv
        k_steps
        (rename Fr _ _ _ _ => F₅); (rename News _ _ _ _ => N₅)
        refine row_item (k := 3) (c := .i ((sgn k).length : Int)) (tak.keeps fun o e => F₅.keep _ _ e) rfl (by decide) fun v hv => ?_
        obtain ⟨t3, rfl⟩ := hv
        k_steps
        (rename Fr _ _ _ _ => F₆); (rename News _ _ _ _ => N₆); (rename (Obj.data _ = Data.cell (some (Value.int (_ + _) _))) => d₆)
        rw [← Int.natCast_add] at d₆
        exact ⟨n', Nat.lt_succ_self _, _, _, _, dvs ++ [.int (num k) t1], n1 + 1, _, ot, at' + (sgn k).length, _, dn ++ [num k], rest', rfl, fr_pin F₆ (pin_cons rfl (pin_cons rfl (pin_nil _))), fun p hp => N₆ p (.tail _ hp), d₆, dt, hdi.append (.cons _ _ .nil), hrd', by rw [← hdn]; simp⟩
    · (rename (¬ _ < _) => hge)
      cases n' with
      | zero => simp [readF] at hrd
      | succ n' =>
      rw [readF, if_neg (by omega)] at hrd
      cases hrd
      rw [List.append_nil] at hdn
      subst hdn
      exact hR _ _ _ _ (Stays.of F₃.keep) (N₃.fresh (.head _)) (N₃.get (.head _)) hdi
end Mine
end

/-! part Q1 -/
section
open PySem PySem.W PyProof.Rows
namespace Mine

section
variable {prog : Program} {w : World} {A : Around} {env : Env} {s : Shared}

theorem comp_assign {elt iter : Expr} {x y : Str} {px py : Pos} {scope : Scope} {cl : List (Str × Addr)} {pos spos : Pos} {Q : Flow → Shared → Prop} {E : Value → Shared → Prop}
    (hsw : swapsWith (.ListComp elt [⟨.Name x px, iter, [], 0⟩] scope pos) (some (.Name y py)) spos.line env = pure true)
    (hclos : closureFor scope env = pure cl) (hcell : ∀ z ∈ scope.names, z.2 ≠ .cell) (hkind : scope.kind = .function)
    (hnames : ∀ z ∈ scope.names, z.2 = .local → scope.names.lookup z.1 = some .local) (hx : scope.names.lookup x = some .local)
    (hy : env.kindOf y = some .local) (hp : (env.scope.kind == .class || (env.scope.kind == .module && env.locals != env.globals)) = false)
    (h : wpAny (model prog w) A (eval iter env) (fun xv s₁ => wpAny (model prog w) A (pyIter xv) (fun it s₂ => ∃ I fp n P St m, ∃ K : List Value → List Value → Heap → Prop,
      it = .ref I ∧ Walks prog w A I fp [I] n P St ∧ n ≤ 1000 ∧ St 0 s₂.heap ∧ (∀ b ∈ fp, b < s₂.heap.objs.size) ∧ I < s₂.heap.objs.size ∧ env.locals ≠ I ∧ s₂.heap.Ns env.locals m ∧ K [] [] s₂.heap ∧
      (∀ vs ys h h', K vs ys h → (∀ q o, s₂.heap.objs.size + 2 ≤ q → h.get? q = some o → h'.get? q = some o) → K vs ys h') ∧
      (∀ C v vs ys s₃ m₃ E', P vs.length v → K vs ys s₃.heap → s₃.heap.Ns C m₃ → m₃ x = some v → (∀ b o, b ≠ I → s₂.heap.get? b = some o → s₃.heap.get? b = some o) → s₂.heap.objs.size + 2 ≤ s₃.heap.objs.size →
        wpAny (model prog w) A (eval elt (compEnvC scope cl C env)) (fun y s₄ => K (vs ++ [v]) (ys ++ [y]) s₄.heap ∧ Keeps s₃ s₄) E' s₃) ∧
      (∀ D h' tk ys vs, s₂.heap.get? D = none → h'.IsList D ys.toArray → vs.length = n → (∀ (j : Nat) (v : Value), vs[j]? = some v → P j v) → K vs ys h' →
        h'.Ns env.locals (fun z => if z = y then some (.ref D) else m z) → (∀ b o, b ≠ env.locals → b ≠ I → s₂.heap.get? b = some o → h'.get? b = some o) → Q .next { s₂ with heap := h', toks := tk })) E s₁) E s)
    (hs : ∀ x, foldedSetIterable iter env x = pure x := by intro _; rfl) :
    wpAny (model prog w) A (exec (.Assign [.Name y py] (.ListComp elt [⟨.Name x px, iter, [], 0⟩] scope pos) spos) env) Q E s := by
  rw [exec_Assign_Name_used _ _ _ _ hsw]
  refine wpAny_bind (wpAny_standAt (wpAny_bind ?_))
  show wpAny _ A (do let _ ← comprehension (.ListComp elt [⟨.Name x px, iter, [], 0⟩] scope pos) scope env _ (newList []) false (eval iter env) (some (assign (.Name y py) env))) _ _ s
  refine wpAny_bind (wpAny_mono (wpAny_comprehension_free (use := some (assign (.Name y py) env)) (Q := fun _ s' => Q .next s') rfl hs hclos hkind hnames
    (wpAny_mono h (fun xv s₁ h₁ => wpAny_mono h₁ (fun it s₂ h₂ => ?_) fun _ _ e => e) fun _ _ e => e)) (fun _ s' hq => wpAny_pure (wpAny_pure hq)) fun _ _ e => e)
  obtain ⟨I, fp, n, P, St, m, K, rfl, W, hsz, hst, hfp, hI, hLI, hn, hK0, hKm, turn, hQ⟩ := h₂
  refine wpAny_newObj_type (wpAny_newFunctionEnv hcell (by intro y hy; simp at hy) (fun h₁ hns₁ hsb₁ => ?_) hkind)
  dsimp only at hns₁ hsb₁ ⊢
  generalize hH2 : s₂.heap.push { cls := .type "list", dict := none, data := .seq ([] : List Value).toArray } = H2 at hns₁ hsb₁ ⊢
  have hC : H2.objs.size = s₂.heap.objs.size + 1 := by rw [← hH2, Heap.size_push]
  generalize hCe : H2.objs.size = C at hns₁ hsb₁ hC ⊢
  have hLlt := hn.lt
  have hLN := ltN hn.lt
  have hIN := ltN hI
  have hCN : @Eq Nat C (s₂.heap.objs.size + 1) := hC
  have old : ∀ b o, s₂.heap.get? b = some o → h₁.get? b = some o := fun b o e =>
    hsb₁.extBut b o (by rw [hC]; exact Nat.ne_of_lt (Nat.lt_succ_of_lt (Heap.lt_size e))) (Heap.get?_push_of_some _ (hH2 ▸ Heap.get?_push_of_some _ e))
  have hDC : s₂.heap.objs.size ≠ C := by rw [hC]; exact Nat.ne_of_lt (Nat.lt_succ_self _)
  have hacc : h₁.IsList s₂.heap.objs.size ([] : List Value).toArray := ⟨_, hsb₁.extBut _ _ hDC (Heap.get?_push_of_some _ (hH2 ▸ Heap.get?_push_size _ rfl)), rfl, _, rfl⟩
  have hst₁ : St 0 h₁ := W.frame _ _ _ hst fun b _ o e => old b o e
  have hDn : s₂.heap.get? s₂.heap.objs.size = none := by
    cases e : s₂.heap.get? s₂.heap.objs.size with
    | none => rfl
    | some o => exact absurd (Heap.lt_size e) (Nat.lt_irrefl _)
  have hCn : s₂.heap.get? C = none := by
    cases e : s₂.heap.get? C with
    | none => rfl
    | some o => exact absurd (Heap.lt_size e) (by rw [hC]; exact Nat.not_lt.mpr (Nat.le_succ _))
  have hLC : env.locals ≠ C := by rw [hC]; exact Nat.ne_of_lt (Nat.lt_succ_of_lt hLlt)
  have hLD : env.locals ≠ s₂.heap.objs.size := Nat.ne_of_lt hLlt
  have hIC : I ≠ C := by rw [hC]; exact Nat.ne_of_lt (Nat.lt_succ_of_lt hI)
  have hID : I ≠ s₂.heap.objs.size := Nat.ne_of_lt hI
  have hfpC : ∀ b ∈ fp, b ≠ C ∧ b ≠ s₂.heap.objs.size := fun b hb => ⟨by rw [hC]; exact Nat.ne_of_lt (Nat.lt_succ_of_lt (hfp b hb)), Nat.ne_of_lt (hfp b hb)⟩
  have big : ∀ q, s₂.heap.objs.size + 2 ≤ q → q ≠ I ∧ q ≠ C ∧ q ≠ s₂.heap.objs.size := fun q hq => ⟨fun e => by have e' : @Eq Nat q I := e; omega, fun e => by have e' : @Eq Nat q C := e; omega, fun e => by have e' : @Eq Nat q s₂.heap.objs.size := e; omega⟩
  have loop : ∀ s₃ : Shared, s₃ = { s₂ with heap := h₁, toks := s₂.toks + ([] : List (Str × Value)).length } →
      codeAny (model prog w) A (.compLoop (.ListComp elt [⟨.Name x px, iter, [], 0⟩] scope pos) 0 (.ref I) (.ref s₂.heap.objs.size) (compEnvC scope cl C env))
        (compPost (model prog w) A E (some (assign (.Name y py) env)) (fun _ s' => Q .next s') (.ref s₂.heap.objs.size) C) s₃ := by
    rintro s₃ rfl
    refine codeAny_compLoop_tests (fun k s' => ∃ h' tk m' ys vs, s' = { s₂ with heap := h', toks := tk } ∧ St (List.length vs) h' ∧ h'.IsList s₂.heap.objs.size (List.toArray ys) ∧ h'.Ns C m' ∧ ys.length ≤ vs.length ∧ vs.length ≤ n ∧
      k = n + 1 - vs.length ∧ (∀ (j : Nat) (v : Value), vs[j]? = some v → P j v) ∧ K vs ys h' ∧ (∀ b o, b ≠ I → s₂.heap.get? b = some o → h'.get? b = some o)) ?_ (n + 1)
      ⟨h₁, _, _, [], [], rfl, hst₁, hacc, hns₁, Nat.le_refl _, Nat.zero_le _, rfl, fun j v e => by simp at e, hKm _ _ _ _ hK0 fun q o _ e => old q o e, fun b o _ e => old b o e⟩
    rintro k s' ⟨h', tk, m', ys, vs, rfl, hS, hD, hnC, hyl, hvl, rfl, hP, hK, hk⟩
    by_cases hin : vs.length < n
    · refine W.item _ _ _ _ hin hS fun v h₂ tk₂ hPv hS₂ hk₂ => ?_
      have hnC₂ : h₂.Ns C m' := hnC.at' fun o e => hk₂ _ o (fun q => hIC (List.mem_singleton.mp q).symm) e
      refine wpAny_assign_Name (wpAny_storeName_local (env := compEnvC scope cl C env) (lookup_relabel_local hx) hnC₂ (fun h₃ hn₃ hs₃ => ?_) (by simp [compEnvC, relabel, hkind]))
      refine wpAny_tests_nil ?_
      simp only [if_true]
      have hk₃ : ∀ b o, b ≠ C → b ≠ I → h'.get? b = some o → h₃.get? b = some o := fun b o hbC hbI e => hs₃.extBut b o hbC (hk₂ b o (fun q => hbI (List.mem_singleton.mp q)) e)
      refine wpAny_mono (turn C v vs ys _ _ _ hPv (hKm _ _ _ _ hK fun q o hq e => hk₃ q o (big q hq).2.1 (big q hq).1 e) hn₃ (by simp) (fun b o hbI e => hk₃ b o (fun q => by rw [q, hCn] at e; cases e) hbI (hk b o hbI e))
        (by have := ltN (show C < h₃.objs.size from hn₃.lt); show _ ≤ h₃.objs.size; omega)) (fun yv s₄ h₄ => ?_) fun _ _ e => e
      obtain ⟨hK₄, h₄', tk₄, rfl, hk₄⟩ := h₄
      have hD₄ : h₄'.IsList s₂.heap.objs.size ys.toArray := hD.at fun o e => hk₄ _ o (hk₃ _ o hDC (Ne.symm hID) e)
      refine wpAny_list_append hD₄ (fun h₅ hl₅ hs₅ => ?_) (by simp; rw [sizeLine_eq]; omega)
      have hnC₅ := (hn₃.keeps hk₄).sameBut hs₅ (Ne.symm hDC)
      refine ⟨n + 1 - (vs ++ [v]).length, by simp; omega, h₅, tk₄, _, ys ++ [yv], vs ++ [v], rfl, ?_, ?_, hnC₅, by simp; omega, by simp; omega, rfl, ?_, ?_, ?_⟩
      · have : St (vs.length + 1) h₅ := W.frame _ _ _ hS₂ fun b hb o e => hs₅.extBut b o (hfpC b hb).2 (hk₄ b o (hs₃.extBut b o (hfpC b hb).1 e))
        simpa using this
      · rw [← List.push_toArray]; exact hl₅
      · intro j u e
        by_cases hj : j < vs.length
        · rw [List.getElem?_append_left hj] at e; exact hP j u e
        · rw [List.getElem?_append_right (by omega)] at e
          have : j - vs.length = 0 := by
            have := (List.getElem?_eq_some_iff.mp e).1; simp at this; omega
          rw [this] at e
          simp at e
          obtain rfl : j = vs.length := by omega
          exact e ▸ hPv
      · exact hKm _ _ _ _ hK₄ fun q o hq e => hs₅.extBut q o (big q hq).2.2 e
      · intro b o hbI e
        exact hs₅.extBut b o (fun q => by rw [q, hDn] at e; cases e) (hk₄ b o (hk₃ b o (fun q => by rw [q, hCn] at e; cases e) hbI (hk b o hbI e)))
    · obtain hvn : vs.length = n := by omega
      rw [hvn] at hS
      refine W.done _ _ _ hS fun h₂ tk₂ hk₂ => ?_
      have hk₂' : ∀ b o, b ≠ I → h'.get? b = some o → h₂.get? b = some o := fun b o hbI e => hk₂ b o (fun q => hbI (List.mem_singleton.mp q)) e
      show wpAny _ A (assign (.Name y py) env (.ref s₂.heap.objs.size)) _ _ _
      have hnL : h₂.Ns env.locals m := hn.at' fun o e => hk₂' _ o hLI (hk _ o hLI e)
      refine wpAny_assign_Name (wpAny_storeName_local hy hnL (fun h₃ hn₃ hs₃ => ?_) hp)
      refine ⟨m', (hnC.at' fun o e => hk₂' _ o (Ne.symm hIC) e).sameBut hs₃ (Ne.symm hLC), fun h₄ hs₄ => ?_⟩
      have hall : ∀ b o, b ≠ env.locals → b ≠ I → b ≠ C → h'.get? b = some o → h₄.get? b = some o := fun b o h1 h2 h3 e => hs₄.extBut b o h3 (hs₃.extBut b o h1 (hk₂' b o h2 e))
      refine hQ _ h₄ _ ys vs hDn (hD.at fun o e => hall _ o (Ne.symm hLD) (Ne.symm hID) hDC e) hvn hP (hKm _ _ _ _ hK fun q o hq e => hall q o (fun e' => by have e'' : @Eq Nat q env.locals := e'; omega) (big q hq).1 (big q hq).2.1 e) (hn₃.sameBut hs₄ hLC) ?_
      intro b o hbL hbI e
      exact hall b o hbL hbI (fun q => by rw [q, hCn] at e; cases e) (hk b o hbI e)
  exact codeAny_compStart_list (loop _ rfl) (W.self 0 _ _ _ hst₁ (loop _ rfl))
end
end Mine
end

/-! part D1 -/
section
open PySem PySem.W PyProof.Rows
namespace Mine

noncomputable def dictE (P : Params) : List DictEntry := match (hd.heap_39 P).lookup 43 with
  | some ⟨_, _, .dict es _, _⟩ => es.toList
  | _ => []
def keyTok (e : DictEntry) : Tok := match e.key with | .str _ t => t | _ => 0
def valTok (e : DictEntry) : Tok := match e.val with | .int _ t => t | _ => 0
theorem tab_is (P : Params) : dictE P = List.zipWith (fun e p => (⟨PyData.keyHash P (mkS p.1), .str (mkS p.1) (keyTok e), .int p.2 (valTok e)⟩ : DictEntry)) (dictE P) tab := by kernel_rfl
theorem dictE_len (P : Params) : (dictE P).length = 48 := by kernel_rfl
theorem dict_obj (P : Params) : (hd.heap_39 P).lookup 43 = some { cls := .type "dict", data := .dict (dictE P).toArray 48 } := by kernel_rfl

noncomputable def kvs (P : Params) : List (Str × Value) := List.zipWith (fun e p => (mkS p.1, Value.int p.2 (valTok e))) (dictE P) tab

theorem pairs_zip (prog : Program) (w : World) : ∀ (es : List DictEntry) (ps : List (List Nat × Int)),
    Pairs (PySem.strKind prog w) (List.zipWith (fun e p => (⟨PyData.keyHash w.params (mkS p.1), .str (mkS p.1) (keyTok e), .int p.2 (valTok e)⟩ : DictEntry)) es ps) (List.zipWith (fun e p => (mkS p.1, Value.int p.2 (valTok e))) es ps)
  | [], _ => .nil
  | _ :: _, [] => .nil
  | e :: es, p :: ps => .cons (by simp [PySem.strKind, Value.isStrOf]) rfl (pairs_zip prog w es ps)
theorem keys_zip (prog : Program) (w : World) : ∀ (es : List DictEntry) (ps : List (List Nat × Int)), ∀ e ∈ (List.zipWith (fun e p => (⟨PyData.keyHash w.params (mkS p.1), .str (mkS p.1) (keyTok e), .int p.2 (valTok e)⟩ : DictEntry)) es ps),
    ∃ k, (PySem.strKind prog w).is k e.key = true ∧ e.hash = (PySem.strKind prog w).hash k
  | [], _, e, h => by simp at h
  | _ :: _, [], e, h => by simp at h
  | e :: es, p :: ps, e', h => by
    rw [List.zipWith_cons_cons] at h
    rcases List.mem_cons.mp h with rfl | h
    · exact ⟨mkS p.1, by simp [PySem.strKind, Value.isStrOf], rfl⟩
    · exact keys_zip prog w es ps e' h
theorem kvs_keys : ∀ (es : List DictEntry) (ps : List (List Nat × Int)), ps.length ≤ es.length → ((List.zipWith (fun e p => (mkS p.1, Value.int p.2 (valTok e))) es ps).map (·.1)) = ps.map (fun p => mkS p.1)
  | [], [], _ => rfl
  | [], _ :: _, h => by simp at h
  | _ :: _, [], _ => by simp
  | e :: es, p :: ps, h => by simp; simpa using kvs_keys es ps (by simpa using h)
theorem nodup_mk : ∀ {l : List (List Nat)}, l.Nodup → (l.map mkS).Nodup
  | [], _ => .nil
  | a :: r, h => by
    rw [List.map_cons]
    rw [List.nodup_cons] at h ⊢
    exact ⟨fun q => by obtain ⟨b, hb, e⟩ := List.mem_map.mp q; rw [mkS_inj e] at hb; exact h.1 hb, nodup_mk h.2⟩

theorem dict_at {w : World} {mg mb : Str → Option Value} {h : Heap} (prog : Program) (g : G w mg mb h) : h.DictAt (PySem.strKind prog w) 43 (kvs w.params) 48 := by
  refine ⟨_, _, g.k _ _ (dict_obj w.params), ⟨rfl, rfl, rfl⟩, rfl, ?_, ?_, ?_⟩
  · intro e he
    rw [tab_is w.params] at he
    exact keys_zip prog w _ _ e (by simpa using he)
  · rw [tab_is w.params]
    show Pairs _ _ (List.zipWith _ _ _)
    have := pairs_zip prog w (dictE w.params) tab
    exact this
  · unfold kvs
    rw [kvs_keys _ _ (by rw [dictE_len]; decide)]
    rw [show tab.map (fun p => mkS p.1) = (tab.map (·.1)).map mkS by simp]
    exact nodup_mk (by decide)

theorem kvs_get {P : Params} {i : Nat} {k : Str} {v : Value} (h : (kvs P)[i]? = some (k, v)) : i < 48 ∧ k = mkS (sgn i) ∧ ∃ u, v = .int (num i) u := by
  unfold kvs at h
  rw [List.getElem?_zipWith] at h
  cases h1 : (dictE P)[i]? with
  | none => rw [h1] at h; simp at h
  | some e =>
    cases h2 : tab[i]? with
    | none => rw [h1, h2] at h; simp at h
    | some p =>
      rw [h1, h2] at h
      simp at h
      have hi : i < 48 := (List.getElem?_eq_some_iff.mp h2).1
      refine ⟨hi, ?_, valTok e, ?_⟩
      · rw [← h.1]; simp [sgn, List.getD_eq_getElem?_getD, h2]
      · rw [← h.2]; simp [num, List.getD_eq_getElem?_getD, h2]
theorem kvs_len (P : Params) : (kvs P).length = 48 := by
  unfold kvs
  rw [List.length_zipWith, dictE_len]; rfl
theorem kvs_at (P : Params) {i : Nat} (hi : i < 48) : ∃ u, (kvs P)[i]? = some (mkS (sgn i), .int (num i) u) := by
  have hl : i < (kvs P).length := by rw [kvs_len]; exact hi
  obtain ⟨_, e1, u, e2⟩ := kvs_get (P := P) (i := i) (k := (kvs P)[i].1) (v := (kvs P)[i].2) (by simp [hl])
  exact ⟨u, by rw [List.getElem?_eq_getElem hl, ← e1, ← e2]⟩
end Mine
end

/-! part E1 -/
section
open PySem PySem.W PyProof.Rows
namespace Mine
theorem fill_E1 (w : World) : hd.heap_39 w.params = hd.heap_39 w.params ∧ PySem.Challenge.rw_mr0172_01 = PySem.Challenge.rw_mr0172_01 := by k_fill; exact ⟨rfl, rfl⟩

section
variable {prog : Program} {w : World} {A : Around} {s : Shared} {E : Value → Shared → Prop} {cenv : Env} {mg mb : Str → Option Value} {m : Str → Option Value}

theorem first_sign {Q : Value → Shared → Prop} {value slice : Expr} {c : Nat} {r : List Nat} {t u : Tok} (h : Q (.str (mkS [c]) s.toks) { s with toks := s.toks + 1 })
    (hs : subscripted slice false (.str (mkS (c :: r)) t) (.int 0 u) = operate [.str (mkS (c :: r)) t, .int 0 u] (getItem (.str (mkS (c :: r)) t) (.int 0 u)) := by with_unfolding_all rfl) :
    wpAny (model prog w) A (subscriptTail value slice (.str (mkS (c :: r)) t) (.int 0 u)) Q E s :=
  tail_any (T := "str") (typeIs_str _ _ _) F.slot_str_getitem.lookup (P.getItem_str (c := c) (by decide) (by simp [seqIndex?, mkS, Str.length]) h) hs

theorem sgn_cons {k : Nat} (hk : k < 48) : ∃ c r, sgn k = c :: r := by
  have : ∀ k < 48, sgn k ≠ [] := by decide
  cases h : sgn k with
  | nil => exact absurd h (this k hk)
  | cons c r => exact ⟨c, r, rfl⟩
theorem sgn_len (k : Nat) : (sgn k).length ≤ 3 := by
  by_cases hk : k < 48
  · have : ∀ k < 48, (sgn k).length ≤ 3 := by decide
    exact this k hk
  · simp [sgn, List.getD_eq_getElem?_getD, List.getElem?_eq_none (show tab.length ≤ k by rw [show tab.length = 48 from rfl]; omega)]

/-- sign[0] in text -/
theorem test_sign {Q : Bool → Shared → Prop} {p1 p2 p3 p4 p5 : Pos} {whole : Sem Value} {x : Str} {tx t : Tok} {ct : Addr} {k : Nat}
    (hk : cenv.scope.kind = .function) (ht : cenv.kindOf "text" = some .cell) (hr : cenv.kindOf "sign" = some .local) (hct : cenv.cells.lookup ("text" : Str) = some ct)
    (hvt : s.heap.IsCell ct (some (.str x tx))) (hns : s.heap.Ns cenv.locals m) (hm : m "sign" = some (.str (mkS (sgn k)) t)) (hk48 : k < 48)
    (h : ∀ tk, Q (decide ((sgn k).headD 0 ∈ x.cps.toList)) { s with toks := tk }) :
    wpAny (model prog w) A (isTrue (.Compare (.Subscript (.Name "sign" p1) (.Constant (.int 0) 0 p2) p3) [.In] [.Name "text" p4] p5) cenv whole) Q E s := by
  refine wpAny_isTrue_Compare1 (Subscript_ (wpAny_Name (wpAny_loadName_local hk hr hns hm (wpAny_Constant_int ?_))))
  obtain ⟨c, r, hc⟩ := sgn_cons hk48
  rw [hc] at h ⊢
  refine first_sign ?_
  refine wpAny_Name (wpAny_loadName_cell hk ht hct hvt ?_)
  refine in_str ?_
  rw [show mkS [c] = ⟨#[c]⟩ from rfl, StrLaws.found_one]
  exact wpAny_truthy_bool (h _)

theorem glob_name {Q : Value → Shared → Prop} {x : Str} {p : Pos} {v : Value} (g : G w mg mb s.heap) (hk : cenv.scope.kind = .function) (hx : cenv.kindOf x = some .globalImplicit) (hg : cenv.globals = mainGlobals)
    (e : nsIn (hd.heap_39 w.params) mainGlobals x = some (some v)) (h : Q v s) (hd : (x == ("__debug__" : Str)) = false := by decide) : wpAny (model prog w) A (eval (.Name x p) cenv) Q E s :=
  Calls.Name_function_global hk hx (Calls.loadGlobal_global (env := cenv) (by rw [hg]; exact g.t.g) (mg_of g.k g.t.g e) h) hd
theorem built_name {Q : Value → Shared → Prop} {x : Str} {p : Pos} {v : Value} (g : G w mg mb s.heap) (hk : cenv.scope.kind = .function) (hx : cenv.kindOf x = some .globalImplicit) (hg : cenv.globals = mainGlobals) (hb : cenv.builtins = builtinsNs)
    (e : nsIn (hd.heap_39 w.params) mainGlobals x = some none) (hv : bootBuiltins x = some v) (hn : x ≠ "__name__") (h : Q v s) (hd : (x == ("__debug__" : Str)) = false := by decide) : wpAny (model prog w) A (eval (.Name x p) cenv) Q E s :=
  Calls.Name_function_global hk hx (Calls.loadGlobal_builtin (env := cenv) (by rw [hg]; exact g.t.g) (mg_none_of g.k g.t.g e) (by rw [hb]; exact g.t.b) ((g.t.builtins x hn).trans hv) h) hd

theorem len_sign {Q : Value → Shared → Prop} {p8 p9 p10 : Pos} {k : Nat} {t : Tok} (g : G w mg mb s.heap) (hk : cenv.scope.kind = .function) (hr : cenv.kindOf "sign" = some .local) (hL : cenv.kindOf "len" = some .globalImplicit) (hg : cenv.globals = mainGlobals)
    (hb : cenv.builtins = builtinsNs) (hns : s.heap.Ns cenv.locals m) (hm : m "sign" = some (.str (mkS (sgn k)) t)) (h : ∀ tk u, Q (.int ((sgn k).length : Int) u) { s with toks := tk }) :
    wpAny (model prog w) A (eval (.Call (.Name "len" p8) [.Name "sign" p9] [] p10) cenv) Q E s := by
  refine Call_Name1 (built_name (v := .builtin "len") g hk hL hg hb (by kernel_rfl) (by boot_by_name) (by decide) ?_)
  refine callWith_builtin1 (wpAny_Name (wpAny_loadName_local hk hr hns hm ?_))
  have := sgn_len k
  refine len_str (by rw [mkS_length]; omega) ?_
  rw [mkS_length]
  exact h _ _

theorem elt_row {Q : Value → Shared → Prop} {p1 p2 p3 p4 p5 p6 p7 p8 p9 p10 p11 p12 p13 p14 p15 : Pos} {k : Nat} {t : Tok} (g : G w mg mb s.heap) (hk : cenv.scope.kind = .function) (hr : cenv.kindOf "sign" = some .local)
    (hE : cenv.kindOf "EXACT_TOKEN_TYPES" = some .globalImplicit) (hL : cenv.kindOf "len" = some .globalImplicit) (hg : cenv.globals = mainGlobals) (hb : cenv.builtins = builtinsNs) (hns : s.heap.Ns cenv.locals m) (hm : m "sign" = some (.str (mkS (sgn k)) t)) (hk48 : k < 48)
    (h : ∀ tk o, o.isFreed = false → TupAt (s.heap.push o) s.heap.objs.size (rowC k) → Q (.ref s.heap.objs.size) { s with heap := s.heap.push o, toks := tk }) :
    wpAny (model prog w) A (eval (.Tuple [.Name "sign" p1, .Subscript (.Name "EXACT_TOKEN_TYPES" p2) (.Name "sign" p3) p4, .Subscript (.Name "sign" p5) (.Constant (.int 0) 0 p6) p7, .Call (.Name "len" p8) [.Name "sign" p9] [] p10, .UnaryOp .USub (.Call (.Name "len" p11) [.Name "sign" p12] [] p13) p14] 0 p15) cenv) Q E s := by
  refine Tuple_ (spliced_more (wpAny_Name (wpAny_loadName_local hk hr hns hm ?_)))
  refine spliced_more (Subscript_ (glob_name (v := .ref 43) g hk hE hg (by kernel_rfl) (wpAny_Name (wpAny_loadName_local hk hr hns hm ?_))))
  obtain ⟨u, hu⟩ := kvs_at w.params hk48
  have hd := dict_at prog g
  have hmap := hd.dictOf.mapOf
  obtain ⟨_, _, _, _, _, _, _, hnd⟩ := hd
  refine tail_any hmap.typeIs slot_dict_getitem.lookup (wpAny_getItem_of (knd := PySem.strKind prog w) (k := mkS (sgn k)) (by simp [PySem.strKind, Value.isStrOf]) hmap (valueAt_of_get hnd hu) ?_) (by with_unfolding_all rfl)
  obtain ⟨c, r, hc⟩ := sgn_cons hk48
  refine spliced_more (Subscript_ (wpAny_Name (wpAny_loadName_local hk hr hns hm (wpAny_Constant_int ?_))))
  rw [hc]
  refine first_sign ?_
  refine spliced_more (len_sign g hk hr hL hg hb hns hm fun tk1 u1 => ?_)
  refine spliced_more (wpAny_UnaryOp (len_sign g hk hr hL hg hb hns hm fun tk2 u2 => P.neg_int ?_))
  refine spliced_none ?_
  refine wpAny_newObj_type (h _ _ rfl ?_) (by size_fits)
  refine ⟨_, ⟨_, Heap.get?_push_size _ rfl, rfl, _, rfl⟩, rfl, ?_⟩
  intro i cc hi
  rw [rowC, hc] at hi
  match i, hi with
  | 0, hi => cases hi; exact ⟨_, rfl, _, rfl⟩
  | 1, hi => cases hi; exact ⟨_, rfl, _, rfl⟩
  | 2, hi => cases hi; exact ⟨_, rfl, _, rfl⟩
  | 3, hi => cases hi; exact ⟨_, rfl, _, by rw [hc]⟩
  | 4, hi => cases hi; exact ⟨_, rfl, _, by rw [hc]⟩
  | n + 5, hi => simp at hi
end
end Mine
end

/-! part G1 -/
section
open PySem PySem.W PyProof.Rows
namespace Mine
def SignsAre : List Value → List Nat → Prop
  | [], [] => True
  | v :: vs, k :: ks => (∃ t, v = .str (mkS (sgn k)) t) ∧ SignsAre vs ks
  | _, _ => False
theorem SignsAre.length : ∀ {vs : List Value} {ks : List Nat}, SignsAre vs ks → vs.length = ks.length
  | [], [], _ => rfl
  | _ :: _, _ :: _, ⟨_, r⟩ => by simp [SignsAre.length r]
theorem SignsAre.get : ∀ {vs : List Value} {ks : List Nat}, SignsAre vs ks → ∀ (i : Nat) (v : Value), vs[i]? = some v → ∃ k t, ks[i]? = some k ∧ v = .str (mkS (sgn k)) t
  | [], [], _, i, v, e => by simp at e
  | _ :: _, k :: _, ⟨⟨t, h⟩, _⟩, 0, v, e => by simp at e; subst e; exact ⟨k, t, rfl, h⟩
  | _ :: _, _ :: _, ⟨_, r⟩, i + 1, v, e => by simpa using SignsAre.get r i v (by simpa using e)
theorem signs_range : ∀ (vs : List Value) (a : Nat), (∀ (j : Nat) (v : Value), vs[j]? = some v → ∃ t, v = .str (mkS (sgn (j + a))) t) → SignsAre vs (List.range' a vs.length)
  | [], _, _ => trivial
  | v :: vs, a, h => by
    refine ⟨by simpa using h 0 v rfl, ?_⟩
    exact signs_range vs (a + 1) fun j v' e => by
      have := h (j + 1) v' (by simpa using e)
      rwa [show j + 1 + a = j + (a + 1) by omega] at this
/-- the sign's first sign is in the text -/
def inT (T : List Nat) (k : Nat) : Bool := decide ((sgn k).headD 0 ∈ T)
def inTV (T : List Nat) : Value → Bool
  | .str x _ => decide (x.cps.toList.headD 0 ∈ T)
  | _ => false
theorem inTV_eq (T : List Nat) (k : Nat) (t : Tok) : inTV T (.str (mkS (sgn k)) t) = inT T k := by simp [inTV, inT, mkS_codes]
theorem signs_filter {T : List Nat} : ∀ {vs : List Value} {ks : List Nat}, SignsAre vs ks → SignsAre (vs.filter (inTV T)) (ks.filter (inT T))
  | [], [], _ => trivial
  | _ :: vs, k :: ks, ⟨⟨t, e⟩, r⟩ => by
    have ih := signs_filter (T := T) r
    subst e
    simp only [List.filter_cons, inTV_eq]
    split
    · exact ⟨⟨t, rfl⟩, ih⟩
    · exact ih
def keysT (T : List Nat) : List Nat := (List.range' 0 48).filter (inT T)
theorem keysT_lt {T : List Nat} {k : Nat} (h : k ∈ keysT T) : k < 48 := by
  have := (List.mem_filter.mp h).1
  simpa using this
theorem keysT_len (T : List Nat) : (keysT T).length ≤ 48 := Nat.le_trans (List.length_filter_le _ _) (by simp)

def RowsGe (N : Nat) (h : Heap) : List Value → List Nat → Prop
  | [], [] => True
  | v :: vs, k :: ks => (∃ a, v = .ref a ∧ @LE.le Nat _ N a ∧ TupAt h a (rowC k)) ∧ RowsGe N h vs ks
  | _, _ => False
theorem RowsGe.mono {N : Nat} {h h' : Heap} (hk : ∀ (q : Addr) o, @LE.le Nat _ N q → h.get? q = some o → h'.get? q = some o) : ∀ {vs : List Value} {ks : List Nat}, RowsGe N h vs ks → RowsGe N h' vs ks
  | [], [], _ => trivial
  | _ :: _, _ :: _, ⟨⟨a, e, l, x⟩, r⟩ => ⟨⟨a, e, l, x.keeps fun o q => hk _ _ l q⟩, RowsGe.mono hk r⟩
theorem RowsGe.rows {N : Nat} {h : Heap} : ∀ {vs : List Value} {ks : List Nat}, RowsGe N h vs ks → RowsAt rowC h vs ks
  | [], [], _ => trivial
  | _ :: _, _ :: _, ⟨⟨a, e, _, x⟩, r⟩ => ⟨⟨a, e, x⟩, RowsGe.rows r⟩
theorem RowsGe.snoc {N : Nat} {h : Heap} {a : Addr} {k : Nat} (l : @LE.le Nat _ N a) (x : TupAt h a (rowC k)) : ∀ {vs : List Value} {ks : List Nat}, RowsGe N h vs ks → RowsGe N h (vs ++ [.ref a]) (ks ++ [k])
  | [], [], _ => ⟨⟨a, rfl, l, x⟩, trivial⟩
  | _ :: _, _ :: _, ⟨y, r⟩ => ⟨y, RowsGe.snoc l x r⟩
theorem RowsGe.fresh {N : Nat} {h : Heap} : ∀ {vs : List Value} {ks : List Nat}, RowsGe N h vs ks → ∀ v ∈ vs, ∃ a, v = .ref a ∧ @LE.le Nat _ N a
  | [], [], _, v, hv => by simp at hv
  | _ :: _, _ :: _, ⟨⟨a, e, l, _⟩, r⟩, v, hv => by
    rcases List.mem_cons.mp hv with rfl | hv
    · exact ⟨a, e, l⟩
    · exact RowsGe.fresh r v hv

/-- a tuple of these cells, as an object -/
def TupObj (o : Obj) (cs : List Cell) : Prop := o.cls = .type "tuple" ∧ ∃ vs n, o.data = .seq (List.toArray vs) n ∧ vs.length = cs.length ∧ ∀ (i : Nat) (c : Cell), cs[i]? = some c → ∃ v, vs[i]? = some v ∧ Cell.Is c v
theorem TupObj.at {h : Heap} {a : Addr} {o : Obj} {cs : List Cell} (x : TupObj o cs) (e : h.get? a = some o) : TupAt h a cs := by
  obtain ⟨hc, vs, n, hd, r⟩ := x
  exact ⟨vs, ⟨o, e, hc, n, hd⟩, r⟩
def RowsIn (rn : List (Addr × Obj)) : List Value → List Nat → Prop
  | [], [] => True
  | v :: vs, k :: ks => (∃ a o, v = .ref a ∧ (a, o) ∈ rn ∧ TupObj o (rowC k)) ∧ RowsIn rn vs ks
  | _, _ => False
theorem RowsIn.mono {rn rn' : List (Addr × Obj)} (hk : ∀ p ∈ rn, p ∈ rn') : ∀ {vs : List Value} {ks : List Nat}, RowsIn rn vs ks → RowsIn rn' vs ks
  | [], [], _ => trivial
  | _ :: _, _ :: _, ⟨⟨a, o, e, m, x⟩, r⟩ => ⟨⟨a, o, e, hk _ m, x⟩, RowsIn.mono hk r⟩
theorem RowsIn.rows {rn : List (Addr × Obj)} {h : Heap} (hk : ∀ p ∈ rn, h.get? p.1 = some p.2) : ∀ {vs : List Value} {ks : List Nat}, RowsIn rn vs ks → RowsAt rowC h vs ks
  | [], [], _ => trivial
  | _ :: _, _ :: _, ⟨⟨a, o, e, m, x⟩, r⟩ => ⟨⟨a, e, x.at (hk _ m)⟩, RowsIn.rows hk r⟩
theorem RowsGe.into {N : Nat} {h : Heap} : ∀ {vs : List Value} {ks : List Nat}, RowsGe N h vs ks → ∃ rn : List (Addr × Obj), (∀ p ∈ rn, h.get? p.1 = some p.2 ∧ @LE.le Nat _ N p.1) ∧ RowsIn rn vs ks
  | [], [], _ => ⟨[], fun p hp => by simp at hp, trivial⟩
  | _ :: _, _ :: _, ⟨⟨a, e, l, vs, ⟨o, ho, hc, n, hd⟩, x⟩, r⟩ => by
    obtain ⟨rn, h1, h2⟩ := RowsGe.into r
    refine ⟨(a, o) :: rn, fun p hp => ?_, ⟨⟨a, o, e, .head _, hc, vs, n, hd, x⟩, h2.mono fun p hp => .tail _ hp⟩⟩
    rcases List.mem_cons.mp hp with rfl | hp
    · exact ⟨ho, l⟩
    · exact h1 p hp
theorem allLt_ne {d : Nat} : ∀ {l : List (Addr × Obj)}, AllLt d l → ∀ p ∈ l, p.1 ≠ d
  | [], _, p, hp => by simp at hp
  | _ :: _, h, p, hp => by
    rcases List.mem_cons.mp hp with rfl | hp
    · exact Nat.ne_of_lt h.1
    · exact allLt_ne h.2 p hp

def ord4 : Nat → List (Nat × Int)
  | 0 => [(0, -1)]
  | 1 => [(2, 1), (0, -1)]
  | 2 => [(2, -1), (4, 1)]
  | _ => [(3, -1), (1, 1)]
/-- a list of pairs of ints in the ledger -/
def KeysIn (news : List (Addr × Obj)) (ka : Addr) (ps : List (Nat × Int)) : Prop :=
  ∃ items nk, (ka, lst items nk) ∈ news ∧ items.length = ps.length ∧ ∀ (i : Nat) (p : Nat × Int), ps[i]? = some p → ∃ a o, items[i]? = some (Value.ref a) ∧ (a, o) ∈ news ∧ TupObj o [Cell.i (p.1 : Int), Cell.i p.2]
theorem tupObj2 {a b : Int} {t u : Tok} {n : Nat} : TupObj { cls := .type "tuple", data := .seq #[.int a t, .int b u] n } [Cell.i a, Cell.i b] := by
  refine ⟨rfl, [.int a t, .int b u], n, rfl, rfl, ?_⟩
  intro i c hc
  match i, hc with
  | 0, hc => cases hc; exact ⟨_, rfl, _, rfl⟩
  | 1, hc => cases hc; exact ⟨_, rfl, _, rfl⟩
  | i + 2, hc => simp at hc
theorem keysIn1 {news : List (Addr × Obj)} {ka a : Addr} {p : Nat × Int} {o : Obj} {n : Nat} (h : (ka, lst [.ref a] n) ∈ news) (ha : (a, o) ∈ news) (ho : TupObj o [Cell.i (p.1 : Int), Cell.i p.2]) : KeysIn news ka [p] := by
  refine ⟨_, _, h, rfl, ?_⟩
  intro i q hq
  match i, hq with
  | 0, hq => cases hq; exact ⟨a, o, rfl, ha, ho⟩
  | i + 1, hq => simp at hq
theorem keysIn2 {news : List (Addr × Obj)} {ka a b : Addr} {p q : Nat × Int} {o o' : Obj} {n : Nat} (h : (ka, lst [.ref a, .ref b] n) ∈ news) (ha : (a, o) ∈ news) (ho : TupObj o [Cell.i (p.1 : Int), Cell.i p.2])
    (hb : (b, o') ∈ news) (ho' : TupObj o' [Cell.i (q.1 : Int), Cell.i q.2]) : KeysIn news ka [p, q] := by
  refine ⟨_, _, h, rfl, ?_⟩
  intro i r hr
  match i, hr with
  | 0, hr => cases hr; exact ⟨a, o, rfl, ha, ho⟩
  | 1, hr => cases hr; exact ⟨b, o', rfl, hb, ho'⟩
  | i + 2, hr => simp at hr
end Mine
end

/-! part I1 -/
section
open PySem PySem.W PyProof.Rows
namespace Mine
theorem fill_I1 (w : World) : hd.heap_39 w.params = hd.heap_39 w.params ∧ PySem.Challenge.rw_mr0172_01 = PySem.Challenge.rw_mr0172_01 := by k_fill; exact ⟨rfl, rfl⟩

section
variable {prog : Program} {w : World} {A : Around} {s : Shared} {mg mb : Str → Option Value} {R : Result → Shared → Prop}
theorem enter0 {name qual : Str} {params : Arguments} {body : List Stmt} {scope : Scope} {dV kV doc pm cdv ct oc : Value} {an od : Option Addr} {osl : Array (Option Value)} {f : Addr} {args : Args} {binds : List (Str × Value)}
    (g : G w mg mb s.heap) (ho : (hd.heap_39 w.params).lookup f = some ⟨oc, od, .func (fnOf name qual params body scope dV kV doc pm an cdv ct), osl⟩)
    (hcd : codeIn (hd.heap_39 w.params) cdv qual = true) (hroom : A.depth < recursionLimit)
    (hbind : BindsTo s (fnOf name qual params body scope dV kV doc pm an cdv ct) args binds) (hloc : ∀ y ∈ binds, scope.names.lookup y.1 = some .local)
    (h : ∀ h₁, h₁.Ns s.heap.objs.size (fun x => binds.reverse.lookup x) → (∀ b o, s.heap.get? b = some o → h₁.get? b = some o) →
      wpAny (model prog w) (A.deeper (envOf qual scope s.heap.objs.size f cdv)) (execs body (envOf qual scope s.heap.objs.size f cdv))
        (fun fl s' => R (.ok (.ret (match fl with | .ret v => v | _ => .none))) s') (fun _ _ => False)
        { s with heap := h₁, toks := s.toks + binds.length })
    (hcell : ∀ x ∈ scope.names, x.2 ≠ .cell := by decide)
    (hco : scope.isCoroutine = false := by rfl) (hgen : scope.isGenerator = false := by rfl) (hk : scope.kind = .function := by rfl) :
    codeAny (model prog w) A (.call (.ref f) args) R s := by
  refine codeAny_call_def (fd := fnOf name qual params body scope dV kV doc pm an cdv ct) (body := body) (binds := binds) hroom (g.k _ _ ho) rfl g.t.nolimit (codeRec_of g.k hcd) rfl hbind hcell hloc (fun h₁ hns hk₁ => ?_) hco hgen hk
  exact wpAny_mono (h h₁ hns hk₁) (fun _ _ x => x) (fun _ _ x => x.elim)

theorem init_spec {h₀ : Heap} {L x dx : Addr} {m : Str → Option Value} {news : List (Addr × Obj)} {v : Value}
    (g : G w mg mb h₀) (F : Fr h₀ L s.heap m) (N : News h₀ L s.heap ((x, instObj 38 dx) :: (dx, dictOf [] 0) :: news)) (hlt : ∀ p ∈ news, p.1 < dx) (hdx : dx < x) (hroom : A.depth < recursionLimit)
    (hR : ∀ h' tk hs tk', Fr h₀ L h' m → News h₀ L h' ((x, instObj 38 dx) :: (dx, dictOf [⟨hs, .str "comp_select_list" tk', v⟩] 1) :: news) → R (.ok (.ret .none)) { s with heap := h', toks := tk }) :
    codeAny (model prog w) A (.call (.ref 28) ⟨[.ref x, v], []⟩) R s := by
  refine enter0 (binds := [("self", .ref x), ("comp_select_list", v)]) (g.keeps F.keep) rfl (by kernel_rfl) hroom (BindsTo.of_eq rfl) (locs rfl) ?_
  intro h₁ hns hk₁
  have hx0 := (N _ (.head _)).2.2
  have hd0 := (N _ (.tail _ (.head _))).2.2
  have out : ∀ b o, h₀.get? b = some o → b ∉ [x, dx] := fun b o e q => by
    rcases List.mem_cons.mp q with e' | q
    · rw [e', hx0] at e; cases e
    · rw [List.mem_singleton.mp q, hd0] at e; cases e
  have st : ∀ b o, h₀.get? b = some o → (hideAll s.heap [x, dx]).get? b = some o := fun b o e => hideAll_get _ (F.keep b o e) (out b o e)
  have F' : Fr (hideAll s.heap [x, dx]) s.heap.objs.size h₁ _ := ⟨hns, fun b o e => hk₁ b o (of_hideAll _ e), Nat.le_of_eq (hideAll_size _ _)⟩
  have N' : News (hideAll s.heap [x, dx]) s.heap.objs.size h₁ [(x, instObj 38 dx), (dx, dictOf [] 0)] := fun p hp => by
    rcases List.mem_cons.mp hp with e | hp
    · rw [e]; exact ⟨hk₁ _ _ (N _ (.head _)).1, Nat.ne_of_lt (Heap.lt_size (N _ (.head _)).1), hideAll_none _ (.head _)⟩
    · rw [List.mem_singleton.mp hp]; exact ⟨hk₁ _ _ (N _ (.tail _ (.head _))).1, Nat.ne_of_lt (Heap.lt_size (N _ (.tail _ (.head _))).1), hideAll_none _ (.tail _ (.head _))⟩
  have kX := g.k.keeps st
  have kT := g.t.keeps st
  have hdxN := ltN hdx
  have st2 : ∀ b o, b ∉ [x, dx] → s.heap.get? b = some o → (hideAll s.heap [x, dx]).get? b = some o := fun b o n e => hideAll_get _ e n
  generalize hideAll s.heap [x, dx] = hb at F' N' kX kT st st2
  k_steps
  (rename Fr hb _ _ _ => F₂); (rename News hb _ _ _ => N₂)
  obtain ⟨hs, tk', N₂⟩ : ∃ hs tk', News hb s.heap.objs.size _ [(x, instObj 38 dx), (dx, dictOf [⟨hs, .str "comp_select_list" tk', v⟩] 1)] := ⟨_, _, N₂⟩
  refine hR _ _ hs tk' ?_ ?_
  · obtain ⟨oL, es, ep, hL, r⟩ := F.ns
    have hLn : L ∉ [x, dx] := fun q => by
      rcases List.mem_cons.mp q with e' | q
      · exact (N _ (.head _)).2.1 e'.symm
      · exact (N _ (.tail _ (.head _))).2.1 (List.mem_singleton.mp q).symm
    exact ⟨⟨oL, es, ep, F₂.keep _ _ (st2 _ _ hLn hL), r⟩, fun b o e => F₂.keep _ _ (st b o e), F.above⟩
  · intro p hp
    rcases List.mem_cons.mp hp with e | hp
    · rw [e]; exact ⟨(N₂ _ (.head _)).1, (N _ (.head _)).2⟩
    · rcases List.mem_cons.mp hp with e | hp
      · rw [e]; exact ⟨(N₂ _ (.tail _ (.head _))).1, (N _ (.tail _ (.head _))).2⟩
      · have hp' := N p (.tail _ (.tail _ hp))
        refine ⟨F₂.keep _ _ (st2 _ _ ?_ hp'.1), hp'.2⟩
        have h1 := ltN (hlt p hp)
        intro q
        rcases List.mem_cons.mp q with e' | q
        · have e'' : @Eq Nat p.1 x := e'
          omega
        · have e'' : @Eq Nat p.1 dx := List.mem_singleton.mp q
          omega
end
end Mine
end

/-! part PL1 -/
section
namespace Mine
def Good (t : List Nat) : Prop := ∀ c ∈ t, [c] ∈ ops
def fl (t : List Nat) : Nat := (fewest t).length
def Valid (t : List Nat) (z : Nat) : Prop := z ≤ t.length ∧ t.take z ∈ ops

theorem rests_get : ∀ (t : List Nat) (i : Nat), i ≤ t.length → (rests t).getD i [] = fewest (t.drop i)
  | t, 0, _ => by obtain ⟨r, hr⟩ := rests_head t; simp [hr]
  | c :: t, i + 1, h => by
    have := rests_get t i (by simpa using h)
    simpa [rests] using this
  | [], i + 1, h => by simp at h

theorem cand_valid {c : Nat} {t : List Nat} {z : Nat} (hz : 1 ≤ z) (h : Valid (c :: t) z) : cand (c :: t) (rests t) z = some ((7 + (ops.idxOf ((c :: t).take z) : Int)) :: fewest ((c :: t).drop z)) := by
  have h1 := h.1
  simp only [List.length_cons] at h1
  rw [cand, if_pos ⟨by rw [rests_length]; exact h1, h.2⟩, rests_get t (z - 1) (by omega)]
  obtain ⟨y, rfl⟩ : ∃ y, z = y + 1 := ⟨z - 1, by omega⟩
  simp
theorem cand_invalid {c : Nat} {t : List Nat} {z : Nat} (h : ¬ Valid (c :: t) z) : cand (c :: t) (rests t) z = none := by
  rw [cand, if_neg]
  rintro ⟨a, b⟩
  exact h ⟨by rw [rests_length] at a; simpa using a, b⟩
theorem valid_one {c : Nat} {t : List Nat} (h : Good (c :: t)) : Valid (c :: t) 1 := ⟨by simp, by simpa using h c (.head _)⟩
theorem Good.tail {c : Nat} {t : List Nat} (h : Good (c :: t)) : Good t := fun x hx => h x (.tail _ hx)

theorem bests_min {t : List Nat} {R : List (List Int)} : ∀ (zs : List Nat) (o : Option (List Int)) (y : List Int), zs.foldl (fun b z => better b (cand t R z)) o = some y →
    (∀ b, o = some b → y.length ≤ b.length) ∧ ∀ z ∈ zs, ∀ x, cand t R z = some x → y.length ≤ x.length
  | [], o, y, h => ⟨fun b e => by have h' : o = some y := h; rw [e] at h'; cases h'; exact Nat.le_refl _, fun z hz => by simp at hz⟩
  | z :: zs, o, y, h => by
    have h' : zs.foldl (fun b z => better b (cand t R z)) (better o (cand t R z)) = some y := h
    obtain ⟨h1, h2⟩ := bests_min zs _ y h'
    refine ⟨fun b e => ?_, fun z' hz' x hx => ?_⟩
    · subst e
      cases hc : cand t R z with
      | none => exact h1 b (by rw [hc]; rfl)
      | some c =>
        by_cases hl : c.length < b.length
        · have := h1 c (by rw [hc]; simp [better, hl]); omega
        · exact h1 b (by rw [hc]; simp [better, hl])
    · rcases List.mem_cons.mp hz' with rfl | hz'
      · cases o with
        | none => exact h1 x (by rw [hx]; rfl)
        | some b =>
          by_cases hl : x.length < b.length
          · exact h1 x (by rw [hx]; simp [better, hl])
          · have := h1 b (by rw [hx]; simp [better, hl]); omega
      · exact h2 z' hz' x hx

theorem fewest_some {c : Nat} {t : List Nat} (h : Good (c :: t)) : bests (c :: t) (rests t) [3, 2, 1] = some (fewest (c :: t)) := by
  obtain ⟨b, hb⟩ := bests_some (t := c :: t) (R := rests t) (by rw [cand_valid (Nat.le_refl 1) (valid_one h)]; simp)
  have : fewest (c :: t) = b := by
    show (bests (c :: t) (rests t) [3, 2, 1]).getD [] = b
    rw [hb]; rfl
  rw [hb, this]
theorem fl_le {c : Nat} {t : List Nat} {z : Nat} (h : Good (c :: t)) (hz : z ∈ [3, 2, 1]) (hv : Valid (c :: t) z) : fl (c :: t) ≤ 1 + fl ((c :: t).drop z) := by
  have := (bests_min _ _ _ (fewest_some h)).2 z hz _ (cand_valid (by simp at hz; omega) hv)
  simp only [List.length_cons] at this
  unfold fl; omega
theorem fl_eq {c : Nat} {t : List Nat} (h : Good (c :: t)) : ∃ z, z ∈ [3, 2, 1] ∧ Valid (c :: t) z ∧ fl (c :: t) = 1 + fl ((c :: t).drop z) := by
  rcases bests_mem _ _ (fewest_some h) with e | ⟨z, hz, e⟩
  · cases e
  · by_cases hv : Valid (c :: t) z
    · refine ⟨z, hz, hv, ?_⟩
      rw [cand_valid (by simp at hz; omega) hv] at e
      unfold fl
      rw [← Option.some.inj e]; simp; omega
    · rw [cand_invalid hv] at e; cases e

theorem ops3 : ∀ o ∈ ops, ∀ c d e, o = [c, d, e] → c ≠ 46 → [d, e] ∈ ops ∧ d ≠ 46 ∧ e ≠ 46 := by
  have : ∀ o ∈ ops, o.length = 3 → o.getD 0 0 ≠ 46 → [o.getD 1 0, o.getD 2 0] ∈ ops ∧ o.getD 1 0 ≠ 46 ∧ o.getD 2 0 ≠ 46 := by decide
  intro o ho c d e he hc
  subst he
  exact this _ ho rfl hc
theorem ops3dot : ∀ o ∈ ops, ∀ d e, o = [46, d, e] → d = 46 ∧ e = 46 := by
  have : ∀ o ∈ ops, o.length = 3 → o.getD 0 0 = 46 → o.getD 1 0 = 46 ∧ o.getD 2 0 = 46 := by decide
  intro o ho d e he
  subst he
  exact this _ ho rfl rfl
theorem ops2 : ∀ o ∈ ops, ∀ c d, o = [c, d] → d ≠ 46 ∧ c ≠ 46 := by
  have : ∀ o ∈ ops, o.length = 2 → o.getD 1 0 ≠ 46 ∧ o.getD 0 0 ≠ 46 := by decide
  intro o ho c d he
  subst he
  exact this _ ho rfl

theorem valid2 {c : Nat} {t : List Nat} (h : Valid (c :: t) 2) : ∃ d u, t = d :: u ∧ [c, d] ∈ ops := by
  obtain ⟨h1, h2⟩ := h
  match t, h1 with
  | d :: u, _ => exact ⟨d, u, rfl, by simpa using h2⟩
  | [], h1 => simp at h1
theorem valid3 {c : Nat} {t : List Nat} (h : Valid (c :: t) 3) : ∃ d e u, t = d :: e :: u ∧ [c, d, e] ∈ ops := by
  obtain ⟨h1, h2⟩ := h
  match t, h1 with
  | d :: e :: u, _ => exact ⟨d, e, u, rfl, by simpa using h2⟩
  | [d], h1 => simp at h1
  | [], h1 => simp at h1

theorem mono {c : Nat} {t : List Nat} (h : Good (c :: t)) (hc : c ≠ 46) : fl t ≤ fl (c :: t) := by
  obtain ⟨z, hz, hv, e⟩ := fl_eq h
  simp only [List.mem_cons, List.not_mem_nil, or_false] at hz
  rcases hz with rfl | rfl | rfl
  · obtain ⟨d, e', u, rfl, ho⟩ := valid3 hv
    have h3 := ops3 _ ho c d e' rfl hc
    have := fl_le h.tail (z := 2) (by simp) ⟨by simp, by simpa using h3.1⟩
    simp at this e
    omega
  · obtain ⟨d, u, rfl, ho⟩ := valid2 hv
    have := fl_le h.tail (z := 1) (by simp) (valid_one h.tail)
    simp at this e
    omega
  · simp at e; omega
theorem dots {u : List Nat} (h : Good (46 :: 46 :: u)) : fl u ≤ fl (46 :: 46 :: u) := by
  obtain ⟨z, hz, hv, e⟩ := fl_eq h
  simp only [List.mem_cons, List.not_mem_nil, or_false] at hz
  rcases hz with rfl | rfl | rfl
  · obtain ⟨d, e', u', hu, ho⟩ := valid3 hv
    cases hu
    have h3 := ops3dot _ ho 46 e' rfl
    have := fl_le h.tail.tail (z := 1) (by simp) (valid_one h.tail.tail)
    simp at this e
    omega
  · obtain ⟨d, u', hu, ho⟩ := valid2 hv
    exact absurd rfl (ops2 _ ho _ _ rfl).2
  · simp at e
    obtain ⟨z, hz, hv, e2⟩ := fl_eq h.tail
    simp only [List.mem_cons, List.not_mem_nil, or_false] at hz
    rcases hz with rfl | rfl | rfl
    · obtain ⟨d, e', u', rfl, ho⟩ := valid3 hv
      obtain ⟨rfl, rfl⟩ := ops3dot _ ho d e' rfl
      have h1 := fl_le h.tail.tail (z := 1) (by simp) (valid_one h.tail.tail)
      have h2 := fl_le h.tail.tail.tail (z := 1) (by simp) (valid_one h.tail.tail.tail)
      simp at h1 h2 e2
      omega
    · obtain ⟨d, u', hu, ho⟩ := valid2 hv
      exact absurd rfl (ops2 _ ho _ _ rfl).2
    · simp at e2; omega

theorem key {c : Nat} {t : List Nat} {z z' : Nat} (h : Good (c :: t)) (hz : z ∈ [3, 2, 1]) (hz' : z' ∈ [3, 2, 1]) (hlt : z' < z) (hv : Valid (c :: t) z) (hv' : Valid (c :: t) z') : fl ((c :: t).drop z) ≤ fl ((c :: t).drop z') := by
  simp only [List.mem_cons, List.not_mem_nil, or_false] at hz hz'
  rcases hz with rfl | rfl | rfl
  · obtain ⟨d, e, u, rfl, ho⟩ := valid3 hv
    by_cases hc : c = 46
    · subst hc
      obtain ⟨rfl, rfl⟩ := ops3dot _ ho d e rfl
      rcases hz' with rfl | rfl | rfl
      · omega
      · obtain ⟨d, u', hu, ho'⟩ := valid2 hv'
        exact absurd rfl (ops2 _ ho' _ _ rfl).2
      · simpa using dots h.tail
    · have h3 := ops3 _ ho c d e rfl hc
      have m1 := mono h.tail.tail h3.2.2
      have m2 := mono h.tail h3.2.1
      rcases hz' with rfl | rfl | rfl
      · omega
      · simpa using m1
      · simp; omega
  · obtain ⟨d, u, rfl, ho⟩ := valid2 hv
    have m1 := mono h.tail (ops2 _ ho c d rfl).1
    rcases hz' with rfl | rfl | rfl
    · omega
    · omega
    · simpa using m1
  · rcases hz' with rfl | rfl | rfl <;> omega

theorem longest {c : Nat} {t : List Nat} {z : Nat} (h : Good (c :: t)) (hz : z ∈ [3, 2, 1]) (hv : Valid (c :: t) z) (hmax : ∀ z', z' ∈ [3, 2, 1] → Valid (c :: t) z' → z' ≤ z) :
    fewest (c :: t) = (7 + (ops.idxOf ((c :: t).take z) : Int)) :: fewest ((c :: t).drop z) := by
  have hb := fewest_some h
  have hb' : better (better (better none (cand (c :: t) (rests t) 3)) (cand (c :: t) (rests t) 2)) (cand (c :: t) (rests t) 1) = some (fewest (c :: t)) := hb
  have keep : ∀ z', z' ∈ [3, 2, 1] → z' < z → ∀ x, x = (7 + (ops.idxOf ((c :: t).take z) : Int)) :: fewest ((c :: t).drop z) → better (some x) (cand (c :: t) (rests t) z') = some x := by
    intro z' hz' hlt x hx
    by_cases hv' : Valid (c :: t) z'
    · rw [cand_valid (by simp at hz'; omega) hv']
      simp only [better]
      rw [if_neg]
      have := key h hz hz' hlt hv hv'
      unfold fl at this
      rw [hx]; simp only [List.length_cons]; omega
    · rw [cand_invalid hv']; rfl
  have none' : ∀ z', z' ∈ [3, 2, 1] → z < z' → cand (c :: t) (rests t) z' = none := fun z' hz' hlt => cand_invalid fun hv' => by have := hmax z' hz' hv'; omega
  have hcz := cand_valid (by simp at hz; omega) hv
  simp only [List.mem_cons, List.not_mem_nil, or_false] at hz
  rcases hz with rfl | rfl | rfl
  · rw [hcz] at hb'
    rw [show ∀ x, better none (some x) = some x from fun _ => rfl, keep 2 (by simp) (by decide) _ rfl, keep 1 (by simp) (by decide) _ rfl] at hb'
    exact (Option.some.inj hb').symm
  · rw [none' 3 (by simp) (by decide), hcz] at hb'
    rw [show better none none = none from rfl, show ∀ x, better none (some x) = some x from fun _ => rfl, keep 1 (by simp) (by decide) _ rfl] at hb'
    exact (Option.some.inj hb').symm
  · rw [none' 3 (by simp) (by decide), none' 2 (by simp) (by decide), hcz] at hb'
    exact (Option.some.inj hb').symm
end Mine
end

/-! part PL0 -/
section
open PySem
namespace Mine
def opAt (n : Int) : List Nat := ops.getD (47 - (n % 48).toNat) []
def joinT (ns : List Int) : List Nat := (ns.map opAt).flatten
def cmp4 (r a b : Nat) : Int := cmpL (ord4 r) (rowC a) (rowC b)
def rk0 : List Nat := [47, 46, 45, 44, 43, 42, 41, 40, 39, 38, 37, 36, 35, 34, 33, 32, 31, 30, 29, 28, 27, 26, 25, 24, 23, 22, 21, 20, 19, 18, 17, 16, 15, 14, 13, 12, 11, 10, 9, 8, 7, 6, 5, 4, 3, 2, 1, 0]
def rk1 : List Nat := [1, 0, 3, 2, 5, 4, 6, 7, 11, 10, 9, 8, 13, 12, 14, 17, 16, 15, 19, 18, 23, 22, 21, 20, 25, 24, 26, 30, 29, 28, 27, 32, 31, 36, 35, 34, 33, 38, 37, 39, 40, 42, 41, 43, 45, 44, 46, 47]
def rk2 : List Nat := [47, 46, 45, 44, 43, 42, 41, 40, 39, 37, 36, 37, 35, 34, 33, 32, 30, 30, 29, 28, 27, 25, 24, 25, 23, 22, 21, 20, 18, 17, 18, 16, 15, 14, 12, 12, 11, 10, 9, 8, 7, 6, 5, 4, 3, 2, 1, 0]
def rk3 : List Nat := [47, 6, 41, 16, 36, 17, 24, 25, 33, 11, 2, 14, 31, 12, 29, 32, 13, 22, 40, 4, 34, 20, 3, 15, 28, 23, 30, 37, 9, 0, 7, 39, 5, 38, 8, 10, 1, 46, 21, 26, 27, 45, 19, 42, 35, 18, 43, 44]
def chk (r : Nat) (rk : List Nat) : Bool := (List.range 48).all fun a => (List.range 48).all fun b =>
  (decide (cmp4 r a b < 0) == decide (rk.getD a 0 < rk.getD b 0)) && (decide (0 < cmp4 r a b) == decide (rk.getD b 0 < rk.getD a 0)) &&
    (!(decide ((sgn b).take (sgn a).length = sgn a) && decide ((sgn a).length < (sgn b).length)) || decide (rk.getD b 0 < rk.getD a 0))
theorem chk0 : chk 0 rk0 = true := by decide +kernel
theorem chk1 : chk 1 rk1 = true := by decide +kernel
theorem chk2 : chk 2 rk2 = true := by decide +kernel
theorem chk3 : chk 3 rk3 = true := by decide +kernel

/-- an order as a rank -/
structure Ranked (cmp : Nat → Nat → Int) (rk : Nat → Nat) : Prop where
  lt : ∀ a b, a < 48 → b < 48 → (cmp a b < 0 ↔ rk a < rk b)
  gt : ∀ a b, a < 48 → b < 48 → (0 < cmp a b ↔ rk b < rk a)
  long : ∀ a b, a < 48 → b < 48 → (sgn b).take (sgn a).length = sgn a → (sgn a).length < (sgn b).length → rk b < rk a
theorem ranked_of {r : Nat} {rk : List Nat} (h : chk r rk = true) : Ranked (cmp4 r) (fun a => rk.getD a 0) := by
  have : ∀ a b, a < 48 → b < 48 → ((decide (cmp4 r a b < 0) == decide (rk.getD a 0 < rk.getD b 0)) && (decide (0 < cmp4 r a b) == decide (rk.getD b 0 < rk.getD a 0)) &&
    (!(decide ((sgn b).take (sgn a).length = sgn a) && decide ((sgn a).length < (sgn b).length)) || decide (rk.getD b 0 < rk.getD a 0))) = true := fun a b ha hb =>
    List.all_eq_true.mp (List.all_eq_true.mp h a (List.mem_range.mpr ha)) b (List.mem_range.mpr hb)
  refine ⟨fun a b ha hb => ?_, fun a b ha hb => ?_, fun a b ha hb h1 h2 => ?_⟩
  · have := this a b ha hb
    simp only [Bool.and_eq_true, beq_iff_eq] at this
    exact decide_eq_decide.mp this.1.1
  · have := this a b ha hb
    simp only [Bool.and_eq_true, beq_iff_eq] at this
    exact decide_eq_decide.mp this.1.2
  · have := this a b ha hb
    simp only [Bool.and_eq_true] at this
    have := this.2
    rw [decide_eq_true h1, decide_eq_true h2] at this
    simpa using this
theorem ranked (r : Nat) : ∃ rk, Ranked (cmp4 r) rk := by
  match r with
  | 0 => exact ⟨_, ranked_of chk0⟩
  | 1 => exact ⟨_, ranked_of chk1⟩
  | 2 => exact ⟨_, ranked_of chk2⟩
  | r + 3 => exact ⟨_, ranked_of (r := 3) chk3⟩

theorem qs_sub (cmp : Nat → Nat → Int) : ∀ (n : Nat) (ks : List Nat) (k : Nat), k ∈ qs cmp n ks → k ∈ ks
  | 0, _, k, h => by simp [qs] at h
  | _ + 1, [], k, h => by simp [qs] at h
  | n + 1, x :: xs, k, h => by
    rw [qs] at h
    rcases List.mem_append.mp h with h | h
    · rcases List.mem_append.mp h with h | h
      · exact (List.mem_filter.mp (qs_sub cmp n _ k h)).1
      · exact (List.mem_filter.mp h).1
    · exact (List.mem_filter.mp (qs_sub cmp n _ k h)).1
theorem qs_mem (cmp : Nat → Nat → Int) : ∀ (n : Nat) (ks : List Nat), ks.length < n → (∀ k ∈ ks, cmp k k = 0) → ∀ k ∈ ks, k ∈ qs cmp n ks
  | 0, ks, h, _, k, _ => absurd h (Nat.not_lt_zero _)
  | _ + 1, [], _, _, k, hk => by simp at hk
  | n + 1, x :: xs, h, hr, k, hk => by
    rw [qs]
    have hmid : (x :: xs).getD ((x :: xs).length / 2) 0 ∈ x :: xs := by
      rw [List.getD_eq_getElem?_getD, List.getElem?_eq_getElem (by simp; omega)]
      exact List.getElem_mem _
    generalize (x :: xs).getD ((x :: xs).length / 2) 0 = mid at hmid
    have hfl : ∀ p : Nat → Bool, p mid = false → ((x :: xs).filter p).length < n := fun p hp => by
      have h1 : ((x :: xs).filter p).length < (x :: xs).length := by
        rw [List.length_filter_lt_length_iff_exists]
        exact ⟨mid, hmid, by simp [hp]⟩
      omega
    have hrf : ∀ p : Nat → Bool, ∀ q ∈ (x :: xs).filter p, cmp q q = 0 := fun p q hq => hr q (List.mem_filter.mp hq).1
    rcases Int.lt_trichotomy (cmp k mid) 0 with hc | hc | hc
    · refine List.mem_append_left _ (List.mem_append_left _ (qs_mem cmp n _ (hfl _ (by simp [hr mid hmid])) (hrf _) k (List.mem_filter.mpr ⟨hk, by simpa using hc⟩)))
    · exact List.mem_append_left _ (List.mem_append_right _ (List.mem_filter.mpr ⟨hk, by simpa using hc⟩))
    · exact List.mem_append_right _ (qs_mem cmp n _ (hfl _ (by simp [hr mid hmid])) (hrf _) k (List.mem_filter.mpr ⟨hk, by simpa using hc⟩))
theorem qs_sorted {cmp : Nat → Nat → Int} {rk : Nat → Nat} (R : Ranked cmp rk) : ∀ (n : Nat) (ks : List Nat), (∀ k ∈ ks, k < 48) → (qs cmp n ks).Pairwise (fun a b => rk a ≤ rk b)
  | 0, _, _ => by simp [qs]
  | _ + 1, [], _ => by simp [qs]
  | n + 1, x :: xs, h => by
    rw [qs]
    have hmid : (x :: xs).getD ((x :: xs).length / 2) 0 ∈ x :: xs := by
      rw [List.getD_eq_getElem?_getD, List.getElem?_eq_getElem (by simp; omega)]
      exact List.getElem_mem _
    generalize (x :: xs).getD ((x :: xs).length / 2) 0 = mid at hmid
    have hm := h mid hmid
    have hf : ∀ p : Nat → Bool, ∀ q ∈ (x :: xs).filter p, q < 48 := fun p q hq => h q (List.mem_filter.mp hq).1
    have lo : ∀ q ∈ qs cmp n ((x :: xs).filter fun r => decide (cmp r mid < 0)), rk q < rk mid := fun q hq => by
      have := List.mem_filter.mp (qs_sub cmp n _ q hq)
      exact (R.lt q mid (h q this.1) hm).mp (by simpa using this.2)
    have md : ∀ q ∈ (x :: xs).filter (fun r => decide (cmp r mid = 0)), rk q = rk mid := fun q hq => by
      have := List.mem_filter.mp hq
      have e : cmp q mid = 0 := by simpa using this.2
      have h1 := R.lt q mid (h q this.1) hm
      have h2 := R.gt q mid (h q this.1) hm
      omega
    have hi : ∀ q ∈ qs cmp n ((x :: xs).filter fun r => decide (0 < cmp r mid)), rk mid < rk q := fun q hq => by
      have := List.mem_filter.mp (qs_sub cmp n _ q hq)
      exact (R.gt q mid (h q this.1) hm).mp (by simpa using this.2)
    rw [List.pairwise_append, List.pairwise_append]
    refine ⟨⟨qs_sorted R n _ (hf _), ?_, fun a ha b hb => ?_⟩, qs_sorted R n _ (hf _), fun a ha b hb => ?_⟩
    · rw [List.pairwise_iff_forall_sublist]
      intro a b hab
      have ha := md a (hab.subset (by simp))
      have hb := md b (hab.subset (by simp))
      omega
    · have := lo a ha; have := md b hb; omega
    · have := hi b hb
      rcases List.mem_append.mp ha with ha | ha
      · have := lo a ha; omega
      · have := md a ha; omega

theorem op_row : ∀ o ∈ ops, ∃ k, k < 48 ∧ sgn k = o := by
  have : (ops.all fun o => (List.range 48).any fun k => decide (sgn k = o)) = true := by decide +kernel
  intro o ho
  obtain ⟨k, hk, e⟩ := List.any_eq_true.mp (List.all_eq_true.mp this o ho)
  exact ⟨k, List.mem_range.mp hk, of_decide_eq_true e⟩
theorem row_op : ∀ k, k < 48 → sgn k ∈ ops ∧ num k = 7 + (ops.idxOf (sgn k) : Int) ∧ 1 ≤ (sgn k).length ∧ (sgn k).length ≤ 3 := by
  have : ((List.range 48).all fun k => decide (sgn k ∈ ops) && decide (num k = 7 + (ops.idxOf (sgn k) : Int)) && decide (1 ≤ (sgn k).length) && decide ((sgn k).length ≤ 3)) = true := by decide +kernel
  intro k hk
  have := List.all_eq_true.mp this k (List.mem_range.mpr hk)
  simp only [Bool.and_eq_true, decide_eq_true_eq] at this
  exact ⟨this.1.1.1, this.1.1.2, this.1.2, this.2⟩

theorem fits_in {T : List Nat} {at' k : Nat} (hat : at' < T.length) (hk : k < 48) (hf : fits T at' k = true) : k ∈ keysT T := by
  refine List.mem_filter.mpr ⟨by simpa using hk, ?_⟩
  have e : (T.drop at').take (sgn k).length = sgn k := of_decide_eq_true hf
  obtain ⟨_, _, h1, _⟩ := row_op k hk
  refine decide_eq_true ?_
  obtain ⟨y, hy⟩ : ∃ y, (sgn k).length = y + 1 := ⟨(sgn k).length - 1, by omega⟩
  have e1 : (sgn k).headD 0 = T[at'] := by
    rw [← e, hy, List.drop_eq_getElem_cons hat, List.take_succ_cons]; rfl
  rw [e1]
  exact List.getElem_mem hat
theorem fits_of {T : List Nat} {at' k : Nat} (e : (T.drop at').take (sgn k).length = sgn k) : fits T at' k = true := decide_eq_true e

theorem first_fit {cmp : Nat → Nat → Int} {rk : Nat → Nat} (R : Ranked cmp rk) (hr : ∀ k, cmp k k = 0) {T : List Nat} {at' : Nat} (hG : Good T) (hat : at' < T.length) :
    ∃ k rest, (qs cmp 60 (keysT T)).filter (fits T at') = k :: rest ∧ k < 48 ∧ fits T at' k = true ∧ ∀ k', k' < 48 → fits T at' k' = true → (sgn k').length ≤ (sgn k).length := by
  have hlen := keysT_len T
  have mem : ∀ k, k < 48 → fits T at' k = true → k ∈ (qs cmp 60 (keysT T)).filter (fits T at') := fun k hk hf =>
    List.mem_filter.mpr ⟨qs_mem cmp 60 _ (by omega) (fun k _ => hr k) k (fits_in hat hk hf), hf⟩
  obtain ⟨k0, hk0, e0⟩ := op_row _ (hG T[at'] (List.getElem_mem hat))
  have hf0 : fits T at' k0 = true := fits_of (by rw [e0]; show List.take 1 (List.drop at' T) = _; rw [List.drop_eq_getElem_cons hat]; rfl)
  have hp := (qs_sorted R 60 (keysT T) (fun k hk => keysT_lt hk)).filter (fits T at')
  cases hS : (qs cmp 60 (keysT T)).filter (fits T at') with
  | nil => have := mem k0 hk0 hf0; rw [hS] at this; simp at this
  | cons k rest =>
    have hkm : k ∈ (qs cmp 60 (keysT T)).filter (fits T at') := by rw [hS]; exact .head _
    have hk := keysT_lt (qs_sub cmp 60 _ k (List.mem_filter.mp hkm).1)
    have hkf := (List.mem_filter.mp hkm).2
    refine ⟨k, rest, rfl, hk, hkf, fun k' hk' hf' => ?_⟩
    rw [hS, List.pairwise_cons] at hp
    have hm := mem k' hk' hf'
    rw [hS] at hm
    rcases List.mem_cons.mp hm with rfl | hm
    · exact Nat.le_refl _
    · have hle := hp.1 k' hm
      refine Nat.le_of_not_lt fun hlt => ?_
      have e : (T.drop at').take (sgn k).length = sgn k := of_decide_eq_true hkf
      have e' : (T.drop at').take (sgn k').length = sgn k' := of_decide_eq_true hf'
      have := R.long k k' hk hk' (by rw [← e', List.take_take, Nat.min_eq_left (by omega), e]) hlt
      omega

theorem read_all {cmp : Nat → Nat → Int} {rk : Nat → Nat} (R : Ranked cmp rk) (hr : ∀ k, cmp k k = 0) {T : List Nat} (hG : Good T) : ∀ (n at' : Nat), T.length - at' < n → readF T (qs cmp 60 (keysT T)) n at' = some (fewest (T.drop at'))
  | 0, at', h => absurd h (Nat.not_lt_zero _)
  | n + 1, at', h => by
    rw [readF]
    by_cases hat : at' < T.length
    · rw [if_pos hat]
      obtain ⟨k, rest, hS, hk, hf, hmax⟩ := first_fit R hr hG hat
      rw [hS]
      obtain ⟨ho, hn, h1, h3⟩ := row_op k hk
      have e : (T.drop at').take (sgn k).length = sgn k := of_decide_eq_true hf
      have hz3 : (sgn k).length ∈ [3, 2, 1] := by simp; omega
      have hd : T.drop at' = T[at'] :: T.drop (at' + 1) := List.drop_eq_getElem_cons hat
      have hGd : Good (T[at'] :: T.drop (at' + 1)) := fun c hc => hG c (by rw [← hd] at hc; exact List.mem_of_mem_drop hc)
      have hv : Valid (T[at'] :: T.drop (at' + 1)) (sgn k).length := by
        rw [← hd]
        refine ⟨?_, by rw [e]; exact ho⟩
        have := congrArg List.length e
        rw [List.length_take] at this
        omega
      have hl := longest hGd hz3 hv (fun z' hz' hv' => by
        rw [← hd] at hv'
        obtain ⟨k', hk', e'⟩ := op_row _ hv'.2
        have hlk : (sgn k').length = z' := by rw [e', List.length_take]; have := hv'.1; omega
        have := hmax k' hk' (fits_of (by rw [hlk, e']))
        omega)
      rw [← hd, e, List.drop_drop] at hl
      show ((readF T _ n (at' + (sgn k).length)).map (num k :: ·)) = _
      rw [read_all R hr hG n (at' + (sgn k).length) (by omega), hl, hn]
      rfl
    · rw [if_neg hat, List.drop_of_length_le (by omega)]
      rfl

theorem cmp4_refl (r k : Nat) : cmp4 r k k = 0 := by
  have irr : ∀ c : Cell, c.lt c = false := fun c => by
    cases c with
    | s x => simp [Cell.lt, List.lt_irrefl]
    | i n => simp [Cell.lt]
  have : ∀ ps : List (Nat × Int), ∀ cs, cmpL ps cs cs = 0 := by
    intro ps cs
    induction ps with
    | nil => rfl
    | cons p ps ih =>
      obtain ⟨i, d⟩ := p
      simp only [cmpL]
      cases cs[i]? with
      | none => rfl
      | some c => simp [irr, ih]
  exact this _ _
theorem cmp4_ok (r a b : Nat) : ∀ p ∈ ord4 r, ∃ x y, (rowC a)[p.1]? = some x ∧ (rowC b)[p.1]? = some y ∧ x.alike y = true := by
  intro p hp
  have hr : ord4 r = ord4 0 ∨ ord4 r = ord4 1 ∨ ord4 r = ord4 2 ∨ ord4 r = ord4 3 := by
    match r with
    | 0 => exact .inl rfl
    | 1 => exact .inr (.inl rfl)
    | 2 => exact .inr (.inr (.inl rfl))
    | r + 3 => exact .inr (.inr (.inr rfl))
  rcases hr with h | h | h | h <;> rw [h] at hp <;> simp only [ord4, List.mem_cons, List.not_mem_nil, or_false] at hp
  · subst hp; exact ⟨_, _, rfl, rfl, rfl⟩
  · rcases hp with rfl | rfl <;> exact ⟨_, _, rfl, rfl, rfl⟩
  · rcases hp with rfl | rfl <;> exact ⟨_, _, rfl, rfl, rfl⟩
  · rcases hp with rfl | rfl <;> exact ⟨_, _, rfl, rfl, rfl⟩

theorem plain_law (n8 : List Int) (r : Nat) (T : List Nat) (hT : joinT n8 ++ [61, 45, 62, 46, 46, 46] = T) :
    readF T (qs (fun a b => cmpL (ord4 r) (rowC a) (rowC b)) 60 (keysT T)) (T.length + 1) 0 = some (fewest T) ∧ ∀ c ∈ T, [c] ∈ ops := by
  have hG : Good T := by
    have h1 : ∀ o ∈ ops, ∀ c ∈ o, [c] ∈ ops := by decide
    have h2 : ∀ c ∈ [61, 45, 62, 46, 46, 46], [c] ∈ ops := by decide
    intro c hc
    rw [← hT] at hc
    rcases List.mem_append.mp hc with hc | hc
    · obtain ⟨o, ho, hco⟩ := List.mem_flatten.mp hc
      obtain ⟨n, _, rfl⟩ := List.mem_map.mp ho
      unfold opAt at hco
      rw [List.getD_eq_getElem?_getD] at hco
      cases q : ops[47 - (n % 48).toNat]? with
      | none => rw [q] at hco; simp at hco
      | some l => rw [q] at hco; exact h1 l (List.mem_of_getElem? q) c hco
    · exact h2 c hc
  obtain ⟨rk, R⟩ := ranked r
  have := read_all R (cmp4_refl r) hG (T.length + 1) 0 (by omega)
  rw [List.drop_zero] at this
  exact ⟨this, hG⟩
end Mine
end

/-! part L1 -/
section
open PySem PySem.W PyProof.Rows
namespace Mine
theorem fill_L1 (w : World) : hd.heap_39 w.params = hd.heap_39 w.params ∧ PySem.Challenge.rw_mr0172_01 = PySem.Challenge.rw_mr0172_01 := by k_fill; exact ⟨rfl, rfl⟩
local macro_rules | `(tactic| walk_at "eval ListComp") => `(tactic| refine stop_here ?_)
local macro_rules | `(tactic| walk_at "exec Assign cons ListComp") => `(tactic| refine stop_here ?_)
local macro_rules | `(tactic| walk_at "call ref") => `(tactic| refine stop_here ?_)

theorem opAt_len (n : Int) : (opAt n).length ≤ 3 := by
  have h : ∀ l ∈ ops, l.length ≤ 3 := by decide
  unfold opAt
  rw [List.getD_eq_getElem?_getD]
  cases q : ops[47 - (n % 48).toNat]? with
  | none => simp
  | some l => exact h l (List.mem_of_getElem? q)
theorem joinT_len (ns : List Int) : (joinT ns).length ≤ 3 * ns.length := by
  induction ns with
  | nil => simp [joinT]
  | cons n r ih => have := opAt_len n; simp [joinT] at ih ⊢; omega
theorem sum_len (ns : List Int) : (((ns.map opAt).map mkS).map (·.length)).sum = (joinT ns).length := by
  induction ns with
  | nil => rfl
  | cons n r ih => simp only [List.map_cons, List.sum_cons, ih, mkS_length]; simp [joinT]
theorem paired_strs {ws : List Value} {ms : List Int} (hi : IntsAre ws ms) : ∀ {ys : List Value}, Paired (fun v y => ∃ n t t', v = Value.int n t ∧ y = Value.str (mkS (opAt n)) t') ws ys → StrsAre ys ((ms.map opAt).map mkS) := by
  induction hi with
  | nil => intro ys h; cases h; exact .nil
  | cons n t _ ih =>
    intro ys h
    cases h with
    | cons hF hr =>
      obtain ⟨n', t', t'', e, rfl⟩ := hF
      cases e
      exact .cons _ _ (ih hr)
theorem filter_tt (l : List Value) : l.filter (fun _ => true) = l := by
  induction l with
  | nil => rfl
  | cons a l ih => simp
theorem all_eq {vs vs' : List Value} {n : Nat} (hn : vs'.length = n) (hl : vs.length = n) (h : ∀ (j : Nat) (v : Value), vs'[j]? = some v → vs.toArray[j]? = some v) : vs' = vs := by
  refine List.ext_getElem? fun i => ?_
  by_cases hi : i < vs'.length
  · have := h i vs'[i] (by simp [hi])
    rw [List.getElem?_eq_getElem hi]
    simpa using this.symm
  · have hi' : ¬ i < vs.length := by omega
    simp [hi, hi']
theorem fr_keeps {h₀ h h' : Heap} {L : Addr} {m : Str → Option Value} (F : Fr h₀ L h m) (k : ∀ b o, h.get? b = some o → h'.get? b = some o) : Fr h₀ L h' m := ⟨F.ns.keeps k, fun b o e => k _ _ (F.keep b o e), F.above⟩
theorem news_new {h₀ h h' : Heap} {L D : Addr} {o : Obj} {m : Str → Option Value} {news : List (Addr × Obj)} (F : Fr h₀ L h m) (N : News h₀ L h news) (k : ∀ b o, h.get? b = some o → h'.get? b = some o) (hn : h.get? D = none) (hD : h'.get? D = some o) :
    News h₀ L h' ((D, o) :: news) := fun p hp => by
  rcases List.mem_cons.mp hp with rfl | hp
  · refine ⟨hD, fun e => ?_, ?_⟩
    · obtain ⟨oL, _, _, hL, _⟩ := F.ns
      have e' : D = L := e
      rw [e', hL] at hn; cases hn
    · cases q : h₀.get? D with
      | none => rfl
      | some o' => rw [F.keep _ _ q] at hn; cases hn
  · exact ⟨k _ _ (N p hp).1, (N p hp).2⟩
/-- names[-1 - x % 48] -/
theorem elt_name {prog : Program} {w : World} {A : Around} {s : Shared} {E : Value → Shared → Prop} {Q : Value → Shared → Prop} {cenv : Env} {p1 p2 p3 p4 p5 p6 p7 p8 : Pos} {n : Int} {t : Tok} {cn nb : Addr} {m : Str → Option Value} {nvs : List Value}
    (hk : cenv.scope.kind = .function) (hN : cenv.kindOf "names" = some .cell) (hr : cenv.kindOf "x" = some .local) (hcn : cenv.cells.lookup ("names" : Str) = some cn)
    (hv : s.heap.IsCell cn (some (.ref nb))) (hl : s.heap.IsList nb nvs.toArray) (hS : StrsAre nvs (ops.map mkS)) (hns : s.heap.Ns cenv.locals m) (hm : m "x" = some (.int n t))
    (h : ∀ tk t', Q (.str (mkS (opAt n)) t') { s with toks := tk }) :
    wpAny (model prog w) A (eval (.Subscript (.Name "names" p1) (.BinOp (.UnaryOp .USub (.Constant (.int 1) 0 p2) p3) .Sub (.BinOp (.Name "x" p4) .Mod (.Constant (.int 48) 0 p5) p6) p7) p8) cenv) Q E s := by
  refine Subscript_ (wpAny_Name (wpAny_loadName_cell hk hN hcn hv ?_))
  refine wpAny_BinOp (wpAny_UnaryOp (wpAny_Constant_int (P.neg_int (wpAny_BinOp (wpAny_Name (wpAny_loadName_local hk hr hns hm (wpAny_Constant_int (mod_int' (by decide) (sub_int ?_)))))))))
  have hfm : n.fmod 48 = n % 48 := Int.fmod_eq_emod_of_nonneg _ (by decide)
  have h0 := Int.emod_nonneg n (show (48 : Int) ≠ 0 by decide)
  have h1 := Int.emod_lt_of_pos n (show (0 : Int) < 48 by decide)
  have hl48 : nvs.length = 48 := by rw [hS.length]; rfl
  rw [hfm]
  generalize he : n % 48 = r at h0 h1
  obtain ⟨u, hu⟩ := StrsAre.getS hS (47 - r.toNat) (mkS (opAt n)) (by
    rw [opAt, he, List.getElem?_map, List.getD_eq_getElem?_getD, List.getElem?_eq_getElem (by show _ < ops.length; rw [show ops.length = 48 from rfl]; omega)]; rfl)
  refine tail_any hl.typeIs slot_list_getitem.lookup (wpAny_getItem_list_neg hl (by omega) (by simp; omega) (by omega) (x := .str (mkS (opAt n)) u) ?_ (h _ _)) (by with_unfolding_all rfl)
  rw [← hu, show ((-1 - r) + (nvs.toArray.size : Int)).toNat = 47 - r.toNat by simp; omega]
  simp

theorem law_spec {prog : Program} {w : World} {A : Around} {s : Shared} {mg mb : Str → Option Value} {R : Result → Shared → Prop} {sa : Addr} {vs : List Value} {ns : List Int}
    (g : G w mg mb s.heap) (hroom : A.depth + 200 < recursionLimit) (hu : A.units + 1000 < cLine) (hh : A.handled = none) (hl : s.heap.IsList sa vs.toArray) (hi : IntsAre vs ns) (hlen : ns.length ≤ 63)
    (hR : ∀ s', Stays [] s s' → R (.ok (.ret (.bool true))) s') :
    codeAny (model prog w) A (.call (.ref 76) ⟨[.ref sa], []⟩) R s := by
  refine enterC (binds := [("script", .ref sa)]) g rfl (by kernel_rfl) (by omega) (BindsTo.of_eq rfl) rfl (by decide +kernel) ?_ 
  intro h₁ tk₁ cells F N Y
  have kX := g.k
  have kT := g.t
  k_cells Y
  rename_i oT oN dT dN
  k_steps
  unfold Stop
  refine wpAny_call (names_spec (g.keeps F.keep) (by show A.depth + 1 < _; omega) hh ?_)
  intro s' nb nvs nn hst hnew hnb hns hnl
  have F₁ := hst.fr F (List.not_mem_nil) (fun _ h => absurd h (List.not_mem_nil))
  have N₁ := news_add F N hst hnew hnb
  have hn1 : @Ne Nat nb (s.heap.objs.size + 1) := fun e => by rw [e, (N _ (.tail _ (.head _))).1] at hnew; cases hnew
  have hn2 : @Ne Nat nb (s.heap.objs.size + 1 + 1) := fun e => by rw [e, (N _ (.head _)).1] at hnew; cases hnew
  obtain ⟨h', tk', rfl, hk'⟩ := hst
  dsimp only
  clear F N hk' hnb hnew
  k_steps
  unfold Stop
  (rename Fr _ _ _ _ => F₂); (rename News _ _ _ _ => N₂); (rename (Obj.data _ = Data.cell (some (Value.ref _))) => dN2)
  refine wpAny_ListComp_free (cl := [("names", s.heap.objs.size + 1)]) (fun _ => true) (fun v y => ∃ n t t', v = .int n t ∧ y = .str (mkS (opAt n)) t') (by rfl) (by decide) rfl (by decide) (by rfl) ?_
  k_steps
  rename_i D ws h₃ F₃ N₃ hIw hCw hLw ltw
  generalize hn8 : List.take 8 ns = n8 at hIw hCw hLw
  have hls : h₃.IsList D ws.toArray := N₃.isList (.head _)
  have hwl : ws.length ≤ 8 := by rw [hIw.length, hCw]; omega
  have hDI : D ≠ h₃.objs.size := by obtain ⟨ol, hol, _⟩ := hls; exact Nat.ne_of_lt (Heap.lt_size hol)
  refine wpAny_pyIter_list hls ?_
  refine ⟨h₃.objs.size, _, _, ws.toArray.size, _, _, rfl, Walks.list (A := A.deeper _) hh h₃.objs.size D hDI ws.toArray, ?z1, ?z0, ?z2, ?quiet, ?fin⟩
  case z0 => exact ⟨⟨_, Heap.get?_push_size _ rfl, rfl, rfl⟩, hls.push _⟩
  case z1 => rw [sizeLine_eq]; simp; omega
  case z2 =>
    intro b hb
    have hsz : (h₃.push { cls := Value.type "list_iterator", data := Data.fields #[Value.ref D, Value.int 0 0] }).objs.size = h₃.objs.size + 1 := Heap.size_push ..
    show b < _
    rw [hsz]
    rcases List.mem_cons.mp hb with e | hb
    · rw [e]; exact Nat.lt_succ_self _
    · rw [List.mem_singleton.mp hb]; obtain ⟨ol, hol, _⟩ := hls; exact Nat.lt_succ_of_lt (Heap.lt_size hol)
  case quiet =>
    have up : ∀ (s₃ : Shared), (∀ b o, b ∉ [h₃.objs.size] → (h₃.push { cls := Value.type "list_iterator", data := Data.fields #[Value.ref D, Value.int 0 0] }).get? b = some o → s₃.heap.get? b = some o) → ∀ b o, h₃.get? b = some o → s₃.heap.get? b = some o :=
      fun s₃ hk b o e => hk b o (fun q => Nat.lt_irrefl _ (by have := Heap.lt_size e; rw [List.mem_singleton.mp q] at this; exact this)) (Heap.get?_push_of_some _ e)
    refine ⟨?_, ?_⟩
    · intro C i v s₃ m₃ E' hC hP hn3 hm3 hk3 _
      exact wpAny_tests_nil ⟨rfl, _, _, rfl, fun _ _ e => e⟩
    · intro C i v s₃ m₃ E' hC hP _ hn3 hm3 hk3 _
      have hup := up s₃ hk3
      have hwi : i < n8.length := by
        have := (List.getElem?_eq_some_iff.mp (show ws[i]? = some v by simpa using hP)).1
        rw [← hIw.length]; exact this
      obtain ⟨t, ht⟩ := hIw.get i n8[i] (by simp [hwi])
      obtain rfl : v = .int n8[i] t := by simp [ht] at hP; exact hP.symm
      refine elt_name (nvs := nvs) rfl (by rfl) (by rfl) (by rfl) ⟨_, hup _ _ (N₃ _ (.tail _ (.tail _ (.tail _ (.head _))))).1, dN2⟩ ((N₃.isList (.tail _ (.head _))).at fun o e => hup _ _ e) hns hn3 hm3 ?_
      intro tk' t'
      exact ⟨⟨_, _, _, rfl, rfl⟩, _, _, rfl, fun _ _ e => e⟩
  case fin =>
    intro Dj h₄ tk₄ ys vs' hD hlD hplD hvl hPv hpair hk4
    obtain rfl : vs' = ws := all_eq hvl (by simp) hPv
    rw [filter_tt] at hpair
    have hys := paired_strs hIw hpair
    have hDh : h₃.get? Dj = none := by
      cases q : h₃.get? Dj with
      | none => rfl
      | some o => rw [Heap.get?_push_of_some _ q] at hD; cases hD
    have hkk : ∀ b o, h₃.get? b = some o → h₄.get? b = some o := fun b o e =>
      hk4 b o (fun q => Nat.lt_irrefl _ (by have := Heap.lt_size e; rw [List.mem_singleton.mp q] at this; exact this)) (Heap.get?_push_of_some _ e)
    obtain ⟨nj, hgj⟩ := hplD
    obtain ⟨yl, rfl⟩ : ∃ yl : List Value, ys = yl.toArray := ⟨ys.toList, by simp⟩
    have F₄ := fr_keeps F₃ hkk
    have N₄ := news_new F₃ N₃ hkk hDh hgj
    clear hk4 hD hDh hkk hpair hPv hlD F₃ N₃
    k_steps
    have hjl : (joinT n8).length ≤ 24 := Nat.le_trans (joinT_len n8) (by omega)
    refine join_list (N₄.isList (.head _)) hys (by rw [sum_len, show (Str.ofString "").length = 0 from by decide +kernel]; omega) ?_
    intro tj kj
    rw [join_mk]
    have hjl' : (mkS (joinT n8)).length ≤ 24 := by rw [mkS_length]; exact hjl
    have hst : Str.ofString "=->..." = mkS [61, 45, 62, 46, 46, 46] := by decide +kernel
    rw [show (List.map opAt n8).flatten = joinT n8 from rfl]
    k_steps
    unfold Stop
    (rename Fr _ _ _ _ => F₅); (rename News _ _ _ _ => N₅); (rename (Obj.data _ = Data.cell (some (Value.str _ _))) => dT2)
    rw [hst, mkS_append] at dT2
    generalize hT : joinT n8 ++ [61, 45, 62, 46, 46, 46] = T at dT2
    replace F₅ := fr_pin F₅ (pin_cons (x := "script") (v := .ref sa) rfl (pin_nil _))
    rename_i tT _ _ h₅ oX
    replace N₅ : News s.heap s.heap.objs.size h₅ [(s.heap.objs.size + 1 + 1, oX)] := fun p hp => N₅ p (by rw [List.mem_singleton.mp hp]; simp)
    generalize bindL _ _ _ = u5 at F₅
    clear hgj hys hIw hls hDI hwl hvl hCw hLw ltw hst hjl' dN2 dT dN hns hnl hn1 hn2
    have hTl : T.length ≤ 30 := by rw [← hT]; simp; omega
    have g₅ := g.keeps F₅.keep
    have dAt := dict_at prog g₅
    refine wpAny_Assign_ListComp_free (cl := [("text", s.heap.objs.size + 1 + 1)]) (inTV T) (fun v y => y = v) (by rfl) (by rfl) (by decide) rfl (by decide) (by rfl) (by rfl) (by rfl) ?_
    k_steps
    have h43 : (43 : Nat) < h₅.objs.size := by obtain ⟨o, es, ho, _⟩ := dAt; exact Heap.lt_size ho
    refine wpAny_pyIter_dict (by decide) dAt ?_
    have hpsz : (h₅.push { cls := Value.type "dict_keyiterator", data := Data.fields #[Value.ref 43, Value.int 0 0, Value.int (kvs w.params).length 0, Value.int 48 0] }).objs.size = h₅.objs.size + 1 := Heap.size_push ..
    refine ⟨h₅.objs.size, _, _, (kvs w.params).length, _, _, _, rfl, Walks.dictKeys (knd := PySem.strKind prog w) (A := A.deeper _) hh h₅.objs.size 43 (Nat.ne_of_lt h43) (kvs w.params) 48, ?z1, ?z0, ?z2, ?z3, (F₅.push _).ns, ?quiet, ?fin⟩
    case z0 => exact ⟨⟨_, Heap.get?_push_size _ rfl, rfl, rfl⟩, dAt.at' fun o e => Heap.get?_push_of_some _ e⟩
    case z1 => rw [sizeLine_eq, kvs_len]; omega
    case z2 =>
      intro b hb
      refine Nat.lt_of_lt_of_eq ?_ hpsz.symm
      rcases List.mem_cons.mp hb with e | hb
      · rw [e]; exact Nat.lt_succ_self _
      · rw [List.mem_singleton.mp hb]; exact Nat.lt_succ_of_lt h43
    case z3 =>
      intro q
      exact absurd F₅.ns.lt (by rw [← List.mem_singleton.mp q]; exact Nat.lt_irrefl _)
    case quiet =>
      have item : ∀ (i : Nat) (v : Value), (∃ k x, (kvs w.params)[i]? = some (k, x) ∧ (PySem.strKind prog w).is k v = true) → i < 48 ∧ ∃ t, v = .str (mkS (sgn i)) t := by
        rintro i v ⟨k, x, h1, h2⟩
        obtain ⟨h3, rfl, _⟩ := kvs_get h1
        obtain ⟨t, rfl⟩ := Value.isStrOf_shape h2
        exact ⟨h3, t, rfl⟩
      refine ⟨?_, ?_⟩
      · intro C i v s₃ m₃ E' hC hP hn3 hm3 hk3 _
        obtain ⟨hi48, t, rfl⟩ := item i v hP
        refine wpAny_tests_one ?_
        refine test_sign (k := i) rfl (by rfl) (by rfl) (by rfl) ⟨oX, hk3 _ _ ?_ (Heap.get?_push_of_some _ (N₅ _ (.head _)).1), dT2⟩ hn3 hm3 hi48 ?_
        · intro q
          exact absurd (Heap.lt_size (N₅ _ (.head _)).1) (by rw [List.mem_singleton.mp q]; exact Nat.lt_irrefl _)
        · intro tk'
          rw [mkS_codes]
          exact ⟨(inTV_eq T i t).symm, _, _, rfl, fun _ _ e => e⟩
      · intro C i v s₃ m₃ E' hC hP _ hn3 hm3 hk3 _
        exact wpAny_Name (wpAny_loadName_local rfl (by rfl) hn3 hm3 ⟨rfl, _, _, rfl, fun _ _ e => e⟩)
    case fin =>
      intro Ds h₆ tk₆ ys vs' hD hlD hplD hlen hPv hpair hns6 hk6
      rw [kvs_len] at hlen
      have hS := signs_range vs' 0 (fun j v e => by
        obtain ⟨k, x, h1, h2⟩ := hPv j v e
        obtain ⟨h3, rfl, _⟩ := kvs_get h1
        obtain ⟨t, rfl⟩ := Value.isStrOf_shape h2
        exact ⟨t, rfl⟩)
      rw [hlen] at hS
      have hS2 := signs_filter (T := T) hS
      rw [← paired_eq hpair] at hS2
      change SignsAre ys.toList (keysT T) at hS2
      obtain ⟨sv, rfl⟩ : ∃ sv : List Value, ys = sv.toArray := ⟨ys.toList, by simp⟩
      obtain ⟨nS, hgS⟩ := hplD
      have hDh : h₅.get? Ds = none := by
        cases q : h₅.get? Ds with
        | none => rfl
        | some o => rw [Heap.get?_push_of_some _ q] at hD; cases hD
      have hkk : ∀ b o, b ≠ s.heap.objs.size → h₅.get? b = some o → h₆.get? b = some o := fun b o hb e =>
        hk6 b o hb (fun q => Nat.lt_irrefl _ (by have := Heap.lt_size e; rw [List.mem_singleton.mp q] at this; exact this)) (Heap.get?_push_of_some _ e)
      have F₆ : Fr s.heap s.heap.objs.size h₆ (pin [("signs", .ref Ds), ("script", .ref sa)] u5) :=
        ⟨hns6, fun b o e => hkk b o (Nat.ne_of_lt (Heap.lt_size e)) (F₅.keep b o e), F₅.above⟩
      have N₆ : News s.heap s.heap.objs.size h₆ [(Ds, lst sv nS), (s.heap.objs.size + 1 + 1, oX)] := fun p hp => by
        rcases List.mem_cons.mp hp with e | hp
        · rw [e]
          refine ⟨hgS, fun e' => ?_, ?_⟩
          · obtain ⟨oL, _, _, hL, _⟩ := F₅.ns
            have e'' : Ds = s.heap.objs.size := e'
            rw [e'', hL] at hDh; cases hDh
          · cases q : s.heap.get? Ds with
            | none => rfl
            | some o' => rw [F₅.keep _ _ q] at hDh; cases hDh
        · exact ⟨hkk _ _ (N₅ p hp).2.1 (N₅ p hp).1, (N₅ p hp).2⟩
      have g₆ := g.keeps F₆.keep
      clear hk6 hns6 hlD hkk hPv hpair hD hS hlen hgS hDh g₅ dAt h43 hpsz F₅ N₅
      dsimp only
      k_steps
      unfold Stop
      simp only [] at hS2
      have hsl : sv.length = (keysT T).length := hS2.length
      have hkl := keysT_len T
      have hlsD : h₆.IsList Ds sv.toArray := N₆.isList (.head _)
      have hDsl : @LT.lt Nat _ Ds h₆.objs.size := by obtain ⟨ol, hol, _⟩ := hlsD; exact Heap.lt_size hol
      have hpsz : (h₆.push { cls := Value.type "list_iterator", data := Data.fields #[Value.ref Ds, Value.int 0 0] }).objs.size = h₆.objs.size + 1 := Heap.size_push ..
      refine comp_assign (cl := []) (by rfl) (by rfl) (by decide) rfl (by decide) (by rfl) (by rfl) (by rfl) ?_
      k_steps
      refine wpAny_pyIter_list hlsD ?_
      refine ⟨h₆.objs.size, _, sv.toArray.size, _, _, _, fun a b h => a.length ≤ (keysT T).length ∧ RowsGe (h₆.objs.size + 1 + 2) h b ((keysT T).take a.length), rfl,
        Walks.list (A := A.deeper _) hh h₆.objs.size Ds (Nat.ne_of_lt hDsl) sv.toArray, ?z1, ?z0, ?z2, ?z4, ?z3, (F₆.push _).ns, ⟨Nat.zero_le _, trivial⟩, ?km, ?turn, ?fin⟩
      case z0 => exact ⟨⟨_, Heap.get?_push_size _ rfl, rfl, rfl⟩, hlsD.push _⟩
      case z1 => simp; omega
      case z2 =>
        intro b hb
        refine Nat.lt_of_lt_of_eq ?_ hpsz.symm
        rcases List.mem_cons.mp hb with e | hb
        · rw [e]; exact Nat.lt_succ_self _
        · rw [List.mem_singleton.mp hb]; exact Nat.lt_succ_of_lt hDsl
      case z3 => exact Nat.ne_of_lt F₆.ns.lt
      case z4 => exact Nat.lt_of_lt_of_eq (Nat.lt_succ_self _) hpsz.symm
      case km =>
        rintro a b h h' ⟨h1, h2⟩ hk
        exact ⟨h1, h2.mono fun q o hq e => hk q o (by have hq' : h₆.objs.size + 1 + 2 ≤ q := hq; rw [← hpsz] at hq'; exact hq') e⟩
      case turn =>
        rintro C v a b s₃ m₃ E' hP ⟨hK1, hK2⟩ hn3 hm3 hk3 hs3
        obtain ⟨k, t, hk1, rfl⟩ := hS2.get a.length v (by simpa using hP)
        have hup : ∀ b o, h₆.get? b = some o → s₃.heap.get? b = some o := fun b o e => hk3 b o (Nat.ne_of_lt (Heap.lt_size e)) (Heap.get?_push_of_some _ e)
        have hlt : a.length < (keysT T).length := (List.getElem?_eq_some_iff.mp hk1).1
        refine elt_row (k := k) (g₆.keeps hup) rfl (by rfl) (by rfl) (by rfl) rfl rfl hn3 hm3 (keysT_lt (List.mem_of_getElem? hk1)) ?_
        intro tk' o' hfr htup
        have hup2 : ∀ b o, s₃.heap.get? b = some o → (s₃.heap.push o').get? b = some o := fun b o e => Heap.get?_push_of_some _ e
        refine ⟨⟨by simp; omega, ?_⟩, _, _, rfl, hup2⟩
        have e1 : (a ++ [Value.str (mkS (sgn k)) t]).length = a.length + 1 := by simp
        rw [e1, List.take_add_one, hk1]
        exact RowsGe.snoc (Nat.le_trans (Nat.le_of_eq (by rw [← hpsz])) hs3) htup (hK2.mono fun q o _ e => hup2 q o e)
      case fin =>
        rintro Dr h₇ tk₇ b a hDn hlD halen hPa ⟨hK1, hK2⟩ hns7 hk7
        have hal : a.length = (keysT T).length := by rw [halen]; simp [hsl]
        rw [hal, List.take_length] at hK2
        obtain ⟨rn, hrn, hrows⟩ := hK2.into
        obtain ⟨oR, hoR, hcR, nR, hdR⟩ := hlD
        have hDh : h₆.get? Dr = none := by
          cases q : h₆.get? Dr with
          | none => rfl
          | some o => rw [Heap.get?_push_of_some _ q] at hDn; cases hDn
        have hkk : ∀ b o, b ≠ s.heap.objs.size → h₆.get? b = some o → h₇.get? b = some o := fun b o hb e =>
          hk7 b o hb (Nat.ne_of_lt (Heap.lt_size e)) (Heap.get?_push_of_some _ e)
        have F₇ : Fr s.heap s.heap.objs.size h₇ (pin [("rows", .ref Dr), ("signs", .ref Ds), ("script", .ref sa)] u5) :=
          ⟨hns7, fun b o e => hkk b o (Nat.ne_of_lt (Heap.lt_size e)) (F₆.keep b o e), F₆.above⟩
        have N₇ : News s.heap s.heap.objs.size h₇ ((Dr, oR) :: (s.heap.objs.size + 1 + 1, oX) :: rn) := fun p hp => by
          rcases List.mem_cons.mp hp with e | hp
          · rw [e]
            refine ⟨hoR, fun e' => ?_, ?_⟩
            · obtain ⟨oL, _, _, hL, _⟩ := F₆.ns
              have e'' : Dr = s.heap.objs.size := e'
              rw [e'', hL] at hDh; cases hDh
            · cases q : s.heap.get? Dr with
              | none => rfl
              | some o' => rw [F₆.keep _ _ q] at hDh; cases hDh
          · rcases List.mem_cons.mp hp with e | hp
            · rw [e]
              exact ⟨hkk _ _ (N₆ _ (.tail _ (.head _))).2.1 (N₆ _ (.tail _ (.head _))).1, (N₆ _ (.tail _ (.head _))).2⟩
            · obtain ⟨e1, e2⟩ := hrn p hp
              have hLN := ltN F₆.ns.lt
              refine ⟨e1, fun e' => ?_, ?_⟩
              · have e'' : @Eq Nat p.1 s.heap.objs.size := e'
                omega
              · cases q : s.heap.get? p.1 with
                | none => rfl
                | some o' =>
                  have q1 := ltN (Heap.lt_size q)
                  omega
        have g₇ := g.keeps F₇.keep
        clear hk7 hns7 hkk hPa hDn hDh hoR hrn hpsz hlsD hDsl hK1 hK2 halen hS2 F₆ N₆ g₆
        dsimp only
        k_steps
        (rename Fr _ _ _ _ => F₈); (rename News _ _ _ _ => N₈)
        refine sumK hh F₈ N₈ (hl.at fun o e => F₈.keep _ _ e) hi ?_
        intro h₉ tk₉ t₉ F₉ N₉
        clear F₈ N₈
        k_steps
        rename_i d6 _ _ k4 _ _ d5 _ _ d4 _ _ k3 _ _ d3 _ _ d2 _ _ k2 _ _ d1 _ _ d0 _ _ k1 _ _ kl _ _
        have hfm : ns.sum.fmod 4 = ns.sum % 4 := Int.fmod_eq_emod_of_nonneg _ (by decide)
        have hm0 := Int.emod_nonneg ns.sum (show (4 : Int) ≠ 0 by decide)
        have hm4 := Int.emod_lt_of_pos ns.sum (show (0 : Int) < 4 by decide)
        rw [hfm]
        generalize ns.sum % 4 = r at hm0 hm4
        obtain ⟨nw, Nw, hmDr, hmX, hmrn, hmk, hK4, hK3, hK2, hK1⟩ : ∃ nw, News s.heap s.heap.objs.size h₉ nw ∧ (Dr, oR) ∈ nw ∧ (s.heap.objs.size + 1 + 1, oX) ∈ nw ∧ (∀ p ∈ rn, p ∈ nw) ∧
            (kl, lst [.ref k4, .ref k3, .ref k2, .ref k1] 0) ∈ nw ∧ KeysIn nw k4 (ord4 0) ∧ KeysIn nw k3 (ord4 1) ∧ KeysIn nw k2 (ord4 2) ∧ KeysIn nw k1 (ord4 3) := by
          refine ⟨_, N₉, by k_mem, by k_mem, fun p hp => by (repeat (first | exact hp | apply List.Mem.tail)), by k_mem, ?_, ?_, ?_, ?_⟩
          · exact keysIn1 (a := d6) (by k_mem) (by k_mem) tupObj2
          · exact keysIn2 (a := d5) (b := d4) (by k_mem) (by k_mem) tupObj2 (by k_mem) tupObj2
          · exact keysIn2 (a := d3) (b := d2) (by k_mem) (by k_mem) tupObj2 (by k_mem) tupObj2
          · exact keysIn2 (a := d1) (b := d0) (by k_mem) (by k_mem) tupObj2 (by k_mem) tupObj2
        obtain ⟨ka, hka1, hka2⟩ : ∃ ka, ([.ref k4, .ref k3, .ref k2, .ref k1] : List Value)[r.toNat]? = some (.ref ka) ∧ KeysIn nw ka (ord4 r.toNat) := by
          obtain rfl | rfl | rfl | rfl : r = 0 ∨ r = 1 ∨ r = 2 ∨ r = 3 := by omega
          · exact ⟨k4, rfl, hK4⟩
          · exact ⟨k3, rfl, hK3⟩
          · exact ⟨k2, rfl, hK2⟩
          · exact ⟨k1, rfl, hK1⟩
        refine item_lst (Nw.isList hmk) hm0 (by omega) hka1 ?_
        clear N₉ hK4 hK3 hK2 hK1 hmk hka1
        k_steps
        unfold Stop
        (rename Fr _ _ _ _ => FA); (rename News _ _ _ _ => NA)
        refine call_cls (fI := 28) FA g.k NA (by kernel_rfl) (by kernel_rfl) (by kernel_rfl) ?_
        intro ox dx hB FB NB hltB hdxB
        refine init_spec g FB NB hltB hdxB (by rw [depth_under_make]; show A.depth + 1 + 1 < _; omega) ?_
        intro hC tkC hs tkh FC NC
        refine ⟨rfl, ?_⟩
        dsimp only
        clear FA NA FB NB
        obtain ⟨items, nk, hki, hkl', hkt⟩ := hka2
        have OC : OrderAt hC ox (ord4 r.toNat) dx ka hs tkh 1 items :=
          ⟨(NC _ (.head _)).1, (NC _ (.tail _ (.head _))).1, NC.isList (.tail _ (.tail _ hki)), hkl', fun i p hp => by
            obtain ⟨a, o, e1, e2, e3⟩ := hkt i p hp
            exact ⟨a, e1, e3.at (NC _ (.tail _ (.tail _ e2))).1⟩⟩
        have hrowsC : RowsAt rowC hC b (keysT T) := hrows.rows fun p hp => (NC _ (.tail _ (.tail _ (hmrn p hp)))).1
        have hlC : hC.IsList Dr b.toArray := ⟨oR, (NC _ (.tail _ (.tail _ hmDr))).1, hcR, nR, hdR⟩
        obtain ⟨hread, hops⟩ := plain_law n8 r.toNat T hT
        k_steps
        unfold Stop
        refine wpAny_call (sorted_spec rowC (ord4 r.toNat) 60 (g.keeps FC.keep) (by show A.depth + 1 + 60 + 4 < _; omega) (by rw [Around.deeper_units]; omega) hh OC hlC hrowsC (by omega) (by omega)
          (fun k _ => by simp [rowC]) (fun k _ => cmp4_refl r.toNat k) (fun k _ q _ => cmp4_ok r.toNat k q) ?_)
        intro sD bs vsS nsS hstD hnewD hbsD hrowsD
        have FD := hstD.fr FC (List.not_mem_nil) (fun _ h => absurd h (List.not_mem_nil))
        have ND := news_add FC NC hstD hnewD hbsD
        obtain ⟨hD, tkD, rfl, hkD⟩ := hstD
        clear FC NC hkD hnewD
        have hql := qs_length (fun a b => cmpL (ord4 r.toNat) (rowC a) (rowC b)) 60 (keysT T)
        generalize qs (fun a b => cmpL (ord4 r.toNat) (rowC a) (rowC b)) 60 (keysT T) = ksS at hrowsD hread hql
        dsimp only at hbsD hrowsD ⊢
        generalize hfw : fewest T = fw at hread
        k_steps
        unfold Stop
        have hfl : fw.length ≤ 1000 := by
          rw [← hfw]
          obtain ⟨rr, hrr⟩ := rests_head T
          have := rests_le T 0 (fewest T) (by rw [hrr]; rfl)
          omega
        refine wpAny_call (reading_spec (ns := fw) (nf := T.length + 1) (g.keeps FD.keep) (by show A.depth + 1 + 4 < _; omega) (by rw [Around.deeper_units]; omega) hh (by rw [mkS_codes]; omega) (ND.isList (.head _)) hrowsD (Nat.le_trans hql (by omega)) (by rw [mkS_codes]; exact hread) hfl ?_)
        intro sE be vsE nE hstE hnewE hbE hiE
        have FE := hstE.fr FD (List.not_mem_nil) (fun _ h => absurd h (List.not_mem_nil))
        have NE := news_add FD ND hstE hnewE hbE
        obtain ⟨hE, tkE, rfl, hkE⟩ := hstE
        clear FD ND hkE hnewE hbsD hrowsD
        dsimp only at hbE FE NE ⊢
        walk1
        walk1
        walk1
        refine spliced_more (wpAny_Name (wpAny_loadName_cell rfl (by rfl) (by rfl) ⟨oX, (NE _ (.tail _ (.tail _ (.tail _ (.tail _ hmX))))).1, dT2⟩ (spliced_none ⟨g.k.keeps FE.keep, ?_⟩)))
        refine wpAny_call (fewest_spec (g.keeps FE.keep) (by show A.depth + 1 + 4 < _; omega) (by rw [Around.deeper_units]; omega) hh (by rw [mkS_codes]; omega) (by rw [mkS_codes]; exact hops) ?_)
        intro sG bg vsG nG hstG hnewG hbG hiG
        rw [mkS_codes, hfw] at hiG
        have FG := hstG.fr FE (List.not_mem_nil) (fun _ h => absurd h (List.not_mem_nil))
        have NG := news_add FE NE hstG hnewG hbG
        obtain ⟨hG, tkG, rfl, hkG⟩ := hstG
        clear FE NE hkG hnewG hbE
        dsimp only at hbG ⊢
        k_steps
        exact hR _ (Stays.of FG.keep)
end Mine
end

open PySem PySem.W PyProof.Rows
theorem PySem.Challenge.cw_mr0172_01_holds : PySem.Challenge.rw_mr0172_01.Holds :=
  Mine.hd (by
  w_strict (
  k_fill
  intro w s₀ s₁ mg mb G Y fa o pm cd doc dV kV ho hd hcd hD hmg hg args vals as hpre hlay hrd hwl hlo
  have KX := kIn_of Y
  refine Ground.open G ?_
  intro T B D TE TW
  wrow_args hpre hlay hrd hwl hlo
  refine enter_call ?_
  have e76 := mg_of KX T.g (show nsIn _ mainGlobals (Str.ofString "law") = some (some (.ref 76)) from by kernel_rfl)
  have hmg' : mg (Str.ofString "law") = some (.ref fa) := hmg
  rw [e76] at hmg'
  obtain rfl : 76 = fa := by injection hmg' with h; injection h
  rename_i ns _ _ _ _ _ _ _ sa vs _ hl _ _ _ hi _ hlen _
  refine Mine.law_spec (mg := mg) (mb := mb) ⟨KX, topRead_of T⟩ (by decide) (by decide) rfl hl hi (by omega) ?_
  intro s' hst
  refine GoodW.toG ?_
  have hk := hst.keep
  obtain ⟨h', tk, rfl, _⟩ := hst
  exact ⟨.inl ⟨.bool true, .bool true, [], rfl, fun cls => by rfl, .bool true, postW_of rfl (w_eq_bool (w_res rfl) w_lit) rfl, unshared_nil⟩, hk, rfl, hg⟩))
