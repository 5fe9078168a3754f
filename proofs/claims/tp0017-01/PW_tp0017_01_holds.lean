import PyProof.Rows.All
import Wide.All
import OpenK.AllK
import Wide.FinOn
import KE.KLcTest
import KE.KPairComp
import PyProof.WalksEnum
import PyProof.EnumStmt
import KE.KSlice
import KE.KRevSl
import Lean
import PySem.Challenge.RW_tp0017_01
set_option Elab.async false
namespace Mine
section
open PySem PySem.W PyProof.Rows PySem.Calls PySem.Spec
set_option maxRecDepth 100000
set_option maxHeartbeats 8000000
set_option rowWalk.seconds 0
set_option linter.all false
set_option compiler.extract_closed false
section -- Hd
open PySem PySem.W PyProof.Rows
set_option maxRecDepth 100000
set_option maxHeartbeats 8000000
theorem row_of {l : OpenLaw} (h : l.Holds) : l.row.Holds := h.2
section
/- this theorem says nothing of its own: its proof lays the written part of the heap as a constant, Mine.hd.heap_1, of which the walks below speak -/
local macro_rules | `(tactic| o_head $_) => `(tactic| exact Mine.row_of (by assumption))
theorem hd (h : PySem.Challenge.rw_tp0017_01.Holds) : PySem.Challenge.rw_tp0017_01.Holds := by
  refine holds_law h.1 fun _ => ?_
  k_head
end
end
section -- Ent
open PySem PySem.W PyProof.Rows PySem.Calls
set_option maxRecDepth 100000
set_option maxHeartbeats 8000000
abbrev Pr : Program := PySem.Challenge.rw_tp0017_01.row.prog

section
variable {prog : Program} {w : World} {A₀ A : Around} {s : Shared} {base h₀ : Heap} {outer : List Env} {L : Addr} {m : Str → Option Value} {env : Env} {K : Frag}
  {p : Program} {loose : List Str} {mean : ExcName → Option Value} {mg mb : Str → Option Value}
  {R : Result → Shared → Prop} {name qual : Str} {params : Arguments} {body : List Stmt} {scope : Scope} {dV kV doc pm cdv ct oc : Value} {an od : Option Addr} {osl : Array (Option Value)} {f : Addr} {args : Args} {binds : List (Str × Value)}

/-- a def is entered with all that stands frozen -/
theorem code_defG (B : Below A₀ base outer h₀) (F : Fr h₀ L s.heap m) (X₀ : K.In h₀) (T : Top p loose mean mg mb h₀) (hA : A.frames = some (env :: outer)) (hf : env.frame = some L) (hke : env.scope.kind = .function)
    (ho : K.lookup f = some ⟨oc, od, .func (fnOf name qual params body scope dV kV doc pm an cdv ct), osl⟩) (hcd : codeIn K cdv qual = true) (hroom : A.depth < recursionLimit)
    (hbind : BindsTo s (fnOf name qual params body scope dV kV doc pm an cdv ct) args binds) (hloc : ∀ y ∈ binds, scope.names.lookup y.1 = some .local)
    (h : ∀ L' h₁, Fr s.heap L' h₁ (fun y => binds.reverse.lookup y) → News s.heap L' h₁ [] → Below A base (env :: outer) s.heap → K.In s.heap → Top p loose mean mg mb s.heap → 
      wpAny (model prog w) (A.deeper (envOf qual scope L' f cdv)) (execs body (envOf qual scope L' f cdv))
        (fun fl s' => LeaveK h₀ L m s.heap R (match fl with | .ret v => v | _ => .none) s')
        (fun e s' => wpAny (model prog w) (A.deeper (envOf qual scope L' f cdv)) (leaving (envOf qual scope L' f cdv) e) (fun _ s'' => R (.error e) s'') (fun e' s'' => R (.error e') s'') s')
        { s with heap := h₁, toks := s.toks + binds.length })
    (hco : scope.isCoroutine = false) (hgen : scope.isGenerator = false) (hk : scope.kind = .function)
    (hcell : ∀ x ∈ scope.names, x.2 ≠ .cell) : codeAny (model prog w) A (.call (.ref f) args) R s := by
  obtain ⟨FG, BG, st, lv⟩ := groundX (R := R) B F (News.nil (h₀ := h₀) (L := L) (h := s.heap)) hA hf hke
  refine codeAny_call_def (fd := fnOf name qual params body scope dV kV doc pm an cdv ct) (body := body) (binds := binds) hroom ((X₀.keeps F.keep) _ _ ho) rfl (T.nolimit.keeps F.keep) (codeRec_of (X₀.keeps F.keep) hcd) rfl hbind hcell hloc (fun h₁ hns hk₁ => ?_) hco hgen hk
  exact wpAny_mono (h s.heap.objs.size h₁ ⟨hns, hk₁, Nat.le_refl _⟩ News.nil BG (X₀.keeps F.keep) (T.keeps F.keep)) (fun fl s' hl => lv _ _ hl) fun _ _ y => y

theorem code_defCG (B : Below A₀ base outer h₀) (F : Fr h₀ L s.heap m) (X₀ : K.In h₀) (T : Top p loose mean mg mb h₀) (hA : A.frames = some (env :: outer)) (hf : env.frame = some L) (hke : env.scope.kind = .function)
    (ho : K.lookup f = some ⟨oc, od, .func (fnOf name qual params body scope dV kV doc pm an cdv ct), osl⟩) (hcd : codeIn K cdv qual = true) (hroom : A.depth < recursionLimit)
    (hbind : BindsTo s (fnOf name qual params body scope dV kV doc pm an cdv ct) args binds) (hkind : (binds.all fun y => scope.names.lookup y.1 == some .local || scope.names.lookup y.1 == some .cell) = true)
    (hnd : ((cellsFrom 0 scope.names []).map (·.1)).Nodup)
    (h : ∀ L' h₁ tk cells, Fr s.heap L' h₁ (bindL (envOfC qual scope L' f cdv).kindOf binds fun _ => none) → News s.heap L' h₁ cells →
      CellsAre (bindC (envOfC qual scope L' f cdv).kindOf binds fun _ => none) (cellsFrom (L' + 1) scope.names []) cells → Below A base (env :: outer) s.heap → K.In s.heap → Top p loose mean mg mb s.heap →
      wpAny (model prog w) (A.deeper (envOfC qual scope L' f cdv)) (execs body (envOfC qual scope L' f cdv))
        (fun fl s' => LeaveK h₀ L m s.heap R (match fl with | .ret v => v | _ => .none) s')
        (fun e s' => wpAny (model prog w) (A.deeper (envOfC qual scope L' f cdv)) (leaving (envOfC qual scope L' f cdv) e) (fun _ s'' => R (.error e) s'') (fun e' s'' => R (.error e') s'') s')
        { s with heap := h₁, toks := tk })
    (hco : scope.isCoroutine = false) (hgen : scope.isGenerator = false) (hk : scope.kind = .function) : codeAny (model prog w) A (.call (.ref f) args) R s := by
  obtain ⟨FG, BG, st, lv⟩ := groundX (R := R) B F (News.nil (h₀ := h₀) (L := L) (h := s.heap)) hA hf hke
  refine codeAny_call_function hroom ((X₀.keeps F.keep) _ _ ho) rfl hco hgen rfl (codeRec_of (X₀.keeps F.keep) hcd) (hbind _ _ _ _ ?_)
  refine wpAny_newFunctionEnv_cells hk (kindsX hkind _) fun env' he s' x => ?_
  subst he
  refine ⟨(T.nolimit.keeps F.keep).keeps x.toInCall.keep, codeAny_func ?_⟩
  obtain ⟨h₁, tk, rfl, _⟩ := x.done
  have hk₁ := x.toInCall.keep
  obtain ⟨cells, NC, Y⟩ := Cl.news (h₀ := s.heap) (Nat.le_refl _) fun n c hm => ⟨x.cell n c (lookup_of_mem_nodup (cellsFrom_names scope.names 0 (s.heap.objs.size + 1) [] [] rfl ▸ hnd) hm), x.above n c hm⟩
  refine wpAny_mono (h s.heap.objs.size h₁ tk cells ⟨x.toInCall.ns, hk₁, Nat.le_refl _⟩ NC Y BG (X₀.keeps F.keep) (T.keeps F.keep)) (fun fl s' hl => lv _ _ hl) fun _ _ y => y
end
end
section -- Lp
open PySem PySem.W PyProof.Rows PySem.Calls PySem.Spec
set_option maxRecDepth 100000

def Stop (P : Prop) : Prop := P
theorem Stop.mk {P : Prop} (h : Stop P) : P := h

/-- the end of a loop's turn; I: the iterator's own object -/
def MTurnEnd (s : Shared) (h₀ : Heap) (L : Addr) (I : Addr) (oI : Obj) (Jn : (Str → Option Value) → List (Addr × Obj) → Prop) (s₂ : Shared) : Prop :=
  ∃ h' tk m' news', s₂ = { s with heap := h', toks := tk } ∧ Fr h₀ L h' m' ∧ News h₀ L h' ((I, oI) :: news') ∧ (∀ p ∈ news', p.1 ≠ I) ∧ Jn m' news'
theorem MTurnEnd.mk {s : Shared} {h₀ : Heap} {L : Addr} {I : Addr} {oI : Obj} {Jn : (Str → Option Value) → List (Addr × Obj) → Prop} {h' : Heap} {tk : Nat} {m' : Str → Option Value} (news' : List (Addr × Obj))
   (F : Fr h₀ L h' m') (N : News h₀ L h' ((I, oI) :: news')) (off : ∀ p ∈ news', p.1 ≠ I) (hJ : Jn m' news') : MTurnEnd s h₀ L I oI Jn { s with heap := h', toks := tk } := ⟨h', tk, m', news', rfl, F, N, off, hJ⟩
def MTurnPost (Q : Flow → Shared → Prop) (s : Shared) (h₀ : Heap) (L : Addr) (I : Addr) (oI : Obj) (Jn : (Str → Option Value) → List (Addr × Obj) → Prop) (f : Flow) (s₂ : Shared) : Prop :=
  match f with
  | .ret v => Q (.ret v) s₂
  | .brk => Q .next s₂
  | .next => MTurnEnd s h₀ L I oI Jn s₂
  | .cont => MTurnEnd s h₀ L I oI Jn s₂

def ForAt (prog : Program) (w : World) (A : Around) (env : Env) (target : Expr) (body : List Stmt) (Q : Flow → Shared → Prop) (it : Value) (s₂ : Shared) : Prop :=
  codeAny (model prog w) A (.forLoop target it body [] env) (fun r s' => match r with | .ok f => Q f s' | .error _ => False) s₂

section
variable {prog : Program} {w : World} {A : Around} {E : Value → Shared → Prop} {s : Shared} {env : Env} {h₀ : Heap} {x : Str} {body : List Stmt} {Q : Flow → Shared → Prop} {m : Str → Option Value} {news : List (Addr × Obj)}

theorem for_go {target iter : Expr} {pos : Pos}
    (h : wpAny (model prog w) A (eval iter env) (fun xv s₁ => wpAny (model prog w) A (pyIter xv) (ForAt prog w A env target body Q) (fun _ _ => False) s₁) (fun _ _ => False) s)
    (hs : ∀ x, foldedSetIterable iter env x = pure x := by intro _; rfl) : wpAny (model prog w) A (exec (.For target iter body [] pos) env) Q E s :=
  wpAny_For (wpAny_mono h (fun xv s₁ h₁ => wpAny_mono h₁ (fun it s₂ h₂ => codeAny_mono h₂ fun r s' hr => by cases r with | ok f => exact hr | error e => exact hr.elim) fun _ _ e => e.elim) fun _ _ e => e.elim) hs

theorem iter_list {l : Addr} {its : Array Value} {px : Pos} (J : Nat → (Str → Option Value) → List (Addr × Obj) → Prop)
    (hh : A.handled = none) (F : Fr h₀ env.locals s.heap m) (N : News h₀ env.locals s.heap news) (src : LCg.SrcAt h₀ l its news)
    (hj : J 0 m news) (hS : ∀ i m n, J i m n → LCg.SrcAt h₀ l its n)
    (turn : ∀ i v m₁ news₁ h tk I oI, its[i]? = some v → J i m₁ news₁ → (∀ p ∈ news₁, p.1 ≠ I) → Fr h₀ env.locals h (fun y => if y = x then some v else m₁ y) → News h₀ env.locals h ((I, oI) :: news₁) →
      wpAny (model prog w) A (execs body env) (MTurnPost Q { s with heap := h, toks := tk } h₀ env.locals I oI (J (i + 1))) (fun _ _ => False) { s with heap := h, toks := tk })
    (done : ∀ m₁ news₁ h tk, J its.size m₁ news₁ → Fr h₀ env.locals h m₁ → News h₀ env.locals h news₁ → Q .next { s with heap := h, toks := tk })
    (hx : env.kindOf x = some .local := by rfl)
    (hp : (env.scope.kind == .class || (env.scope.kind == .module && env.locals != env.globals)) = false := by rfl) :
    wpAny (model prog w) A (pyIter (.ref l)) (ForAt prog w A env (.Name x px) body Q) E s := by
  have hls : s.heap.IsList l its := src.list F.keep N
  obtain ⟨ol, hol, _⟩ := id hls
  have hlt : l < s.heap.objs.size := Heap.lt_size hol
  refine wpAny_pyIter_list hls ?_
  generalize hI : s.heap.objs.size = I at *
  have hIL : env.locals ≠ I := hI ▸ Nat.ne_of_lt F.ns.lt
  have hI₀ : h₀.get? I = none := hI ▸ next_is_new F
  have hup : ∀ b o, s.heap.get? b = some o → (s.heap.push { cls := .type "list_iterator", data := .fields #[.ref l, .int 0 0] }).get? b = some o := fun b o e => Heap.get?_push_of_some _ e
  unfold ForAt
  refine codeAny_forLoop
    (fun k s' => ∃ h' tk m' news' i, s' = { s with heap := h', toks := tk } ∧ h'.IsListIter I l i ∧ Fr h₀ env.locals h' m' ∧ News h₀ env.locals h' news' ∧ (∀ p ∈ news', p.1 ≠ I) ∧ J i m' news' ∧ i ≤ its.size ∧ k = its.size + 1 - i) ?_ (its.size + 1)
    ⟨_, _, m, news, 0, rfl, ⟨_, hI ▸ Heap.get?_push_size _ rfl, rfl, rfl⟩, F.keeps hup, N.grown hup, fun p hp => hI ▸ Nat.ne_of_lt (Heap.lt_size (N p hp).1), hj, Nat.zero_le _, rfl⟩
  intro k s' hI9
  refine Classical.byContradiction fun hG => ?_
  obtain ⟨h', tk, m', news', i, rfl, hit, F', N', off, hJ, hi, rfl⟩ := hI9
  refine hG ?_
  clear hG
  have hl' : h'.IsList l its := (hS _ _ _ hJ).list F'.keep N'
  by_cases hlt : i < its.size
  · refine wpAny_pyNext_list_item hit hl' (x := its[i]) (by simp [hlt]) fun h₁ hit₁ hs₁ => ?_
    have F₁ : Fr h₀ env.locals h₁ m' := F'.change hs₁ (Ne.symm hIL) hI₀
    have N₁ : News h₀ env.locals h₁ news' := fun p hp => ⟨hs₁.extBut _ _ (off p hp) (N' p hp).1, (N' p hp).2⟩
    refine wpAny_assign_Name (wpAny_storeName_local hx F₁.ns (fun h₂ hn₂ hs₂ => ?_) hp)
    have F₂ := F₁.set hn₂ hs₂
    have N₂ := N₁.set hs₂
    refine Classical.byContradiction fun hG => ?_
    obtain ⟨oI, heI, hc, hd⟩ := hit₁
    have heI₂ : h₂.get? I = some oI := hs₂.extBut _ _ (Ne.symm hIL) heI
    refine hG ?_
    clear hG
    refine wpAny_mono (turn i its[i] m' news' h₂ _ I oI (by simp [hlt]) hJ off F₂ (fun p hp => ?_)) (fun f s₃ h₃ => ?_) fun _ _ e => e.elim
    · rcases List.mem_cons.mp hp with rfl | hp
      · exact ⟨heI₂, Ne.symm hIL, hI₀⟩
      · exact N₂ p hp
    · have fin : MTurnEnd { s with heap := h₂, toks := tk + 1 } h₀ env.locals I oI (J (i + 1)) s₃ → ∃ m_1, m_1 < its.size + 1 - i ∧ ∃ h' tk m' news' i, s₃ = { s with heap := h', toks := tk } ∧ h'.IsListIter I l i ∧ Fr h₀ env.locals h' m' ∧ News h₀ env.locals h' news' ∧ (∀ p ∈ news', p.1 ≠ I) ∧ J i m' news' ∧ i ≤ its.size ∧ m_1 = its.size + 1 - i := by
        intro hI9
        refine Classical.byContradiction fun hG => ?_
        obtain ⟨h₄, tk₄, m₄, news₄, rfl, F₄, N₄, off₄, hJ₄⟩ := hI9
        refine hG ?_
        clear hG
        exact ⟨_, by omega, h₄, tk₄, m₄, news₄, i + 1, rfl, ⟨oI, (N₄ (I, oI) List.mem_cons_self).1, hc, hd⟩, F₄, fun p hp => N₄ p (List.mem_cons_of_mem _ hp), off₄, hJ₄, hlt, rfl⟩
      cases f with
      | ret v => exact h₃
      | brk => exact h₃
      | cont => exact fin h₃
      | next => exact fin h₃
  · have hin : i = its.size := by omega
    subst hin
    refine wpAny_pyNext_list_end hh hit hl' (by simp) fun h₁ hk₁ => wpAny_execs_nil ?_
    have up : ∀ b o, b ≠ I → h'.get? b = some o → h₁.get? b = some o := fun b o e => hk₁ b o e
    exact done m' news' h₁ tk hJ ⟨F'.ns.at' fun o e => up _ o hIL e, fun b o e => up b o (fun q => by rw [q, hI₀] at e; cases e) (F'.keep b o e), F'.above⟩ fun p hp => ⟨up _ _ (off p hp) (N' p hp).1, (N' p hp).2⟩

theorem iter_range {r : Addr} {a b : Int} {t u v : Tok} {n : Nat} {px : Pos} (J : Nat → (Str → Option Value) → List (Addr × Obj) → Prop)
    (hh : A.handled = none) (F : Fr h₀ env.locals s.heap m) (N : News h₀ env.locals s.heap news) (hr : IsRange s.heap r a b 1 t u v) (hsm : Builtin.Range.small a b 1 = true) (hn : Builtin.Range.rangeSize a b 1 = ((n : Nat) : Int))
    (hj : J 0 m news)
    (turn : ∀ i tv m₁ news₁ h tk I oI, i < n → J i m₁ news₁ → (∀ p ∈ news₁, p.1 ≠ I) → Fr h₀ env.locals h (fun y => if y = x then some (.int (a + (i : Int)) tv) else m₁ y) → News h₀ env.locals h ((I, oI) :: news₁) →
      wpAny (model prog w) A (execs body env) (MTurnPost Q { s with heap := h, toks := tk } h₀ env.locals I oI (J (i + 1))) (fun _ _ => False) { s with heap := h, toks := tk })
    (done : ∀ m₁ news₁ h tk, J n m₁ news₁ → Fr h₀ env.locals h m₁ → News h₀ env.locals h news₁ → Q .next { s with heap := h, toks := tk })
    (hx : env.kindOf x = some .local := by rfl)
    (hp : (env.scope.kind == .class || (env.scope.kind == .module && env.locals != env.globals)) = false := by rfl) :
    wpAny (model prog w) A (pyIter (.ref r)) (ForAt prog w A env (.Name x px) body Q) E s := by
  refine wpAny_pyIter_range hr hsm ?_
  generalize hI : s.heap.objs.size = I at *
  have hIL : env.locals ≠ I := hI ▸ Nat.ne_of_lt F.ns.lt
  have hI₀ : h₀.get? I = none := hI ▸ next_is_new F
  have W := LCg.range_walks (prog := prog) (w := w) (I := I) hh a n
  unfold ForAt
  refine codeAny_forLoop
    (fun k s' => ∃ h' tk m' news' i, s' = { s with heap := h', toks := tk } ∧ IsRangeIter h' I (a + (i : Nat) * 1) ((n : Int) - (i : Nat)) 1 ∧ Fr h₀ env.locals h' m' ∧ News h₀ env.locals h' news' ∧ (∀ p ∈ news', p.1 ≠ I) ∧ J i m' news' ∧ i ≤ n ∧ k = n + 1 - i) ?_ (n + 1)
    ⟨_, _, m, news, 0, rfl, by show IsRangeIter _ _ _ _ _; rw [hn]; simpa [hI] using Heap.get?_push_size s.heap rfl, F.keeps fun _ _ e => Heap.get?_push_of_some _ e, N.grown fun _ _ e => Heap.get?_push_of_some _ e, fun p hp => hI ▸ Nat.ne_of_lt (Heap.lt_size (N p hp).1), hj, Nat.zero_le _, rfl⟩
  intro k s' hI9
  refine Classical.byContradiction fun hG => ?_
  obtain ⟨h', tk, m', news', i, rfl, hit, F', N', off, hJ, hi, rfl⟩ := hI9
  refine hG ?_
  clear hG
  by_cases hlt : i < n
  · refine W.item i _ _ _ hlt hit fun v h₁ tk₁ hP hit₁ hk₁ => ?_
    obtain ⟨tv, rfl⟩ := hP
    have F₁ : Fr h₀ env.locals h₁ m' := LCg.fr_but F' hk₁ hIL hI₀
    have N₁ : News h₀ env.locals h₁ news' := LCg.news_but N' hk₁ off
    refine wpAny_assign_Name (wpAny_storeName_local hx F₁.ns (fun h₂ hn₂ hs₂ => ?_) hp)
    have F₂ := F₁.set hn₂ hs₂
    have N₂ := N₁.set hs₂
    obtain ⟨oI, hoI, heI₂⟩ : ∃ oI, (∀ h : Heap, h.get? I = some oI → IsRangeIter h I (a + ((i + 1 : Nat) : Int) * 1) ((n : Int) - ((i + 1 : Nat) : Int)) 1) ∧ h₂.get? I = some oI := ⟨_, fun _ e => e, hs₂.extBut _ _ (Ne.symm hIL) hit₁⟩
    refine wpAny_mono (turn i tv m' news' h₂ _ I oI hlt hJ off F₂ (fun p hp => ?_)) (fun f s₃ h₃ => ?_) fun _ _ e => e.elim
    · rcases List.mem_cons.mp hp with rfl | hp
      · exact ⟨heI₂, Ne.symm hIL, hI₀⟩
      · exact N₂ p hp
    · have fin : MTurnEnd { s with heap := h₂, toks := tk₁ + 1 } h₀ env.locals I oI (J (i + 1)) s₃ → ∃ m_1, m_1 < n + 1 - i ∧ ∃ h' tk m' news' i, s₃ = { s with heap := h', toks := tk } ∧ IsRangeIter h' I (a + (i : Nat) * 1) ((n : Int) - (i : Nat)) 1 ∧ Fr h₀ env.locals h' m' ∧ News h₀ env.locals h' news' ∧ (∀ p ∈ news', p.1 ≠ I) ∧ J i m' news' ∧ i ≤ n ∧ m_1 = n + 1 - i := by
        intro hI9
        refine Classical.byContradiction fun hG => ?_
        obtain ⟨h₄, tk₄, m₄, news₄, rfl, F₄, N₄, off₄, hJ₄⟩ := hI9
        refine hG ?_
        clear hG
        exact ⟨_, by omega, h₄, tk₄, m₄, news₄, i + 1, rfl, hoI _ (N₄ (I, oI) List.mem_cons_self).1, F₄, fun p hp => N₄ p (List.mem_cons_of_mem _ hp), off₄, hJ₄, hlt, rfl⟩
      cases f with
      | ret v => exact h₃
      | brk => exact h₃
      | cont => exact fin h₃
      | next => exact fin h₃
  · have hin : i = n := by omega
    subst hin
    refine W.done _ _ _ hit fun h₁ tk₁ hk₁ => wpAny_execs_nil ?_
    exact done m' news' h₁ tk₁ hJ (LCg.fr_but F' hk₁ hIL hI₀) (LCg.news_but N' hk₁ off)

/-- the same, the ledger fixed -/
theorem iter_list_m {l : Addr} {its : Array Value} {px : Pos} (J : Nat → (Str → Option Value) → Prop)
    (hh : A.handled = none) (F : Fr h₀ env.locals s.heap m) (N : News h₀ env.locals s.heap news) (src : LCg.SrcAt h₀ l its news)
    (hj : J 0 m)
    (turn : ∀ i v m₁ h tk I oI, its[i]? = some v → J i m₁ → (∀ p ∈ news, p.1 ≠ I) → Fr h₀ env.locals h (fun y => if y = x then some v else m₁ y) → News h₀ env.locals h ((I, oI) :: news) →
      wpAny (model prog w) A (execs body env) (MTurnPost Q { s with heap := h, toks := tk } h₀ env.locals I oI (fun m' n' => J (i + 1) m' ∧ n' = news)) (fun _ _ => False) { s with heap := h, toks := tk })
    (done : ∀ m₁ h tk, J its.size m₁ → Fr h₀ env.locals h m₁ → News h₀ env.locals h news → Q .next { s with heap := h, toks := tk })
    (hx : env.kindOf x = some .local := by rfl)
    (hp : (env.scope.kind == .class || (env.scope.kind == .module && env.locals != env.globals)) = false := by rfl) :
    wpAny (model prog w) A (pyIter (.ref l)) (ForAt prog w A env (.Name x px) body Q) E s :=
  iter_list (fun i m' n' => J i m' ∧ n' = news) hh F N src ⟨hj, rfl⟩ (fun i m n h => by obtain ⟨_, rfl⟩ := h; exact src)
    (fun i v m₁ news₁ h tk I oI hv hJ off F₁ N₁ => by obtain ⟨hJ, rfl⟩ := hJ; exact turn i v m₁ h tk I oI hv hJ off F₁ N₁)
    (fun m₁ news₁ h tk hJ F₁ N₁ => by obtain ⟨hJ, rfl⟩ := hJ; exact done m₁ h tk hJ F₁ N₁) hx hp

theorem filt_t {α : Type} {l : List α} {p : α → Bool} {i : Nat} {x : α} (h : l[i]? = some x) (hp : p x = true) : (l.take (i + 1)).filter p = (l.take i).filter p ++ [x] := by
  rw [List.take_add_one, h, List.filter_append]; simp [hp]
theorem filt_f {α : Type} {l : List α} {p : α → Bool} {i : Nat} {x : α} (h : l[i]? = some x) (hp : p x = false) : (l.take (i + 1)).filter p = (l.take i).filter p := by
  rw [List.take_add_one, h, List.filter_append]; simp [hp]
theorem ints_snoc {vs : List Value} {ns : List Int} {n : Int} {t : Tok} (h : IntsAre vs ns) : IntsAre (vs ++ [.int n t]) (ns ++ [n]) := h.append (.cons _ _ .nil)
theorem len_plus : (Str.ofString "+").length = 1 := by decide
theorem len_minus : (Str.ofString "-").length = 1 := by decide
theorem len_bs : (Str.ofString "\\").length = 1 := by decide
theorem len_sp : (Str.ofString " ").length = 1 := by decide
theorem len_qt : (Str.ofString "\"").length = 1 := by decide
theorem len_nl : (Str.ofString "\n").length = 1 := by decide
theorem News.sub {h₀ h : Heap} {L : Addr} {a b : List (Addr × Obj)} (N : News h₀ L h a) (hs : ∀ p ∈ b, p ∈ a) : News h₀ L h b := fun p hp => N p (hs p hp)
theorem mem_up {α : Type} {p : α} (pre mid tl : List α) (h : p ∈ pre ++ (mid ++ tl)) : p ∈ mid ++ (pre ++ tl) := by
  rcases List.mem_append.mp h with h | h
  · exact List.mem_append_right _ (List.mem_append_left _ h)
  · rcases List.mem_append.mp h with h | h
    · exact List.mem_append_left _ h
    · exact List.mem_append_right _ (List.mem_append_right _ h)
theorem mem_in {α : Type} {p : α} (pre mid tl : List α) (h : p ∈ pre ++ tl) : p ∈ pre ++ (mid ++ tl) := by
  rcases List.mem_append.mp h with h | h
  · exact List.mem_append_left _ h
  · exact List.mem_append_right _ (List.mem_append_right _ h)
theorem IntsAre.at' {vs : List Value} {ns : List Int} (hi : IntsAre vs ns) {i : Nat} {v : Value} (hv : vs[i]? = some v) : ∃ n t, ns[i]? = some n ∧ v = .int n t := by
  have hl := hi.length
  have hlt : i < ns.length := by
    have := (List.getElem?_eq_some_iff.mp hv).1; omega
  obtain ⟨t, ht⟩ := hi.get i ns[i] (by simp [hlt])
  exact ⟨ns[i], t, by simp [hlt], by rw [hv] at ht; exact Option.some.inj ht⟩
theorem foldl_take_succ {α β : Type} {f : β → α → β} {b : β} {l : List α} {i : Nat} {a : α} (h : l[i]? = some a) : (l.take (i + 1)).foldl f b = f ((l.take i).foldl f b) a := by
  rw [List.take_add_one, h]; simp
end
end
section -- Cm
open PySem PySem.W PyProof.Rows PySem.Calls PySem.Spec
set_option maxRecDepth 100000
open PyProof.Rows.LCg (NsObj)

section
variable {prog : Program} {w : World} {A : Around} {s : Shared} {R : Result → Shared → Prop}

theorem compTurn2_0 (elt target iter t2 iter2 : Expr) (scope : Scope) (pos : Pos) (it acc : Value) (env : Env) :
    compTurn (.ListComp elt [⟨target, iter, [], 0⟩, ⟨t2, iter2, [], 0⟩] scope pos) 0 it acc env = (standAt iter.pos >>= fun _ => pyNext it >>= fun r => match r with
      | none => pure (.done .next)
      | some v => letOwnedTupleGo target it v >>= fun _ => assign target env v >>= fun _ =>
        eval iter2 env >>= fun x => standAt iter2.pos >>= fun _ => foldedSetIterable iter2 env x >>= fun x => holding [x] (pyIter x) >>= fun it' => runOwn (.compStart (.ListComp elt [⟨target, iter, [], 0⟩, ⟨t2, iter2, [], 0⟩] scope pos) 1 it' acc env) env >>= fun _ =>
          again (.compLoop (.ListComp elt [⟨target, iter, [], 0⟩, ⟨t2, iter2, [], 0⟩] scope pos) 0 it acc env)) := by rfl

theorem compTurn2_1 (elt target iter t2 iter2 : Expr) (scope : Scope) (pos : Pos) (it acc : Value) (env : Env) :
    compTurn (.ListComp elt [⟨target, iter, [], 0⟩, ⟨t2, iter2, [], 0⟩] scope pos) 1 it acc env = (standAt iter2.pos >>= fun _ => pyNext it >>= fun r => match r with
      | none => pure (.done .next)
      | some v => letOwnedTupleGo t2 it v >>= fun _ => assign t2 env v >>= fun _ =>
        (eval elt env >>= fun x => call (.builtin "list.append") [acc, x] >>= fun _ => pure ()) >>= fun _ =>
          again (.compLoop (.ListComp elt [⟨target, iter, [], 0⟩, ⟨t2, iter2, [], 0⟩] scope pos) 1 it acc env)) := by rfl

theorem compStart2_1 {elt target iter t2 iter2 : Expr} {scope : Scope} {pos : Pos} {it acc : Value} {env : Env}
    (h0 : codeAny (model prog w) A (.compLoop (.ListComp elt [⟨target, iter, [], 0⟩, ⟨t2, iter2, [], 0⟩] scope pos) 1 it acc env) R s)
    (h : wpAny (model prog w) A (pyIter it) (fun it' s' => codeAny (model prog w) A (.compLoop (.ListComp elt [⟨target, iter, [], 0⟩, ⟨t2, iter2, [], 0⟩] scope pos) 1 it' acc env) R s') (fun _ _ => False) s) :
    codeAny (model prog w) A (.compStart (.ListComp elt [⟨target, iter, [], 0⟩, ⟨t2, iter2, [], 0⟩] scope pos) 1 it acc env) R s := by
  refine codeAny_of_tree ?_
  show wpAny _ _ ((compStart (.ListComp elt [⟨target, iter, [], 0⟩, ⟨t2, iter2, [], 0⟩] scope pos) 1 it acc env).onRaise (fun x => do noteFrame x env; standAt theWindowsPlace)) _ _ s
  refine wpAny_notedAt ?_
  unfold compStart
  show wpAny _ _ (ask >>= _) _ _ s
  refine wpAny_bind (wpAny_askSetting (wpAny_ite ?_))
  split
  · first
      | exact wpAny_bind (wpAny_pure (wpAny_pure (And.intro rfl h0)))
      | exact wpAny_pure (And.intro rfl h0)
  · refine wpAny_bind (wpAny_rule ?_)
    show wpAny _ _ (standAt iter2.pos >>= _) _ _ s
    exact wpAny_bind (wpAny_standAt (wpAny_bind (wpAny_mono h (fun it' s' h' => wpAny_pure (And.intro rfl h')) fun _ _ x => x.elim)))

theorem compLoop2_1 {elt target iter t2 iter2 : Expr} {scope : Scope} {pos : Pos} {it acc : Value} {env : Env} (I : Nat → Shared → Prop)
    (turn : ∀ n s, I n s → wpAny (model prog w) A (pyNext it) (fun r s₁ => match r with
      | none => R (.ok .next) s₁
      | some v => wpAny (model prog w) A (assign t2 env v) (fun _ s₂ => wpAny (model prog w) A (eval elt env) (fun x s₃ =>
          wpAny (model prog w) A (call (.builtin "list.append") [acc, x]) (fun _ s₄ => ∃ m, m < n ∧ I m s₄) (fun _ _ => False) s₃) (fun _ _ => False) s₂) (fun _ _ => False) s₁) (fun _ _ => False) s)
    (n : Nat) (h : I n s) (ht : ∀ v, letOwnedTupleGo t2 it v = pure () := by intro _; rfl) :
    codeAny (model prog w) A (.compLoop (.ListComp elt [⟨target, iter, [], 0⟩, ⟨t2, iter2, [], 0⟩] scope pos) 1 it acc env) R s := by
  refine codeAny_loop rfl I (fun n s hI => ?_) n h
  show wpAny _ A ((compTurn (.ListComp elt [⟨target, iter, [], 0⟩, ⟨t2, iter2, [], 0⟩] scope pos) 1 it acc env).onRaise (fun x => do noteFrame x env; theTreesLotGoes x)) _ _ s
  refine wpAny_noted ?_
  rw [compTurn2_1]
  refine wpAny_bind (wpAny_standAt (wpAny_bind (wpAny_mono (turn n s hI) (fun r s₁ h₁ => ?_) fun _ _ h' => h'.elim)))
  cases r with
  | none => exact wpAny_pure h₁
  | some v =>
    refine wpAny_bind (wpAny_of_eq (ht v) ?_)
    refine wpAny_bind (wpAny_mono h₁ (fun _ s₂ h₂ => ?_) fun _ _ h' => h'.elim)
    exact wpAny_bind (wpAny_bind (wpAny_mono h₂ (fun x s₃ h₃ => wpAny_bind (wpAny_mono h₃ (fun _ s₄ h₄ => wpAny_pure (wpAny_pure ⟨rfl, h₄⟩)) fun _ _ h' => h'.elim)) fun _ _ h' => h'.elim))

theorem compLoop2_0 {elt target iter t2 iter2 : Expr} {scope : Scope} {pos : Pos} {it acc : Value} {env : Env} (I : Nat → Shared → Prop)
    (turn : ∀ n s, I n s → wpAny (model prog w) A (pyNext it) (fun r s₁ => match r with
      | none => R (.ok .next) s₁
      | some v => wpAny (model prog w) A (assign target env v) (fun _ s₂ => wpAny (model prog w) A (eval iter2 env) (fun x s₃ =>
          wpAny (model prog w) A (pyIter x) (fun it' s₄ => codeAny (model prog w) A (.compStart (.ListComp elt [⟨target, iter, [], 0⟩, ⟨t2, iter2, [], 0⟩] scope pos) 1 it' acc env)
            (fun r s₅ => match r with | .ok _ => ∃ m, m < n ∧ I m s₅ | .error _ => False) s₄) (fun _ _ => False) s₃) (fun _ _ => False) s₂) (fun _ _ => False) s₁) (fun _ _ => False) s)
    (n : Nat) (h : I n s) (ht : ∀ v, letOwnedTupleGo target it v = pure () := by intro _; rfl) (hs : ∀ x, foldedSetIterable iter2 env x = pure x := by intro _; rfl) :
    codeAny (model prog w) A (.compLoop (.ListComp elt [⟨target, iter, [], 0⟩, ⟨t2, iter2, [], 0⟩] scope pos) 0 it acc env) R s := by
  refine codeAny_loop rfl I (fun n s hI => ?_) n h
  show wpAny _ A ((compTurn (.ListComp elt [⟨target, iter, [], 0⟩, ⟨t2, iter2, [], 0⟩] scope pos) 0 it acc env).onRaise (fun x => do noteFrame x env; theTreesLotGoes x)) _ _ s
  refine wpAny_noted ?_
  rw [compTurn2_0]
  refine wpAny_bind (wpAny_standAt (wpAny_bind (wpAny_mono (turn n s hI) (fun r s₁ h₁ => ?_) fun _ _ h' => h'.elim)))
  cases r with
  | none => exact wpAny_pure h₁
  | some v =>
    refine wpAny_bind (wpAny_of_eq (ht v) ?_)
    refine wpAny_bind (wpAny_mono h₁ (fun _ s₂ h₂ => ?_) fun _ _ h' => h'.elim)
    refine wpAny_bind (wpAny_mono h₂ (fun x s₃ h₃ => ?_) fun _ _ h' => h'.elim)
    refine wpAny_bind (wpAny_standAt (wpAny_bind (wpAny_of_eq (hs x) (wpAny_bind (wpAny_holding (wpAny_mono h₃ (fun it' s₄ h₄ => ?_) fun _ _ h' => h'.elim))))))
    refine wpAny_bind (wpAny_runOwn (codeAny_mono h₄ fun r s₅ hr => ?_))
    cases r with
    | ok f => exact wpAny_pure ⟨rfl, hr⟩
    | error e => exact hr.elim
end

theorem strs_one {x : Str} {t : Tok} : StrsAre [.str x t] [x] := .cons _ _ .nil
theorem strs_at {vs : List Value} {xs : List Str} (h : StrsAre vs xs) {i : Nat} {v : Value} (hv : vs[i]? = some v) : ∃ x t, xs[i]? = some x ∧ v = .str x t := by
  refine Classical.byContradiction fun hG => ?_
  obtain ⟨x, t, e, hx⟩ := h.item i v hv
  refine hG ?_
  clear hG
  exact ⟨x, t, hx, e⟩

section
variable {prog : Program} {w : World} {A : Around} {s : Shared} {R : Result → Shared → Prop}
open PyProof.Rows (add_str)

theorem inner_str {aN bN : Str} {pb p1 p2 p3 : Pos} {target iter iter2 : Expr} {scope : Scope} {pos : Pos} {cenv : Env} {J D : Addr} {cc x : Str} {t : Tok} {ys : List Value} {m : Str → Option Value} {St : Nat → Heap → Prop}
    (W : Walks prog w A J [J] [J] cc.cps.size (SignAt cc) St) (hst : St 0 s.heap) (hD : s.heap.PlainList D ys.toArray) (hn : s.heap.Ns cenv.locals m) (ha : m aN = some (.str x t))
    (hJC : J ≠ cenv.locals) (hJD : J ≠ D) (hCD : cenv.locals ≠ D) (hab : aN ≠ bN)
    (hk : cenv.scope.kind = .function) (hka : cenv.kindOf aN = some .local) (hkb : cenv.kindOf bN = some .local) (hda : (aN == ("__debug__" : Str)) = false) (hdb : (bN == ("__debug__" : Str)) = false)
    (hsz : x.length + 1 ≤ sizeLine) (hys : ys.length + cc.cps.size ≤ sizeLine)
    (hR : ∀ h' tk ys' m', h'.PlainList D (ys ++ ys').toArray → StrsAre ys' (cc.cps.toList.map fun c => x ++ ⟨#[c]⟩) → h'.Ns cenv.locals m' → (∀ b o, b ≠ J → b ≠ cenv.locals → b ≠ D → s.heap.get? b = some o → h'.get? b = some o) →
      R (.ok .next) { s with heap := h', toks := tk }) :
    codeAny (model prog w) A (.compLoop (.ListComp (.BinOp (.Name aN p1) .Add (.Name bN p2) p3) [⟨target, iter, [], 0⟩, ⟨.Name bN pb, iter2, [], 0⟩] scope pos) 1 (.ref J) (.ref D) cenv) R s := by
  have hp : (cenv.scope.kind == .class || (cenv.scope.kind == .module && cenv.locals != cenv.globals)) = false := by rw [hk]; rfl
  refine compLoop2_1 (fun k s' => ∃ h' tk m' i ys', s' = { s with heap := h', toks := tk } ∧ St i h' ∧ h'.PlainList D (ys ++ ys').toArray ∧ h'.Ns cenv.locals m' ∧ m' aN = some (.str x t) ∧
      StrsAre ys' ((cc.cps.toList.take i).map fun c => x ++ ⟨#[c]⟩) ∧ i ≤ cc.cps.size ∧ k = cc.cps.size + 1 - i ∧ (∀ b o, b ≠ J → b ≠ cenv.locals → b ≠ D → s.heap.get? b = some o → h'.get? b = some o)) ?_ (cc.cps.size + 1)
    ⟨s.heap, s.toks, m, 0, [], rfl, hst, by simpa using hD, hn, ha, by simpa using StrsAre.nil, Nat.zero_le _, rfl, fun _ _ _ _ _ e => e⟩
  intro k s' hI9
  refine Classical.byContradiction fun hG => ?_
  obtain ⟨h', tk, m', i, ys', rfl, hst', hD', hn', ha', hys', hi, rfl, hk'⟩ := hI9
  refine hG ?_
  clear hG
  by_cases hlt : i < cc.cps.size
  · refine W.item i _ _ _ hlt hst' fun v h₁ tk₁ hP hst₁ hk₁ => ?_
    refine Classical.byContradiction fun hG => ?_
    obtain ⟨c, u, hc, rfl⟩ := hP
    refine hG ?_
    clear hG
    refine wpAny_assign_Name (wpAny_storeName_local hkb (hn'.at' fun o e => hk₁ _ o (by simpa using Ne.symm hJC) e) (fun h₂ hn₂ hs₂ => ?_) hp)
    have hD₂ : h₂.PlainList D (ys ++ ys').toArray := (hD'.at fun o e => hk₁ _ o (by simpa using Ne.symm hJD) e).extBut hs₂.extBut (Ne.symm hCD)
    have hst₂ : St (i + 1) h₂ := W.frame _ _ _ hst₁ fun b hb o e => hs₂.extBut b o (by rw [List.mem_singleton.mp hb]; exact hJC) e
    have ea : (fun y => if y = bN then some (Value.str ⟨#[c]⟩ u) else m' y) aN = some (.str x t) := by simp [hab, ha']
    have eb : (fun y => if y = bN then some (Value.str ⟨#[c]⟩ u) else m' y) bN = some (.str ⟨#[c]⟩ u) := by simp
    refine wpAny_BinOp ?_
    refine wpAny_Name (wpAny_loadName_local hk hka hn₂ ea ?_) hda
    refine wpAny_Name (wpAny_loadName_local hk hkb hn₂ eb ?_) hdb
    refine add_str (fun t' tk' => ?_) (by show x.length + 1 ≤ _; exact hsz)
    have hl2 : ys'.length = i := by rw [hys'.length]; simp; omega
    refine wpAny_list_append_plain hD₂ (fun h₃ hD₃ hs₃ => ?_) (by simp; omega)
    refine ⟨_, by omega, h₃, tk', _, i + 1, ys' ++ [.str (x ++ ⟨#[c]⟩) t'], rfl, ?_, ?_, hn₂.sameBut hs₃ hCD, ea, ?_, hlt, rfl, fun b o h1 h2 h3 e => ?_⟩
    · exact W.frame _ _ _ hst₂ fun b hb o e => hs₃.extBut b o (by rw [List.mem_singleton.mp hb]; exact hJD) e
    · have := hD₃; simpa using this
    · rw [List.take_add_one, show cc.cps.toList[i]? = some c by simpa using hc]
      simpa using hys'.append' strs_one
    · exact hs₃.extBut b o h3 (hs₂.extBut b o h2 (hk₁ b o (by simpa using h1) (hk' b o h1 h2 h3 e)))
  · have hin : i = cc.cps.size := by omega
    subst hin
    refine W.done _ _ _ hst' fun h₁ tk₁ hk₁ => ?_
    have e : cc.cps.toList.take cc.cps.size = cc.cps.toList := by rw [← Array.length_toList, List.take_length]
    rw [e] at hys'
    exact hR h₁ tk₁ ys' m' (hD'.at fun o e => hk₁ _ o (by simpa using Ne.symm hJD) e) hys' (hn'.at' fun o e => hk₁ _ o (by simpa using Ne.symm hJC) e) fun b o h1 h2 h3 e => hk₁ b o (by simpa using h1) (hk' b o h1 h2 h3 e)

theorem flatMap_len {α β : Type} {f : α → List β} {k : Nat} (h : ∀ x, (f x).length = k) : ∀ l : List α, (l.flatMap f).length = l.length * k
  | [] => by simp
  | x :: l => by rw [List.flatMap_cons, List.length_append, h, flatMap_len h l, List.length_cons, Nat.add_mul, Nat.one_mul, Nat.add_comm]
theorem outer_str {aN bN : Str} {pa pb p1 p2 p3 pc : Pos} {kc : Nat} {iter : Expr} {scope : Scope} {pos : Pos} {cenv : Env} {I l D : Addr} {cc : Str} {its : List Value} {xs : List Str} {m : Str → Option Value}
    (hh : A.handled = none) (hit : s.heap.IsListIter I l 0) (hl : s.heap.IsList l its.toArray) (hxs : StrsAre its xs) (hD : s.heap.PlainList D #[]) (hn : s.heap.Ns cenv.locals m)
    (hIC : I ≠ cenv.locals) (hID : I ≠ D) (hCD : cenv.locals ≠ D) (hlI : l ≠ I) (hlC : l ≠ cenv.locals) (hlD : l ≠ D) (hab : aN ≠ bN)
    (hk : cenv.scope.kind = .function) (hka : cenv.kindOf aN = some .local) (hkb : cenv.kindOf bN = some .local) (hda : (aN == ("__debug__" : Str)) = false) (hdb : (bN == ("__debug__" : Str)) = false)
    (hsz : ∀ x ∈ xs, x.length + 1 ≤ sizeLine) (hys : xs.length * cc.cps.size + cc.cps.size ≤ sizeLine)
    (hR : ∀ h' tk ys' m', h'.PlainList D ys'.toArray → StrsAre ys' (xs.flatMap fun x => cc.cps.toList.map fun c => x ++ ⟨#[c]⟩) → h'.Ns cenv.locals m' → (∀ b o, b ≠ I → b ≠ cenv.locals → b ≠ D → s.heap.get? b = some o → h'.get? b = some o) →
      R (.ok .next) { s with heap := h', toks := tk }) :
    codeAny (model prog w) A (.compLoop (.ListComp (.BinOp (.Name aN p1) .Add (.Name bN p2) p3) [⟨.Name aN pa, iter, [], 0⟩, ⟨.Name bN pb, .Constant (.str cc) kc pc, [], 0⟩] scope pos) 0 (.ref I) (.ref D) cenv) R s := by
  have hp : (cenv.scope.kind == .class || (cenv.scope.kind == .module && cenv.locals != cenv.globals)) = false := by rw [hk]; rfl
  refine compLoop2_0 (fun k s' => ∃ h' tk m' i ys', s' = { s with heap := h', toks := tk } ∧ h'.IsListIter I l i ∧ h'.PlainList D ys'.toArray ∧ h'.Ns cenv.locals m' ∧
      StrsAre ys' ((xs.take i).flatMap fun x => cc.cps.toList.map fun c => x ++ ⟨#[c]⟩) ∧ i ≤ xs.length ∧ k = xs.length + 1 - i ∧ (∀ b o, b ≠ I → b ≠ cenv.locals → b ≠ D → s.heap.get? b = some o → h'.get? b = some o)) ?_ (xs.length + 1)
    ⟨s.heap, s.toks, m, 0, [], rfl, hit, by simpa using hD, hn, by simpa using StrsAre.nil, Nat.zero_le _, rfl, fun _ _ _ _ _ e => e⟩ (hs := by intro _; rfl)
  intro k s' hI9
  refine Classical.byContradiction fun hG => ?_
  obtain ⟨h', tk, m', i, ys', rfl, hit', hD', hn', hys', hi, rfl, hk'⟩ := hI9
  refine hG ?_
  clear hG
  have hl' : h'.IsList l its.toArray := hl.at fun o e => hk' _ o hlI hlC hlD e
  by_cases hlt : i < xs.length
  · obtain ⟨t, hv⟩ := hxs.get i xs[i] (by simp [hlt])
    refine wpAny_pyNext_list_item hit' hl' (x := .str xs[i] t) (by simpa using hv) fun h₁ hit₁ hs₁ => ?_
    refine wpAny_assign_Name (wpAny_storeName_local hka (hn'.sameBut hs₁ (Ne.symm hIC)) (fun h₂ hn₂ hs₂ => ?_) hp)
    refine Constant_str ?_
    refine wpAny_pyIter_str fun o St W hst => ?_
    dsimp only
    have hJ : ∀ b ob, h₂.get? b = some ob → b ≠ h₂.objs.size := fun b ob e => Nat.ne_of_lt (Heap.lt_size e)
    have up : ∀ b ob, h₂.get? b = some ob → (h₂.push o).get? b = some ob := fun b ob e => Heap.get?_push_of_some _ e
    have hD₂ : h₂.PlainList D ys'.toArray := (hD'.extBut hs₁.extBut (Ne.symm hID)).extBut hs₂.extBut (Ne.symm hCD)
    have hn₃ := hn₂.keeps up
    have hD₃ : (h₂.push o).PlainList D ys'.toArray := hD₂.at fun ob e => up _ ob e
    refine Classical.byContradiction fun hG => ?_
    obtain ⟨oD, hoD⟩ := id hD₂
    have hCn : cenv.locals ≠ h₂.objs.size := Nat.ne_of_lt hn₂.lt
    have hDn : D ≠ h₂.objs.size := hJ _ _ hoD
    have hit₂ : h₂.IsListIter I l (i + 1) := hit₁.extBut hs₂.extBut hIC
    obtain ⟨oI, hoI, hI2⟩ := id hit₂
    have hIn : I ≠ h₂.objs.size := hJ _ _ hoI
    have hlen : ys'.length = i * cc.cps.size := by
      rw [hys'.length, flatMap_len (k := cc.cps.size) (fun x => by simp), List.length_take, Nat.min_eq_left hi]
    have hfit : ys'.length + cc.cps.size ≤ sizeLine := by
      have : i * cc.cps.size ≤ xs.length * cc.cps.size := Nat.mul_le_mul_right _ hi
      omega
    have loop : codeAny (model prog w) A (.compLoop (.ListComp (.BinOp (.Name aN p1) .Add (.Name bN p2) p3) [⟨.Name aN pa, iter, [], 0⟩, ⟨.Name bN pb, .Constant (.str cc) kc pc, [], 0⟩] scope pos) 1 (.ref h₂.objs.size) (.ref D) cenv)
        (fun r s₅ => match r with | .ok _ => (∃ m, m < xs.length + 1 - i ∧ ∃ h' tk m' i ys', s₅ = { s with heap := h', toks := tk } ∧ h'.IsListIter I l i ∧ h'.PlainList D ys'.toArray ∧ h'.Ns cenv.locals m' ∧
          StrsAre ys' ((xs.take i).flatMap fun x => cc.cps.toList.map fun c => x ++ ⟨#[c]⟩) ∧ i ≤ xs.length ∧ m = xs.length + 1 - i ∧ (∀ b o, b ≠ I → b ≠ cenv.locals → b ≠ D → s.heap.get? b = some o → h'.get? b = some o)) | .error _ => False)
        { s with heap := h₂.push o, toks := tk + 1 + 1 } := by
      refine inner_str (s := { s with heap := h₂.push o, toks := tk + 1 + 1 }) (x := xs[i]) (t := t) (W A hh) hst hD₃ hn₃ (by simp) (Ne.symm hCn) (Ne.symm hDn) hCD hab hk hka hkb hda hdb (hsz _ (by simp)) hfit ?_
      intro h₄ tk₄ zs m₄ hD₄ hzs hn₄ hk₄
      refine ⟨_, by omega, h₄, tk₄, m₄, i + 1, ys' ++ zs, rfl, ⟨oI, hk₄ _ _ hIn hIC hID (up _ _ hoI), hI2⟩, hD₄, hn₄, ?_, hlt, rfl, fun b ob h1 h2 h3 e => ?_⟩
      · rw [List.take_add_one, show xs[i]? = some xs[i] by simp [hlt], List.flatMap_append]
        simpa using hys'.append' hzs
      · have e₂ : h₂.get? b = some ob := hs₂.extBut b ob h2 (hs₁.extBut b ob h1 (hk' b ob h1 h2 h3 e))
        exact hk₄ b ob (hJ _ _ e₂) h2 h3 (up _ _ e₂)
    refine hG ?_
    clear hG
    exact compStart2_1 loop ((W A hh).self 0 _ _ _ hst loop)
  · have hin : i = xs.length := by omega
    subst hin
    refine wpAny_pyNext_list_end hh hit' hl' (by simp [hxs.length]) fun h₁ hk₁ => ?_
    rw [List.take_length] at hys'
    exact hR h₁ tk ys' m' (hD'.at fun o e => hk₁ _ o (Ne.symm hID) e) hys' (hn'.at' fun o e => hk₁ _ o (Ne.symm hIC) e) fun b o h1 h2 h3 e => hk₁ b o h1 (hk' b o h1 h2 h3 e)

def Comp2At (h₀ : Heap) (L : Addr) (cc y : Str) (Q : Flow → Shared → Prop) (xv : Value) (s₁ : Shared) : Prop :=
  ∃ l its xs m news, xv = .ref l ∧ Fr h₀ L s₁.heap m ∧ News h₀ L s₁.heap news ∧ s₁.heap.IsList l its ∧ StrsAre its.toList xs ∧
      (∀ x ∈ xs, x.length + 1 ≤ sizeLine) ∧ xs.length * cc.cps.size + cc.cps.size ≤ sizeLine ∧
      ∀ D h tk ys k, StrsAre ys (xs.flatMap fun x => cc.cps.toList.map fun c => x ++ ⟨#[c]⟩) → Fr h₀ L h (fun z => if z = y then some (.ref D) else m z) →
        News h₀ L h ((D, ({ cls := .type "list", data := .seq ys.toArray k } : Obj)) :: news) → s₁.heap.objs.size ≤ D → Q .next { s₁ with heap := h, toks := tk }
theorem Assign_comp2 {E : Value → Shared → Prop} {env : Env} {h₀ : Heap} {aN bN y : Str} {pa pb p1 p2 p3 pc py : Pos} {kc : Nat} {iter : Expr} {scope : Scope} {pos spos : Pos} {cc : Str} {Q : Flow → Shared → Prop} {m₀ : Str → Option Value}
    (_F₀ : Fr h₀ env.locals s.heap m₀) (hh : A.handled = none)
    (hsw : swapsWith (.ListComp (.BinOp (.Name aN p1) .Add (.Name bN p2) p3) [⟨.Name aN pa, iter, [], 0⟩, ⟨.Name bN pb, .Constant (.str cc) kc pc, [], 0⟩] scope pos) (some (.Name y py)) spos.line env = pure true)
    (hclos : closureFor scope env = pure []) (hcell : ∀ z ∈ scope.names, z.2 ≠ .cell) (hkind : scope.kind = .function)
    (hnames : ∀ z ∈ scope.names, z.2 = .local → scope.names.lookup z.1 = some .local) (hxa : scope.names.lookup aN = some .local) (hxb : scope.names.lookup bN = some .local) (hab : aN ≠ bN)
    (hda : (aN == ("__debug__" : Str)) = false) (hdb : (bN == ("__debug__" : Str)) = false)
    (hy : env.kindOf y = some .local) (hp : (env.scope.kind == .class || (env.scope.kind == .module && env.locals != env.globals)) = false)
    (h : wpAny (model prog w) A (eval iter env) (Comp2At h₀ env.locals cc y Q) (fun _ _ => False) s)
    (hs : ∀ x, foldedSetIterable iter env x = pure x := by intro _; rfl) :
    wpAny (model prog w) A (exec (.Assign [.Name y py] (.ListComp (.BinOp (.Name aN p1) .Add (.Name bN p2) p3) [⟨.Name aN pa, iter, [], 0⟩, ⟨.Name bN pb, .Constant (.str cc) kc pc, [], 0⟩] scope pos) spos) env) Q E s := by
  rw [exec_Assign_Name_used _ _ _ _ hsw]
  refine wpAny_bind (wpAny_standAt (wpAny_bind ?_))
  show wpAny _ A (do let _ ← comprehension (.ListComp (.BinOp (.Name aN p1) .Add (.Name bN p2) p3) [⟨.Name aN pa, iter, [], 0⟩, ⟨.Name bN pb, .Constant (.str cc) kc pc, [], 0⟩] scope pos) scope env _ (newList []) false (eval iter env) (some (assign (.Name y py) env))) _ _ s
  refine wpAny_bind (wpAny_mono (E := fun _ _ => False) (wpAny_comprehension_free (use := some (assign (.Name y py) env)) (Q := fun _ s' => Q .next s') rfl hs hclos hkind hnames
    (wpAny_mono h (fun xv s₁ h₁ => ?_) fun _ _ e => e)) (fun _ s' hq => wpAny_pure (wpAny_pure hq)) fun _ _ e => e.elim)
  refine Classical.byContradiction fun hG => ?_
  obtain ⟨l, its, xs, m, news, rfl, F, N, hl, hxs, hsz, hys, fin⟩ := h₁
  obtain ⟨ol, hol, _⟩ := id hl
  have hlt : @LT.lt Nat _ l s₁.heap.objs.size := Heap.lt_size hol
  refine hG ?_
  clear hG
  refine wpAny_pyIter_list hl ?_
  generalize hH1 : s₁.heap.push { cls := .type "list_iterator", data := .fields #[.ref l, .int 0 0] } = H1
  have e1 : H1.objs.size = s₁.heap.objs.size + 1 := by rw [← hH1, Heap.size_push]
  refine wpAny_newObj_type (wpAny_newFunctionEnv hcell (by intro y hy; simp at hy) (fun h₁ hns₁ hsb₁ => ?_) hkind)
  dsimp only at hns₁ hsb₁ ⊢
  generalize hH2 : H1.push { cls := .type "list", dict := none, data := .seq ([] : List Value).toArray } = H2 at hns₁ hsb₁ ⊢
  have e2 : H2.objs.size = s₁.heap.objs.size + 2 := by rw [← hH2, Heap.size_push, e1]
  have up1 : ∀ b o, s₁.heap.get? b = some o → H1.get? b = some o := fun b o e => hH1 ▸ Heap.get?_push_of_some _ e
  have up2 : ∀ b o, H1.get? b = some o → H2.get? b = some o := fun b o e => hH2 ▸ Heap.get?_push_of_some _ e
  have lt1 : ∀ (b : Addr) o, s₁.heap.get? b = some o → @LT.lt Nat _ b s₁.heap.objs.size := fun b o e => Heap.lt_size e
  have up3 : ∀ b o, b ≠ H2.objs.size → H2.get? b = some o → h₁.get? b = some o := fun b o hb e => hsb₁.extBut b o hb (Heap.get?_push_of_some _ e)
  have old : ∀ b o, s₁.heap.get? b = some o → h₁.get? b = some o := fun b o e => up3 b o (by rw [e2]; have := lt1 b o e; exact Nat.ne_of_lt (by omega)) (up2 b o (up1 b o e))
  have hI1 : H1.IsListIter s₁.heap.objs.size l 0 := ⟨_, hH1 ▸ Heap.get?_push_size _ rfl, rfl, rfl⟩
  obtain ⟨oI, hoI, hoI'⟩ := hI1
  have hIC : s₁.heap.objs.size ≠ H2.objs.size := by rw [e2]; exact Nat.ne_of_lt (by omega)
  have hI : h₁.IsListIter s₁.heap.objs.size l 0 := ⟨oI, up3 _ _ hIC (up2 _ _ hoI), hoI'⟩
  have hCD : H2.objs.size ≠ H1.objs.size := by rw [e1, e2]; exact Nat.ne_of_gt (by omega)
  have hD : h₁.PlainList H1.objs.size #[] := ⟨_, up3 _ _ (Ne.symm hCD) (hH2 ▸ Heap.get?_push_size _ rfl)⟩
  have hLlt : @LT.lt Nat _ env.locals s₁.heap.objs.size := F.ns.lt
  have fresh₀ : ∀ a, s₁.heap.objs.size ≤ a → h₀.get? a = none := fun a ha => by
    cases e : h₀.get? a with
    | none => rfl
    | some o' => have := Heap.lt_size (F.keep a o' e); exact absurd this (Nat.not_lt.mpr ha)
  have hC₀ : h₀.get? H2.objs.size = none := fresh₀ _ (by rw [e2]; omega)
  have hD₀ : h₀.get? H1.objs.size = none := fresh₀ _ (by rw [e1]; omega)
  have loop : codeAny (model prog w) A (.compLoop (.ListComp (.BinOp (.Name aN p1) .Add (.Name bN p2) p3) [⟨.Name aN pa, iter, [], 0⟩, ⟨.Name bN pb, .Constant (.str cc) kc pc, [], 0⟩] scope pos) 0 (.ref s₁.heap.objs.size) (.ref H1.objs.size) (compEnvC scope [] H2.objs.size env))
      (compPost (model prog w) A (fun _ _ => False) (some (assign (.Name y py) env)) (fun _ s' => Q .next s') (.ref H1.objs.size) H2.objs.size) { s₁ with heap := h₁, toks := s₁.toks + ([] : List (Str × Value)).length } := by
    refine outer_str (s := { s₁ with heap := h₁, toks := s₁.toks + ([] : List (Str × Value)).length }) (cenv := compEnvC scope [] H2.objs.size env) (its := its.toList) hh hI (by simpa using hl.at fun o e => old _ o e) hxs hD hns₁ hIC (by rw [e1]; exact Nat.ne_of_lt (by omega)) hCD (Nat.ne_of_lt hlt) (by show l ≠ H2.objs.size; rw [e2]; exact Nat.ne_of_lt (by omega)) (by rw [e1]; exact Nat.ne_of_lt (by omega)) hab
      (by simp [compEnvC, relabel, hkind]) (lookup_relabel_local hxa) (lookup_relabel_local hxb) hda hdb hsz hys ?_
    intro h₄ tk₄ ys m₄ hD₄ hys₄ hn₄ hk₄
    have keep₄ : ∀ b o, s₁.heap.get? b = some o → h₄.get? b = some o := fun b o e => by
      have hb := lt1 b o e
      exact hk₄ b o (Nat.ne_of_lt hb) (by show b ≠ H2.objs.size; rw [e2]; exact Nat.ne_of_lt (by omega)) (by rw [e1]; exact Nat.ne_of_lt (by omega)) (old b o e)
    have F₄ := F.keeps keep₄
    have N₄ := N.grown keep₄
    obtain ⟨kD, hkD⟩ := hD₄
    show wpAny _ A (assign (.Name y py) env (.ref H1.objs.size)) _ _ _
    refine wpAny_assign_Name (wpAny_storeName_local hy F₄.ns (fun h₅ hn₅ hs₅ => ?_) hp)
    have hL₀ : h₀.get? env.locals = none := Heap.get?_none_of_le F.above
    have F₅ : Fr h₀ env.locals h₅ (fun z => if z = y then some (.ref H1.objs.size) else m z) := ⟨hn₅, fun b o e => hs₅.extBut b o (fun q => by rw [q, hL₀] at e; cases e) (F₄.keep b o e), F₄.above⟩
    have hCL : H2.objs.size ≠ env.locals := by rw [e2]; exact Nat.ne_of_gt (by omega)
    have hDL : H1.objs.size ≠ env.locals := by rw [e1]; exact Nat.ne_of_gt (by omega)
    refine ⟨m₄, hn₄.sameBut hs₅ hCL, fun h₆ hs₆ => fin H1.objs.size h₆ _ ys kD hys₄ (F₅.change hs₆ hCL hC₀) (fun p hp => ?_) (by rw [e1]; omega)⟩
    rcases List.mem_cons.mp hp with rfl | hp
    · exact ⟨hs₆.extBut _ _ (Ne.symm hCD) (hs₅.extBut _ _ hDL hkD), hDL, hD₀⟩
    · have q := N₄ p hp
      have qlt := lt1 _ _ (N p hp).1
      exact ⟨hs₆.extBut _ _ (by show p.1 ≠ H2.objs.size; rw [e2]; exact Nat.ne_of_lt (by omega)) (hs₅.extBut _ _ q.2.1 q.1), q.2⟩
  exact codeAny_compStart_list loop (wpAny_pyIter_listiter hI loop)
end
end
section -- Cr
open PySem PySem.W PyProof.Rows PySem.Calls PySem.Spec
set_option maxRecDepth 100000
open PyProof.Rows.LCg (NsObj Off3 lst CompEnd CompRest FinE FinA SrcAt)
open PyProof.Rows.LCt (CompRestT)

def EltEnd (s : Shared) (h₀ : Heap) (L : Addr) (m : Str → Option Value) (led : List (Addr × Obj)) (P : Prop) (s₂ : Shared) : Prop :=
  ∃ h' tk', s₂ = { s with heap := h', toks := tk' } ∧ Fr h₀ L h' m ∧ News h₀ L h' led ∧ P

theorem EltEnd.mk {s : Shared} {h₀ : Heap} {L : Addr} {m : Str → Option Value} {led : List (Addr × Obj)} {P : Prop} {h' : Heap} {tk : Nat} (F : Fr h₀ L h' m) (N : News h₀ L h' led) (hP : P) : EltEnd s h₀ L m led P { s with heap := h', toks := tk } := ⟨h', tk, rfl, F, N, hP⟩

section
variable {prog : Program} {w : World} {A : Around} {s : Shared} {h₀ : Heap} {L : Addr} {m : Str → Option Value} {env : Env} {ct elt : Expr} {x : Str} {scope : Scope} {cl : List (Str × Addr)} {S : List (Addr × Obj) → Prop} {P : Nat → Value → Prop} {Fin : List Value → List (Addr × Obj) → Prop} {news : List (Addr × Obj)}

theorem compRest_m {n : Nat} (J : Nat → List Value → Prop) (hS : S news)
    (step : ∀ i ys v I oI C oC D m₂ h tk (E' : Value → Shared → Prop), i < n → J i ys → P i v → NsObj oC m₂ → m₂ x = some v → Fr h₀ L h m → News h₀ L h ((I, oI) :: (C, oC) :: (D, lst ys) :: news) → Off3 I C D news → ((@Ne Nat I C) ∧ (@Ne Nat I D) ∧ (@Ne Nat C D)) →
      wpAny (model prog w) A (eval elt (compEnvC scope cl C env)) (fun y s₂ => EltEnd { s with heap := h, toks := tk } h₀ L m ((I, oI) :: (C, oC) :: (D, lst ys) :: news) (J (i + 1) (ys ++ [y])) s₂) E' { s with heap := h, toks := tk })
    (fin : ∀ ys, J n ys → Fin ys news) (h0 : J 0 []) : CompRest prog w A h₀ L m env elt x scope cl s S P Fin n 0 [] news := by
  have gen : ∀ k i ys, i + k = n → J i ys → CompRest prog w A h₀ L m env elt x scope cl s S P Fin k i ys news := by
    intro k
    induction k with
    | zero => intro i ys hi hJ; exact fin ys (by rw [← hi]; exact hJ)
    | succ k ih =>
      intro i ys hi hJ v I oI C oC D m₂ h tk E' hP hC hx F N off ne
      refine wpAny_mono (step i ys v I oI C oC D m₂ h tk E' (by omega) hJ hP hC hx F N off ne) (fun y s₂ hy => ?_) fun _ _ e => e
      obtain ⟨h', tk', rfl, F', N', hJ'⟩ := hy
      exact ⟨h', tk', news, rfl, F', N', off, hS, ih (i + 1) (ys ++ [y]) (by omega) hJ'⟩
  exact gen n 0 [] (by omega) h0

theorem compRestT_m {n : Nat} (J : Nat → List Value → Prop) (hS : S news)
    (step : ∀ i ys v I oI C oC D m₂ h tk (E' : Value → Shared → Prop), i < n → J i ys → P i v → NsObj oC m₂ → m₂ x = some v → Fr h₀ L h m → News h₀ L h ((I, oI) :: (C, oC) :: (D, lst ys) :: news) → Off3 I C D news → ((@Ne Nat I C) ∧ (@Ne Nat I D) ∧ (@Ne Nat C D)) →
      wpAny (model prog w) A (isTrue ct (compEnvC scope cl C env) (eval ct (compEnvC scope cl C env))) (fun ok s' => if ok = true then
        wpAny (model prog w) A (eval elt (compEnvC scope cl C env)) (fun y s₂ => EltEnd { s with heap := h, toks := tk } h₀ L m ((I, oI) :: (C, oC) :: (D, lst ys) :: news) (J (i + 1) (ys ++ [y])) s₂) E' s'
        else EltEnd { s with heap := h, toks := tk } h₀ L m ((I, oI) :: (C, oC) :: (D, lst ys) :: news) (J (i + 1) ys) s') E' { s with heap := h, toks := tk })
    (fin : ∀ ys, J n ys → Fin ys news) (h0 : J 0 []) : CompRestT prog w A h₀ L m env ct elt x scope cl s S P Fin n 0 [] news := by
  have gen : ∀ k i ys, i + k = n → J i ys → CompRestT prog w A h₀ L m env ct elt x scope cl s S P Fin k i ys news := by
    intro k
    induction k with
    | zero => intro i ys hi hJ; exact fin ys (by rw [← hi]; exact hJ)
    | succ k ih =>
      intro i ys hi hJ v I oI C oC D m₂ h tk E' hP hC hx F N off ne
      refine wpAny_mono (step i ys v I oI C oC D m₂ h tk E' (by omega) hJ hP hC hx F N off ne) (fun ok s₁ h₁ => ?_) fun _ _ e => e
      by_cases hok : ok = true
      · rw [if_pos hok] at h₁ ⊢
        refine wpAny_mono h₁ (fun y s₂ hy => ?_) fun _ _ e => e
        obtain ⟨h', tk', rfl, F', N', hJ'⟩ := hy
        exact ⟨h', tk', news, rfl, F', N', off, hS, ih (i + 1) (ys ++ [y]) (by omega) hJ'⟩
      · rw [if_neg hok] at h₁ ⊢
        obtain ⟨h', tk', rfl, F', N', hJ'⟩ := h₁
        exact ⟨h', tk', news, rfl, F', N', off, hS, ih (i + 1) ys (by omega) hJ'⟩
  exact gen n 0 [] (by omega) h0

def EltEndV (s : Shared) (h₀ : Heap) (L : Addr) (m : Str → Option Value) (I C D : Addr) (oI oC oD : Obj) (J : List (Addr × Obj) → Prop) (s₂ : Shared) : Prop :=
  ∃ h' tk' news', s₂ = { s with heap := h', toks := tk' } ∧ Fr h₀ L h' m ∧ News h₀ L h' ((I, oI) :: (C, oC) :: (D, oD) :: news') ∧ Off3 I C D news' ∧ J news'
theorem EltEndV.mk {s : Shared} {h₀ : Heap} {L : Addr} {m : Str → Option Value} {I C D : Addr} {oI oC oD : Obj} {J : List (Addr × Obj) → Prop} {h' : Heap} {tk : Nat} (news' : List (Addr × Obj)) (F : Fr h₀ L h' m) (N : News h₀ L h' ((I, oI) :: (C, oC) :: (D, oD) :: news'))
    (off : Off3 I C D news') (hJ : J news') : EltEndV s h₀ L m I C D oI oC oD J { s with heap := h', toks := tk } := ⟨h', tk, news', rfl, F, N, off, hJ⟩

theorem compRest_v {n : Nat} (J : Nat → List Value → List (Addr × Obj) → Prop) (hS : ∀ i ys nw, J i ys nw → S nw)
    (step : ∀ i ys nw v I oI C oC D m₂ h tk (E' : Value → Shared → Prop), i < n → J i ys nw → P i v → NsObj oC m₂ → m₂ x = some v → Fr h₀ L h m → News h₀ L h ((I, oI) :: (C, oC) :: (D, lst ys) :: nw) → Off3 I C D nw → ((@Ne Nat I C) ∧ (@Ne Nat I D) ∧ (@Ne Nat C D)) →
      wpAny (model prog w) A (eval elt (compEnvC scope cl C env)) (fun y s₂ => EltEndV { s with heap := h, toks := tk } h₀ L m I C D oI oC (lst ys) (J (i + 1) (ys ++ [y])) s₂) E' { s with heap := h, toks := tk })
    (fin : ∀ ys nw, J n ys nw → Fin ys nw) (h0 : J 0 [] news) : CompRest prog w A h₀ L m env elt x scope cl s S P Fin n 0 [] news := by
  have gen : ∀ k i ys nw, i + k = n → J i ys nw → CompRest prog w A h₀ L m env elt x scope cl s S P Fin k i ys nw := by
    intro k
    induction k with
    | zero => intro i ys nw hi hJ; exact fin ys nw (by rw [← hi]; exact hJ)
    | succ k ih =>
      intro i ys nw hi hJ v I oI C oC D m₂ h tk E' hP hC hx F N off ne
      refine wpAny_mono (step i ys nw v I oI C oC D m₂ h tk E' (by omega) hJ hP hC hx F N off ne) (fun y s₂ hy => ?_) fun _ _ e => e
      obtain ⟨h', tk', nw', rfl, F', N', off', hJ'⟩ := hy
      exact ⟨h', tk', nw', rfl, F', N', off', hS _ _ _ hJ', ih (i + 1) (ys ++ [y]) nw' (by omega) hJ'⟩
  exact gen n 0 [] news (by omega) h0
end
end
section -- Zp
open PySem PySem.W PyProof.Rows PySem.Calls PySem.Spec
set_option maxRecDepth 100000

section
variable {prog : Program} {w : World} {A : Around} {E : Value → Shared → Prop} {s : Shared} {env : Env} {h₀ : Heap} {body : List Stmt} {Q : Flow → Shared → Prop} {m : Str → Option Value}

def ZipEnd (s : Shared) (h₀ : Heap) (L : Addr) (led : List (Addr × Obj)) (J : (Str → Option Value) → Prop) (s₂ : Shared) : Prop :=
  ∃ h' tk m', s₂ = { s with heap := h', toks := tk } ∧ Fr h₀ L h' m' ∧ News h₀ L h' led ∧ J m'
def ZipPost (Q : Flow → Shared → Prop) (s : Shared) (h₀ : Heap) (L : Addr) (led : List (Addr × Obj)) (J : (Str → Option Value) → Prop) (f : Flow) (s₂ : Shared) : Prop :=
  match f with
  | .ret v => Q (.ret v) s₂
  | .brk => Q .next s₂
  | .next => ZipEnd s h₀ L led J s₂
  | .cont => ZipEnd s h₀ L led J s₂
theorem ZipEnd.mk {s : Shared} {h₀ : Heap} {L : Addr} {led : List (Addr × Obj)} {J : (Str → Option Value) → Prop} {h' : Heap} {tk : Nat} {m' : Str → Option Value} (F : Fr h₀ L h' m') (N : News h₀ L h' led) (hJ : J m') :
    ZipEnd s h₀ L led J { s with heap := h', toks := tk } := ⟨h', tk, m', rfl, F, N, hJ⟩

theorem zip_ge4 {b c : Nat} (h : c ∈ [b + 4, b + 3, b, b + 1]) : b ≤ c := by
  simp only [List.mem_cons, List.not_mem_nil, or_false] at h
  omega
theorem zip_ge5 {b c : Nat} (h : c ∈ [b + 4, b + 2, b + 3, b, b + 1]) : b ≤ c := by
  simp only [List.mem_cons, List.not_mem_nil, or_false] at h
  omega
theorem zip_in5 {b c : Nat} (h : c ∈ [b + 4, b + 3, b, b + 1]) : c ∈ [b + 4, b + 2, b + 3, b, b + 1] := (List.sublist_cons_self (b + 2) [b + 3, b, b + 1]).cons_cons (b + 4) |>.subset h
theorem zip_two {α : Type} {p q r : α} {l : List α} (h : p ∈ [q, r]) : p ∈ q :: r :: l := List.mem_append_left (as := [q, r]) l h
theorem zip_cells {l1 l2 cx cy : Addr} {xs ys : Array Value} {xN yN : Str} {px py tp : Pos} {k1 : Nat} {ox oy : Obj} {vx vy : Option Value} (J : Nat → (Str → Option Value) → Prop)
    (hh : A.handled = none) (F : Fr h₀ env.locals s.heap m) (N : News h₀ env.locals s.heap [(cx, ox), (cy, oy)]) (hl1 : h₀.IsList l1 xs) (hl2 : h₀.IsList l2 ys) (hox : ox.data = .cell vx) (hoy : oy.data = .cell vy) (hxy : cx ≠ cy)
    (hj : J 0 m) (hcx : env.cells.lookup xN = some cx) (hcy : env.cells.lookup yN = some cy)
    (turn : ∀ i v1 v2 m₁ h tk z TI TO i1 i2 oz oTI oTO o1 o2 ox' oy', xs[i]? = some v1 → ys[i]? = some v2 → J i m₁ → ox'.data = .cell (some v1) → oy'.data = .cell (some v2) → Fr h₀ env.locals h m₁ →
      News h₀ env.locals h [(cx, ox'), (cy, oy'), (z, oz), (TI, oTI), (TO, oTO), (i1, o1), (i2, o2)] →
      wpAny (model prog w) A (execs body env) (ZipPost Q { s with heap := h, toks := tk } h₀ env.locals [(cx, ox'), (cy, oy'), (z, oz), (TI, oTI), (TO, oTO), (i1, o1), (i2, o2)] (J (i + 1))) (fun _ _ => False) { s with heap := h, toks := tk })
    (done : ∀ m₁ h tk ox' oy', J (min xs.size ys.size) m₁ → Fr h₀ env.locals h m₁ → News h₀ env.locals h [(cx, ox'), (cy, oy')] → Q .next { s with heap := h, toks := tk })
    (hk : env.scope.kind = .function) (hx : env.kindOf xN = some .cell) (hy : env.kindOf yN = some .cell) :
    wpAny (model prog w) A (call (.type "zip") [.ref l1, .ref l2]) (fun xv s₁ => wpAny (model prog w) A (pyIter xv) (ForAt prog w A env (.Tuple [.Name xN px, .Name yN py] k1 tp) body Q) (fun _ _ => False) s₁) E s := by
  refine Classical.byContradiction fun hG => ?_
  obtain ⟨ol1, hol1, hol1'⟩ := id hl1
  obtain ⟨ol2, hol2, hol2'⟩ := id hl2
  refine hG ?_
  clear hG
  refine call_zip_2 (hl1.at fun o e => F.keep _ o e) (hl2.at fun o e => F.keep _ o e) fun h' hz hTI hTO hi1 hi2 hsz hk0 => ?_
  have hlt1 : @LT.lt Nat _ l1 s.heap.objs.size := Heap.lt_size (F.keep _ _ hol1)
  have hlt2 : @LT.lt Nat _ l2 s.heap.objs.size := Heap.lt_size (F.keep _ _ hol2)
  have hltL : @LT.lt Nat _ env.locals s.heap.objs.size := F.ns.lt
  have hltx : @LT.lt Nat _ cx s.heap.objs.size := Heap.lt_size (N _ (.head _)).1
  have hlty : @LT.lt Nat _ cy s.heap.objs.size := Heap.lt_size (N _ (.tail _ (.head _))).1
  have fresh : ∀ a : Nat, @LE.le Nat _ s.heap.objs.size a → h₀.get? a = none := fun a ha => by
    cases e : h₀.get? a with
    | none => rfl
    | some o => exact absurd (Heap.lt_size (F.keep a o e)) (Nat.not_lt.mpr ha)
  have F' := F.keeps hk0
  have N' := N.grown hk0
  refine wpAny_pyIter_zip hz ?_
  generalize hb : s.heap.objs.size = b at *
  have D : ZipApart (b + 4) (b + 2) (b + 3) b (b + 1) l1 l2 := by
    constructor <;> first | exact fun h => absurd (Nat.add_left_cancel h) (by decide) | exact fun h => absurd (Nat.add_left_cancel (k := 0) h) (by decide) | exact fun h => absurd (Nat.add_left_cancel (m := 0) h) (by decide) | exact Nat.ne_of_lt hlt1 | exact Nat.ne_of_gt hlt1 | exact Nat.ne_of_lt hlt2 | exact Nat.ne_of_gt hlt2 | exact Nat.ne_of_lt (Nat.lt_add_right _ hlt1) | exact Nat.ne_of_gt (Nat.lt_add_right _ hlt1) | exact Nat.ne_of_lt (Nat.lt_add_right _ hlt2) | exact Nat.ne_of_gt (Nat.lt_add_right _ hlt2)
  have W := WalksT.zip2 (prog := prog) (w := w) hh (b + 4) (b + 2) (b + 3) b (b + 1) l1 l2 D xs ys
  have hp : (env.scope.kind == .class || (env.scope.kind == .module && env.locals != env.globals)) = false := by rw [hk]; rfl
  have hL : ∀ c ∈ [b + 4, b + 3, b, b + 1], env.locals ≠ c := fun c hc => Nat.ne_of_lt (Nat.lt_of_lt_of_le hltL (zip_ge4 hc))
  have hxw : ∀ c ∈ [b + 4, b + 2, b + 3, b, b + 1], cx ≠ c := fun c hc => Nat.ne_of_lt (Nat.lt_of_lt_of_le hltx (zip_ge5 hc))
  have hyw : ∀ c ∈ [b + 4, b + 2, b + 3, b, b + 1], cy ≠ c := fun c hc => Nat.ne_of_lt (Nat.lt_of_lt_of_le hlty (zip_ge5 hc))
  have hx₀ := (N _ (.head _)).2.2
  have hy₀ := (N _ (.tail _ (.head _))).2.2
  have hxL := (N _ (.head _)).2.1
  have hyL := (N _ (.tail _ (.head _))).2.1
  have hwr : ∀ c ∈ [b + 4, b + 3, b, b + 1], h₀.get? c = none := fun c hc => fresh c (zip_ge4 hc)
  have hLT : env.locals ≠ b + 2 := Nat.ne_of_lt (Nat.lt_add_right 2 hltL)
  have hT₀ : h₀.get? (b + 2) = none := fresh _ (Nat.le_add_right b 2)
  unfold ForAt
  refine codeAny_forLoop_any
    (fun k s' => ∃ h' tk m' i ox' oy', s' = { s with heap := h', toks := tk } ∧ (IsZip h' (b + 4) (b + 2) (b + 3) .none ∧ IsPair h' (b + 2) (.ref b) (.ref (b + 1)) ∧ (∃ u v, IsPair h' (b + 3) u v) ∧ h'.IsListIter b l1 i ∧ h'.IsListIter (b + 1) l2 i ∧ h'.IsList l1 xs ∧ h'.IsList l2 ys) ∧
      Fr h₀ env.locals h' m' ∧ News h₀ env.locals h' [(cx, ox'), (cy, oy')] ∧ (∃ v, ox'.data = .cell v) ∧ (∃ v, oy'.data = .cell v) ∧ J i m' ∧ i ≤ min xs.size ys.size ∧ k = min xs.size ys.size + 1 - i) ?_ (min xs.size ys.size + 1)
    ⟨h', s.toks, m, 0, ox, oy, rfl, ⟨hz, hTI, ⟨_, _, hTO⟩, hi1, hi2, hl1.at fun o e => F'.keep _ o e, hl2.at fun o e => F'.keep _ o e⟩, F', N', ⟨_, hox⟩, ⟨_, hoy⟩, hj, Nat.zero_le _, rfl⟩
  intro k s' hI9
  refine Classical.byContradiction fun hG => ?_
  obtain ⟨h₁, tk, m', i, ox', oy', rfl, hst, F₁, N₁, ⟨vx', hox'⟩, ⟨vy', hoy'⟩, hJ, hi, rfl⟩ := hI9
  refine hG ?_
  clear hG
  have upd : ∀ h₂ : Heap, (∀ c o, c ∉ [b + 4, b + 3, b, b + 1] → h₁.get? c = some o → h₂.get? c = some o) → Fr h₀ env.locals h₂ m' ∧ News h₀ env.locals h₂ [(cx, ox'), (cy, oy')] := fun h₂ hk₂ =>
    ⟨⟨F₁.ns.at' fun o e => hk₂ _ o (fun q => hL _ q rfl) e, fun c o e => hk₂ c o (fun q => by rw [hwr c q] at e; cases e) (F₁.keep c o e), F₁.above⟩,
     fun p hp => ⟨hk₂ _ _ (fun q => by
       simp only [List.mem_cons, List.not_mem_nil, or_false] at hp
       rcases hp with rfl | rfl
       · exact hxw _ (zip_in5 q) rfl
       · exact hyw _ (zip_in5 q) rfl) (N₁ p hp).1, (N₁ p hp).2⟩⟩
  by_cases hlt : i < min xs.size ys.size
  · refine W.item i _ _ _ hlt hst fun T vals h₂ tk₂ hPt hTle hT hMid hk₂ => ?_
    refine Classical.byContradiction fun hG => ?_
    obtain ⟨v1, v2, hv1, hv2, rfl⟩ := hPt
    refine hG ?_
    clear hG
    refine W.go _ k1 tp i T _ _ _ hMid fun h₃ hst₃ hk₃ => ?_
    have ht₃ : h₃.IsTuple T #[v1, v2] := hT.at fun o e => hk₃ T o (W.apart i T h₂ hMid) e
    refine wpAny_assign_Tuple hh ht₃ rfl rfl fun h₄ hx₄ => ?_
    replace hx₄ : Heap.ExtBut h₃.objs.size h₃ h₄ := hx₄
    have up₄ : ∀ c o, h₃.get? c = some o → h₄.get? c = some o := fun c o x => hx₄ c o (Nat.ne_of_lt (Heap.lt_size x)) x
    obtain ⟨F₄, N₄⟩ := upd h₄ fun c o hc e => up₄ c o (hk₃ c o hc (hk₂ c o hc e))
    have hst₄ := W.frame _ _ h₄ hst₃ fun c _ o e => up₄ c o e
    show wpAny _ A (do holding [v2] (assign (.Name xN px) env v1); do holding [] (assign (.Name yN py) env v2); pure ()) _ _ _
    refine wpAny_bind (wpAny_holding (wpAny_assign_Name (wpAny_storeName_cell hk hx hcx ⟨ox', (N₄ _ (.head _)).1, hox'⟩ fun h₅ hc₅ hs₅ => ?_)))
    refine wpAny_bind (wpAny_holding (wpAny_assign_Name (wpAny_storeName_cell hk hy hcy ⟨oy', hs₅.extBut _ _ (Ne.symm hxy) (N₄ _ (.tail _ (.head _))).1, hoy'⟩ fun h₆ hc₆ hs₆ => wpAny_pure ?_)))
    refine Classical.byContradiction fun hG => ?_
    obtain ⟨ox₅, hgx, hdx⟩ := hc₅
    obtain ⟨oy₆, hgy, hdy⟩ := hc₆
    have up₆ : ∀ c o, c ≠ cx → c ≠ cy → h₄.get? c = some o → h₆.get? c = some o := fun c o h1 h2 e => hs₆.extBut c o h2 (hs₅.extBut c o h1 e)
    have F₆ : Fr h₀ env.locals h₆ m' := ⟨F₄.ns.at' fun o e => up₆ _ o (Ne.symm hxL) (Ne.symm hyL) e, fun c o e => up₆ c o (fun q => by rw [q, hx₀] at e; cases e) (fun q => by rw [q, hy₀] at e; cases e) (F₄.keep c o e), F₄.above⟩
    have upw : ∀ c ∈ [b + 4, b + 2, b + 3, b, b + 1], ∀ o, h₄.get? c = some o → h₆.get? c = some o := fun c hc o e => up₆ c o (fun q => hxw c hc q.symm) (fun q => hyw c hc q.symm) e
    obtain ⟨qz, qTI, ⟨u, v, qTO⟩, ⟨o1, q1, q1'⟩, ⟨o2, q2, q2'⟩, _, _⟩ := hst₄
    obtain ⟨oz, rz, e1⟩ : ∃ oz, (∀ h : Heap, h.get? (b + 4) = some oz → IsZip h (b + 4) (b + 2) (b + 3) .none) ∧ h₄.get? (b + 4) = some oz := ⟨_, fun _ e => e, qz⟩
    obtain ⟨oTI, rTI, e2⟩ : ∃ o, (∀ h : Heap, h.get? (b + 2) = some o → IsPair h (b + 2) (.ref b) (.ref (b + 1))) ∧ h₄.get? (b + 2) = some o := ⟨_, fun _ e => e, qTI⟩
    obtain ⟨oTO, rTO, e3⟩ : ∃ o, (∀ h : Heap, h.get? (b + 3) = some o → IsPair h (b + 3) u v) ∧ h₄.get? (b + 3) = some o := ⟨_, fun _ e => e, qTO⟩
    have N₆ : News h₀ env.locals h₆ [(cx, ox₅), (cy, oy₆), (b + 4, oz), (b + 2, oTI), (b + 3, oTO), (b, o1), (b + 1, o2)] := by
      have w1 : b + 4 ∈ [b + 4, b + 3, b, b + 1] := .head _
      have w2 : b + 3 ∈ [b + 4, b + 3, b, b + 1] := .tail _ (.head _)
      have w3 : b ∈ [b + 4, b + 3, b, b + 1] := .tail _ (.tail _ (.head _))
      have w4 : b + 1 ∈ [b + 4, b + 3, b, b + 1] := .tail _ (.tail _ (.tail _ (.head _)))
      refine List.forall_mem_cons.mpr ⟨⟨hs₆.extBut _ _ hxy hgx, hxL, hx₀⟩, List.forall_mem_cons.mpr ⟨⟨hgy, hyL, hy₀⟩, List.forall_mem_cons.mpr ⟨?_, List.forall_mem_cons.mpr ⟨⟨upw _ (.tail _ (.head _)) _ e2, Ne.symm hLT, hT₀⟩, List.forall_mem_cons.mpr ⟨?_, List.forall_mem_cons.mpr ⟨?_, List.forall_mem_cons.mpr ⟨?_, List.forall_mem_nil _⟩⟩⟩⟩⟩⟩⟩
      · exact ⟨upw _ (zip_in5 w1) _ e1, Ne.symm (hL _ w1), hwr _ w1⟩
      · exact ⟨upw _ (zip_in5 w2) _ e3, Ne.symm (hL _ w2), hwr _ w2⟩
      · exact ⟨upw _ (zip_in5 w3) _ q1, Ne.symm (hL _ w3), hwr _ w3⟩
      · exact ⟨upw _ (zip_in5 w4) _ q2, Ne.symm (hL _ w4), hwr _ w4⟩
    refine hG ?_
    clear hG
    refine wpAny_mono (turn i v1 v2 m' h₆ _ (b + 4) (b + 2) (b + 3) b (b + 1) oz oTI oTO o1 o2 ox₅ oy₆ hv1 hv2 hJ hdx hdy F₆ N₆) (fun f s₃ h₇ => ?_) fun _ _ e => e.elim
    have fin : ∀ {tk₀ : Nat}, ZipEnd { s with heap := h₆, toks := tk₀ } h₀ env.locals [(cx, ox₅), (cy, oy₆), (b + 4, oz), (b + 2, oTI), (b + 3, oTO), (b, o1), (b + 1, o2)] (J (i + 1)) s₃ →
        ∃ m_1, m_1 < min xs.size ys.size + 1 - i ∧ ∃ h' tk m' i ox' oy', s₃ = { s with heap := h', toks := tk } ∧ (IsZip h' (b + 4) (b + 2) (b + 3) .none ∧ IsPair h' (b + 2) (.ref b) (.ref (b + 1)) ∧ (∃ u v, IsPair h' (b + 3) u v) ∧ h'.IsListIter b l1 i ∧ h'.IsListIter (b + 1) l2 i ∧ h'.IsList l1 xs ∧ h'.IsList l2 ys) ∧
          Fr h₀ env.locals h' m' ∧ News h₀ env.locals h' [(cx, ox'), (cy, oy')] ∧ (∃ v, ox'.data = .cell v) ∧ (∃ v, oy'.data = .cell v) ∧ J i m' ∧ i ≤ min xs.size ys.size ∧ m_1 = min xs.size ys.size + 1 - i := by
      intro tk₀ hI9
      refine Classical.byContradiction fun hG => ?_
      obtain ⟨h₈, tk₈, m₈, rfl, F₈, N₈, hJ₈⟩ := hI9
      refine hG ?_
      clear hG
      refine ⟨_, by omega, h₈, tk₈, m₈, i + 1, ox₅, oy₆, rfl, ⟨rz _ (N₈ (b + 4, _) (.tail _ (.tail _ (.head _)))).1, rTI _ (N₈ (b + 2, _) (.tail _ (.tail _ (.tail _ (.head _))))).1, ⟨u, v, rTO _ (N₈ (b + 3, _) (.tail _ (.tail _ (.tail _ (.tail _ (.head _)))))).1⟩, ⟨o1, (N₈ (b, o1) (.tail _ (.tail _ (.tail _ (.tail _ (.tail _ (.head _))))))).1, q1'⟩, ⟨o2, (N₈ (b + 1, o2) (.tail _ (.tail _ (.tail _ (.tail _ (.tail _ (.tail _ (.head _)))))))).1, q2'⟩, hl1.at fun o e => F₈.keep _ o e, hl2.at fun o e => F₈.keep _ o e⟩,
        F₈, fun p hp => N₈ p (zip_two hp), ⟨_, hdx⟩, ⟨_, hdy⟩, hJ₈, hlt, rfl⟩
    cases f with
    | ret v => exact h₇
    | brk => exact h₇
    | cont => exact fin h₇
    | next => exact fin h₇
  · have hin : i = min xs.size ys.size := by omega
    subst hin
    refine W.done _ _ _ hst fun h₂ tk₂ hk₂ => wpAny_execs_nil ?_
    obtain ⟨F₂, N₂⟩ := upd h₂ fun c o hc e => hk₂ c o hc e
    exact done m' h₂ tk₂ ox' oy' hJ F₂ N₂
end
end
local macro_rules | `(tactic| k_room) => `(tactic| ((try simp only [depth_under_make, depth_under_kw, depth_in1, depth_deeper, depth_caller]); (try dsimp only [ktrTop]); (first | exact Nat.lt_of_lt_of_le (by assumption) (by decide) | exact Nat.lt_of_lt_of_le (Nat.succ_lt_succ (by assumption)) (by decide) | exact Nat.lt_of_lt_of_le (Nat.succ_lt_succ (Nat.succ_lt_succ (by assumption))) (by decide) | (simp only [recursionLimit]; omega))))
local macro_rules | `(tactic| walk_at "mine pj") => `(tactic| (first | assumption | exact And.right (by first | assumption | exact And.right (by first | assumption | exact And.right (by first | assumption | exact And.right (by first | assumption | exact And.right (by first | assumption | exact And.right (by first | assumption | exact And.right (by first | assumption | exact And.right (by first | assumption | exact And.right (by first | assumption | exact And.right (by first | assumption | exact And.right (by first | assumption | exact And.right (by first | assumption | exact And.right (by first | assumption | exact And.right (by first | assumption | exact And.right (by first | assumption | exact And.right (by first | assumption | exact And.right (by first | assumption | exact And.right (by first | assumption | exact And.right (by first | assumption)))))))))))))))))))))
local macro_rules | `(tactic| walk_at "mine lt0") => `(tactic| (first | assumption | exact Nat.lt_add_one _ | exact And.left (by walk_at "mine pj") | walk_at "mine pj" | exact Nat.lt_trans (And.left (by walk_at "mine pj")) (by assumption)))
local macro_rules | `(tactic| walk_at "mine lt1") => `(tactic| (first | walk_at "mine lt0" | exact Nat.lt_add_one_of_lt (by walk_at "mine lt0") | exact Nat.lt_add_one_of_lt (Nat.lt_add_one_of_lt (by walk_at "mine lt0")) | exact Nat.lt_add_one_of_lt (Nat.lt_add_one_of_lt (Nat.lt_add_one_of_lt (by walk_at "mine lt0"))) | exact Nat.lt_add_one_of_lt (Nat.lt_add_one_of_lt (Nat.lt_add_one_of_lt (Nat.lt_add_one_of_lt (by walk_at "mine lt0"))))))
local macro_rules | `(tactic| k_ne) => `(tactic| (refine neN ?_; (try dsimp only); (with_reducible (first | assumption | exact Ne.symm (by assumption) | exact Nat.ne_of_lt (by walk_at "mine lt1") | exact Nat.ne_of_gt (by walk_at "mine lt1") | exact And.left (by walk_at "mine pj") | exact Ne.symm (And.left (by walk_at "mine pj")) | walk_at "mine pj" | exact Ne.symm (by walk_at "mine pj")))))
local macro_rules | `(tactic| walk_at "mine lt") => `(tactic| ((try dsimp only); (first | (with_reducible walk_at "mine lt1") | omega)))
local macro_rules | `(tactic| walk_at "mine fill") => `(tactic| (have fill9 : (fun (_ : OpenLaw) (_ : Params → Frag) => True) PySem.Challenge.rw_tp0017_01 Mine.hd.heap_1 := by (k_fill; trivial)))
local macro_rules | `(tactic| walk_at "mine enter") => `(tactic| (refine' code_defG ?k1 ?k2 ?k3 ?k5 ?kA ?kF ?kK ?k6 ?k7 ?k8 ?k9 ?kB ?_ ?c2 ?c3 ?c4 ?c5; (case kA => exact rfl); (case kF => exact rfl); (case kK => assumption); (case k1 => k_asm); (case k2 => k_asm); (case k3 => k_asm); (case k5 => k_asm); (case k6 => k_is); (case k7 => k_is); (case k8 => k_room); (case k9 => exact BindsTo.of_eq rfl); (case c5 => decide); (case kB => exact locs rfl); (case c2 => exact rfl); (case c3 => exact rfl); (case c4 => exact rfl); k_whole; intro L' h' F' N' B' X' T'; (try dsimp only); (try k_fold)))
local macro_rules | `(tactic| walk_at "exec For Name Name cons nil") => `(tactic| (refine Mine.for_go ?_ (by intro _; with_unfolding_all rfl)))
local macro_rules | `(tactic| walk_at "exec For Tuple Call cons nil") => `(tactic| (refine Mine.for_go ?_ (by intro _; with_unfolding_all rfl)))
local macro_rules | `(tactic| walk_at "exec For Name Call cons nil") => `(tactic| (refine Mine.for_go ?_ (by intro _; with_unfolding_all rfl)))
local macro_rules | `(tactic| walk_at "exec For Name Subscript cons nil") => `(tactic| (refine Mine.for_go ?_ (by intro _; with_unfolding_all rfl)))
local macro_rules | `(tactic| walk_at "eval Name") => `(tactic| (k_here; k_dflt (refine' nameX_L ?F ?v ?_ ?a ?b; (case F => k_asm); (case a => rfl); (case b => rfl); (case v => assumption); k_whole)))
local macro_rules | `(tactic| walk_at "mine len") => `(tactic| ((rw [PySem.sizeLine_eq]); (try simp only [Mine.len_plus, Mine.len_minus, Mine.len_bs, Mine.len_sp, Mine.len_qt, Mine.len_nl, PySem.Str.length_append]); omega))
local macro_rules | `(tactic| walk_at "binaryOp Add str str") => `(tactic| (refine PyProof.Rows.add_str ?_ (by walk_at "mine len"); intro t9 tk9))
local macro_rules | `(tactic| walk_at "mine sub") => `(tactic| (intro p9 hp9; repeat (first | exact hp9 | apply List.mem_cons_of_mem)))
local macro_rules | `(tactic| walk_at "mine subs") => `(tactic| (repeat (first | exact List.forall_mem_nil _ | refine List.forall_mem_cons.mpr (And.intro (by k_mem) ?_) | (intro p9 hp9; repeat (first | exact hp9 | apply List.mem_cons_of_mem)))))
local macro_rules | `(tactic| walk_at "mine enterC") => `(tactic| (refine' code_defCG ?k1 ?k2 ?k3 ?k5 ?kA ?kF ?kK ?k6 ?k7 ?k8 ?k9 ?kB ?kD ?_ ?c2 ?c3 ?c4; (case kA => exact rfl); (case kF => exact rfl); (case kK => assumption); (case k1 => k_asm); (case k2 => k_asm); (case k3 => k_asm); (case k5 => k_asm); (case k6 => k_is); (case k7 => k_is); (case k8 => k_room); (case k9 => exact BindsTo.of_eq rfl); (case kB => exact rfl); (case kD => decide +kernel); (case c2 => exact rfl); (case c3 => exact rfl); (case c4 => exact rfl); k_whole; intro L' h' tk' cells' F' N' Y' B' X' T'; k_cells Y'; (try simp only [List.cons_append, List.nil_append] at N'); (try dsimp only); (try k_fold)))
local macro_rules | `(tactic| walk_at "mine site") => `(tactic| ((case k1 => k_asm); (case k2 => k_asm); (case k3 => k_asm); (case k4 => k_asm); (case k5 => first | exact rfl | assumption); (case k6 => (dsimp only [ktrTop]; (try simp only [depth_deeper]); (try dsimp only [ktrTop]); omega))))
section -- Sg
open PySem PySem.W PyProof.Rows PySem.Calls PySem.Spec
set_option maxRecDepth 100000
set_option maxHeartbeats 8000000
set_option rowWalk.seconds 0

section
variable {w : World} {p : Program} {loose : List Str} {mean : ExcName → Option Value} {mg mb : Str → Option Value} {dp un : Nat} {gd : Option (List Code)} {cn : Str} {cs : Scope} {a : Addr} {ccd : Value} {cl : List (Str × Addr)} {outer : List Env} {A₀ : Around} {base h₀ : Heap} {L : Addr} {m : Str → Option Value} {s : Shared} {Q E : Value → Shared → Prop}
def sgStep (st : Str × Int) (w : Int) : Str × Int := if 0 < st.2 then (st.1 ++ Str.ofString "+", st.2 - w) else (st.1 ++ Str.ofString "-", st.2 + w)
def signsT (kind value : Int) (ns : List Int) : Str :=
  let st := (if kind = 31 then ns.map (fun a => 3 * a + 1) else ns).foldl sgStep (Str.ofString "", if kind = 31 then 3 * value + 1 else value)
  if st.2 = 0 then st.1 else Str.ofString ""

theorem signs_spec {kind value : Int} {t1 t2 : Tok} {l : Addr} {vs : List Value} {ns : List Int}
    (B : Below A₀ base outer h₀) (F : Fr h₀ L s.heap m) (X : (Mine.hd.heap_1 w.params).In h₀) (T : Top p loose mean mg mb h₀) (hk : cs.kind = .function)
    (hdp : dp < 600)
    (hl : s.heap.IsList l vs.toArray) (hi : IntsAre vs ns)
    (hlen : ns.length < 2 ^ 20)
    (ret : ∀ x t h' tk', x = signsT kind value ns → (∀ b o, s.heap.get? b = some o → h'.get? b = some o) → Q (.str x t) { s with heap := h', toks := tk' }) :
    wpAny (model Pr w) (ktrTop dp un gd cn cs L a ccd cl outer) (call (.ref 144) [.int kind t1, .int value t2, .ref l]) Q E s := by
  walk_at "mine fill"
  refine wpAny_call ?_
  k_dflt walk_at "mine enter"
  (try k_fold)
  k_steps
  · refine iter_list_m (fun i m' => ∃ tx r t1 t2, m' (Str.ofString "text") = some (.str tx t1) ∧ m' (Str.ofString "rest") = some (.int r t2) ∧ (tx, r) = ((ns.map (fun a => 3 * a + 1)).take i).foldl sgStep (Str.ofString "", 3 * value + 1) ∧ tx.length ≤ i) rfl (by assumption) (by assumption) (.inr ⟨_, by k_mem, rfl, _, rfl⟩) ⟨_, _, _, _, rfl, rfl, rfl, by decide⟩ ?_ ?_
    · intro i v m₁ h tk I oI hv hJ off F N
      refine Classical.byContradiction fun hG => ?_
      obtain ⟨tx, r, t1, t2, e1, e2, e3, e4⟩ := hJ
      obtain ⟨n, t, hn, rfl⟩ := IntsAre.at' (by assumption) (by simpa using hv)
      have hib : i < 2 ^ 20 := by
        have := (List.getElem?_eq_some_iff.mp hn).1
        simp only [List.length_map] at this
        omega
      refine hG ?_
      clear hG
      (try k_fold)
      k_steps
      · exact MTurnEnd.mk _ (by assumption) (News.sub (by assumption) (by walk_at "mine sub")) off ⟨⟨_, _, _, _, rfl, rfl, by rw [foldl_take_succ hn, ← e3, sgStep, if_pos (by assumption)], by rw [PySem.Str.length_append, len_plus]; omega⟩, rfl⟩
      · exact MTurnEnd.mk _ (by assumption) (News.sub (by assumption) (by walk_at "mine sub")) off ⟨⟨_, _, _, _, rfl, rfl, by rw [foldl_take_succ hn, ← e3, sgStep, if_neg (by assumption)], by rw [PySem.Str.length_append, len_minus]; omega⟩, rfl⟩
    · intro m₁ h tk hJ F N
      refine Classical.byContradiction fun hG => ?_
      obtain ⟨tx, r, t1, t2, e1, e2, e3, e4⟩ := hJ
      rw [List.size_toArray, (IntsAre.length (by assumption)), List.take_length] at e3
      refine hG ?_
      clear hG
      (try k_fold)
      k_steps
      · exact ret _ _ _ _ (by unfold signsT; simp only [if_pos (show kind = 31 by assumption)]; rw [← e3]; simp [*]) (Fr.keep (by assumption))
      · exact ret _ _ _ _ (by unfold signsT; simp only [if_pos (show kind = 31 by assumption)]; rw [← e3]; simp [*]) (Fr.keep (by assumption))
  · refine iter_list_m (fun i m' => ∃ tx r t1 t2, m' (Str.ofString "text") = some (.str tx t1) ∧ m' (Str.ofString "rest") = some (.int r t2) ∧ (tx, r) = (ns.take i).foldl sgStep (Str.ofString "", value) ∧ tx.length ≤ i) rfl (by assumption) (by assumption) (.inl (by assumption)) ⟨_, _, _, _, rfl, rfl, rfl, by decide⟩ ?_ ?_
    · intro i v m₁ h tk I oI hv hJ off F N
      refine Classical.byContradiction fun hG => ?_
      obtain ⟨tx, r, t1, t2, e1, e2, e3, e4⟩ := hJ
      obtain ⟨n, t, hn, rfl⟩ := IntsAre.at' (by assumption) (by simpa using hv)
      have hib : i < 2 ^ 20 := by
        have := (List.getElem?_eq_some_iff.mp hn).1
        omega
      refine hG ?_
      clear hG
      (try k_fold)
      k_steps
      · exact MTurnEnd.mk _ (by assumption) (News.sub (by assumption) (by walk_at "mine sub")) off ⟨⟨_, _, _, _, rfl, rfl, by rw [foldl_take_succ hn, ← e3, sgStep, if_pos (by assumption)], by rw [PySem.Str.length_append, len_plus]; omega⟩, rfl⟩
      · exact MTurnEnd.mk _ (by assumption) (News.sub (by assumption) (by walk_at "mine sub")) off ⟨⟨_, _, _, _, rfl, rfl, by rw [foldl_take_succ hn, ← e3, sgStep, if_neg (by assumption)], by rw [PySem.Str.length_append, len_minus]; omega⟩, rfl⟩
    · intro m₁ h tk hJ F N
      refine Classical.byContradiction fun hG => ?_
      obtain ⟨tx, r, t1, t2, e1, e2, e3, e4⟩ := hJ
      rw [List.size_toArray, (IntsAre.length (by assumption)), List.take_length] at e3
      refine hG ?_
      clear hG
      (try k_fold)
      k_steps
      · exact ret _ _ _ _ (by unfold signsT; simp only [if_neg (show ¬ kind = 31 by assumption)]; rw [← e3]; simp [*]) (Fr.keep (by assumption))
      · exact ret _ _ _ _ (by unfold signsT; simp only [if_neg (show ¬ kind = 31 by assumption)]; rw [← e3]; simp [*]) (Fr.keep (by assumption))
end
end
local macro_rules | `(tactic| walk_at "call builtin:len") => `(tactic| (k_here; k_dflt (refine PyProof.Rows.len_list (by is_list) (by ((simp only [List.size_toArray, List.length_append, List.length_cons, List.length_nil]); omega)) ?_)))
local macro_rules | `(tactic| walk_at "exec Assign cons ListComp") => `(tactic| (k_here; k_dflt (refine PyProof.Rows.LCg.Assign_ListComp_U (F₀ := by k_asm) (by rfl) (by with_unfolding_all rfl) (by with_unfolding_all rfl) (by decide) (by rfl) (by decide) (by rfl) (by rfl) (by rfl) ?_)))
local macro_rules | `(tactic| walk_at "eval ListComp") => `(tactic| (k_here; k_dflt (refine PyProof.Rows.LCg.ListComp_U (F₀ := by k_asm) (by with_unfolding_all rfl) (by decide) (by rfl) (by decide) (by rfl) ?_)))
local macro_rules | `(tactic| walk_at "CompSrc") => `(tactic| (refine Mine.Stop.mk ?_))
section -- Ft
open PySem PySem.W PyProof.Rows PySem.Calls PySem.Spec
set_option maxRecDepth 100000
set_option maxHeartbeats 8000000
set_option rowWalk.seconds 0

section
variable {w : World} {p : Program} {loose : List Str} {mean : ExcName → Option Value} {mg mb : Str → Option Value} {dp un : Nat} {gd : Option (List Code)} {cn : Str} {cs : Scope} {a : Addr} {ccd : Value} {cl : List (Str × Addr)} {outer : List Env} {A₀ : Around} {base h₀ : Heap} {L : Addr} {m : Str → Option Value} {s : Shared} {Q E : Value → Shared → Prop}
def fitsF (sign text : Str) : Bool :=
  if (sign == Str.ofString "+") = true then Txt.count text (Str.ofString "-") == 0
  else if (sign == Str.ofString "-") = true then Txt.slice text none (some 2) == Str.ofString "+-"
  else if (sign == Str.ofString "->") = true then Txt.slice text (some (-2)) none == Str.ofString "-+"
  else (!(Builtin.Str.occurrences text (Str.ofString "++") 0 text.length 1).isEmpty || !(Builtin.Str.occurrences text (Str.ofString "--") 0 text.length 1).isEmpty) &&
    (Txt.count text (Str.ofString "+") - Txt.count text (Str.ofString "-")).fmod 3 == 1

theorem fits_spec {sign text : Str} {t1 t2 : Tok}
    (B : Below A₀ base outer h₀) (F : Fr h₀ L s.heap m) (X : (Mine.hd.heap_1 w.params).In h₀) (T : Top p loose mean mg mb h₀) (hk : cs.kind = .function)
    (hdp : dp < 600)
    (hlen : text.length < 2 ^ 10)
    (ret : ∀ x h' tk', x = fitsF sign text → (∀ b o, s.heap.get? b = some o → h'.get? b = some o) → Q (.bool x) { s with heap := h', toks := tk' }) :
    wpAny (model Pr w) (ktrTop dp un gd cn cs L a ccd cl outer) (call (.ref 151) [.str sign t1, .str text t2]) Q E s := by
  walk_at "mine fill"
  refine wpAny_call ?_
  k_dflt walk_at "mine enter"
  k_steps
  all_goals exact ret _ _ _ (by unfold fitsF; simp_all) (Fr.keep (h₀ := s.heap) (by assumption))
end
end
section -- Td
open PySem PySem.W PyProof.Rows PySem.Calls PySem.Spec
set_option maxRecDepth 100000
set_option maxHeartbeats 8000000
set_option rowWalk.seconds 0

section
variable {w : World} {p : Program} {loose : List Str} {mean : ExcName → Option Value} {mg mb : Str → Option Value} {dp un : Nat} {gd : Option (List Code)} {cn : Str} {cs : Scope} {a : Addr} {ccd : Value} {cl : List (Str × Addr)} {outer : List Env} {A₀ : Around} {base h₀ : Heap} {L : Addr} {m : Str → Option Value} {s : Shared} {Q E : Value → Shared → Prop}
def tellStep (xs : List Str) : List Str := xs.flatMap fun x => (Str.ofString "+-").cps.toList.map fun c => x ++ ⟨#[c]⟩
def tellAll : Nat → List Str
  | 0 => [Str.ofString ""]
  | n + 1 => tellStep (tellAll n)
def toldF (sign : Str) (n : Nat) : List Str := (tellAll n).filter (fitsF sign)

theorem small_nat {n : Nat} (h : n ≤ 6) : Builtin.Range.small 0 (n : Int) 1 = true := by
  have : n = 0 ∨ n = 1 ∨ n = 2 ∨ n = 3 ∨ n = 4 ∨ n = 5 ∨ n = 6 := by omega
  rcases this with rfl | rfl | rfl | rfl | rfl | rfl | rfl <;> decide
theorem tell_len {n : Nat} (h : n < 6) : ∀ x ∈ tellAll n, x.length + 1 ≤ sizeLine := by
  have : n = 0 ∨ n = 1 ∨ n = 2 ∨ n = 3 ∨ n = 4 ∨ n = 5 := by omega
  rw [sizeLine_eq]
  rcases this with rfl | rfl | rfl | rfl | rfl | rfl <;> decide +kernel
theorem tell_fit {n : Nat} (h : n < 6) : (tellAll n).length * (Str.ofString "+-").cps.size + (Str.ofString "+-").cps.size ≤ sizeLine := by
  have : n = 0 ∨ n = 1 ∨ n = 2 ∨ n = 3 ∨ n = 4 ∨ n = 5 := by omega
  rw [sizeLine_eq]
  rcases this with rfl | rfl | rfl | rfl | rfl | rfl <;> decide +kernel
theorem tell_size {n : Nat} (h : n ≤ 6) : (tellAll n).length ≤ 16777216 := by
  have : n = 0 ∨ n = 1 ∨ n = 2 ∨ n = 3 ∨ n = 4 ∨ n = 5 ∨ n = 6 := by omega
  rcases this with rfl | rfl | rfl | rfl | rfl | rfl | rfl <;> decide +kernel
theorem tell_short {n : Nat} (h : n ≤ 6) : ∀ x ∈ tellAll n, x.length < 2 ^ 10 := by
  have : n = 0 ∨ n = 1 ∨ n = 2 ∨ n = 3 ∨ n = 4 ∨ n = 5 ∨ n = 6 := by omega
  rcases this with rfl | rfl | rfl | rfl | rfl | rfl | rfl <;> decide +kernel
theorem size_natT (n : Nat) : Builtin.Range.rangeSize 0 (n : Int) 1 = (n : Int) := by rw [rangeSize_one]; split <;> omega
local macro_rules | `(tactic| walk_at "exec Assign cons ListComp") => `(tactic| (k_dflt (refine Mine.Assign_comp2 (by k_asm) rfl (by with_unfolding_all rfl) rfl (by decide) rfl (by decide) rfl rfl (by decide) (by decide) (by decide) rfl rfl ?_)))
local macro_rules | `(tactic| walk_at "call ref") => `(tactic| (k_here; k_dflt (refine' Mine.fits_spec ?k1 ?k2 ?k3 ?k4 ?k5 ?k6 ?kl ?_; walk_at "mine site"; (case kl => assumption); intro x9 h9 tk9 e9 k9; (have F9 := Fr.keeps (by k_asm) k9); (have N9 := News.grown (by k_asm) k9); (try dsimp only))))

theorem told_spec {sign : Str} {n : Nat} {t1 t2 : Tok}
    (B : Below A₀ base outer h₀) (F : Fr h₀ L s.heap m) (X : (Mine.hd.heap_1 w.params).In h₀) (T : Top p loose mean mg mb h₀) (hk : cs.kind = .function)
    (hdp : dp < 500) (hn : n ≤ 6)
    (ret : ∀ D ys k h' tk', StrsAre ys (toldF sign n) → (∀ b o, s.heap.get? b = some o → h'.get? b = some o) → s.heap.get? D = none → h'.get? D = some { cls := .type "list", data := .seq ys.toArray k } → Q (.ref D) { s with heap := h', toks := tk' }) :
    wpAny (model Pr w) (ktrTop dp un gd cn cs L a ccd cl outer) (call (.ref 156) [.str sign t1, .int n t2]) Q E s := by
  walk_at "mine fill"
  refine wpAny_call ?_
  k_dflt walk_at "mine enterC"
  (try k_fold)
  k_steps
  rename_i Lc hE tkE BE XE TE oC dC lD hA l1 hB F1 N1 hD' tk1 tt tu tv hR F2 N2 hk2
  refine iter_range (n := n) (fun i m' news' => ∃ D ys k, m' (Str.ofString "texts") = some (.ref D) ∧ news' = [(D, ({ cls := .type "list", data := .seq ys.toArray k } : Obj)), (Lc + 1, oC)] ∧ StrsAre ys (tellAll i)) rfl F2 N2 hR (small_nat hn) (size_natT n) ⟨lD, [.str (Str.ofString "") tkE], 0, rfl, rfl, strs_one⟩ ?_ ?_
  · intro i tv m₁ news₁ h tk I oI hi hJ off F N
    refine Classical.byContradiction fun hG => ?_
    obtain ⟨D, ys, k, e1, rfl, hys⟩ := hJ
    refine hG ?_
    clear hG
    (try k_fold)
    k_steps
    refine ⟨_, _, tellAll i, _, _, rfl, by assumption, by assumption, ⟨_, (N _ (.tail _ (.head _))).1, rfl, _, rfl⟩, hys, tell_len (by omega), tell_fit (by omega), ?_⟩
    intro D' h' tk' ys' k' hys' F' N' hD'
    dsimp only
    k_steps
    have hI := Heap.lt_size (N _ (.head _)).1
    refine MTurnEnd.mk _ F' (News.sub N' (by lcg_sub)) (fun p hp => ?_) ⟨D', ys', k', rfl, rfl, hys'⟩
    rcases List.mem_cons.mp hp with rfl | hp
    · exact Nat.ne_of_gt (Nat.lt_of_lt_of_le hI hD')
    · exact off p (.tail _ hp)
  · intro m₁ news₁ h tk hJ F N
    refine Classical.byContradiction fun hG => ?_
    obtain ⟨D, ys, k, e1, rfl, hys⟩ := hJ
    refine hG ?_
    clear hG
    refine wpAny_execs_cons ?_
    refine wpAny_Return_some ?_
    refine LCt.ListComp_T (F₀ := by k_asm) (by with_unfolding_all rfl) (by decide) (by rfl) (by decide) (by rfl) ?_
    (try k_fold)
    k_steps
    refine LCt.CompSrcT.ledger rfl (by assumption) (by assumption) (.head _) (by rw [List.size_toArray, hys.length, sizeLine_eq]; exact tell_size hn) ?_
    intro g
    refine compRestT_m (fun i zs => StrsAre zs (((tellAll n).take i).filter (fitsF sign))) (.inr ⟨_, .head _, rfl, _, rfl⟩) ?_ ?_ (by simpa using StrsAre.nil)
    · intro i zs v I oI C oC' D₂ m₂ h₂ tk₂ E₂ hi hJ hv hC hx F N off ne
      refine Classical.byContradiction fun hG => ?_
      obtain ⟨x, t, hx1, rfl⟩ := strs_at hys (by simpa using hv)
      have hlen : x.length < 2 ^ 10 := tell_short hn x (List.mem_of_getElem? hx1)
      refine hG ?_
      clear hG
      (try k_fold)
      k_steps
      · exact EltEnd.mk (by assumption) (by assumption) (by rw [filt_t hx1 (by have e := (show _ = fitsF sign x by assumption); rw [← e]; assumption)]; exact hJ.append' strs_one)
      · exact EltEnd.mk (by assumption) (by assumption) (by rw [filt_f hx1 (by have e := (show _ = fitsF sign x by assumption); rw [← e]; assumption)]; exact hJ)
    · intro zs hzs
      rw [List.size_toArray, hys.length, List.take_length] at hzs
      intro D₃ h₃ tk₃ F₃ N₃ o₃
      dsimp only
      (try k_fold)
      k_steps
      exact ret _ _ _ _ _ hzs (Fr.keep F₃) (N₃ _ (.head _)).2.2 (N₃ _ (.head _)).1
end
end
section -- Pl
open PySem PySem.W PyProof.Rows PySem.Calls PySem.Spec
set_option maxRecDepth 100000
set_option maxHeartbeats 8000000
set_option rowWalk.seconds 0

section
variable {w : World} {p : Program} {loose : List Str} {mean : ExcName → Option Value} {mg mb : Str → Option Value} {dp un : Nat} {gd : Option (List Code)} {cn : Str} {cs : Scope} {a : Addr} {ccd : Value} {cl : List (Str × Addr)} {outer : List Env} {A₀ : Around} {base h₀ : Heap} {L : Addr} {m : Str → Option Value} {s : Shared} {Q E : Value → Shared → Prop}
local macro_rules | `(tactic| walk_at "call type:zip") => `(tactic| (refine Mine.Stop.mk ?_))

def collF (a b : Str) : Int := b2i (decide (b.cps.toList < a.cps.toList)) - b2i (decide (a.cps.toList < b.cps.toList))
theorem readsAll_bools (h : Heap) : ∀ bs : List Bool, ReadsAll h (bs.map Value.bool) (bs.map PyData.bool) []
  | [] => .nil
  | b :: r => .cons (as := []) (.bool b) (readsAll_bools h r)
theorem countIn_bools (k : Bool) : ∀ bs : List Bool, Spec.countIn (.bool k) (bs.map PyData.bool) = (bs.count k : Nat)
  | [] => rfl
  | b :: r => by
    rw [List.map_cons, Spec.countIn, countIn_bools k r, List.count_cons]
    cases b <;> cases k <;> simp [Spec.same] <;> omega
theorem all_bools (bs : List Bool) : (bs.map PyData.bool).all Shape.bool.has = true := by
  rw [List.all_map]
  exact List.all_eq_true.mpr fun b _ => by simp [Shape.has]
theorem count_bools {M₁ : Program} {w₁ : World} {A₁ : Around} {E₁ : Value → Shared → Prop} {s₁ : Shared} {l : Addr} {bs : List Bool} {k : Bool} {Q₁ : Value → Shared → Prop} (hl : s₁.heap.IsList l (bs.map Value.bool).toArray)
    (h : Q₁ (.int (bs.count k : Nat) s₁.toks) { s₁ with toks := s₁.toks + 1 }) : wpAny (model M₁ w₁) A₁ (call (.builtin "list.count") [.ref l, .bool k]) Q₁ E₁ s₁ :=
  PyProof.Rows.count_list_bools hl (readsAll_bools s₁.heap bs) (all_bools bs) (by rw [countIn_bools]; exact h)
theorem placed_spec {lr lt ld : Addr} {vr vt vd : List Value} {rs : List Int} {ts td : List Str}
    (B : Below A₀ base outer h₀) (F : Fr h₀ L s.heap m) (X : (Mine.hd.heap_1 w.params).In h₀) (T : Top p loose mean mg mb h₀) (hk : cs.kind = .function)
    (hdp : dp < 500) (hr : s.heap.IsList lr vr.toArray) (ht : s.heap.IsList lt vt.toArray) (hd : s.heap.IsList ld vd.toArray) (ir : IntsAre vr rs) (it : StrsAre vt ts) (id : StrsAre vd td)
    (hlen : ts.length = td.length) (hfit : td.length < 1000) (hfit' : rs.length < 1000)
    (hok : ∀ (i : Nat) (v : Int) (x : Str), rs[i]? = some v → ts[i]? = some x → ((ts.map fun o => collF o x).count 1 : Int) = (ts.length : Int) - 1 - ((ts.map fun o => collF o x).count (-1) : Nat) ∧
      td[(ts.map fun o => collF o x).count (-1)]? = some x ∧ (rs.countP fun o => decide (v < o)) = (ts.map fun o => collF o x).count (-1))
    (ret : ∀ h' tk', (∀ b o, s.heap.get? b = some o → h'.get? b = some o) → Q (.bool true) { s with heap := h', toks := tk' }) :
    wpAny (model Pr w) (ktrTop dp un gd cn cs L a ccd cl outer) (call (.ref 161) [.ref lr, .ref lt, .ref ld]) Q E s := by
  walk_at "mine fill"
  refine wpAny_call ?_
  k_dflt walk_at "mine enterC"
  have hvr := ir.length
  have hvt := it.length
  have hvd := id.length
  (try k_fold)
  k_steps
  · simp only [List.size_toArray] at *
    omega
  unfold Stop
  rename_i Lc hE tkE FE BE XE TE oc1 oc2 dc1 dc2 NE hne
  refine zip_cells (fun i m' => m' (Str.ofString "results") = some (.ref lr) ∧ m' (Str.ofString "texts") = some (.ref lt) ∧ m' (Str.ofString "told") = some (.ref ld)) rfl FE (News.sub NE (by lcg_sub)) hr ht dc2 dc1 (Nat.ne_of_lt (Nat.lt_succ_self _)) ⟨rfl, rfl, rfl⟩ rfl rfl ?_ ?_ rfl rfl rfl
  · intro i v1 v2 m₁ h tk z TI TO i1 i2 oz oTI oTO o1 o2 ox' oy' hv1 hv2 hJ hdx hdy F N
    refine Classical.byContradiction fun hG => ?_
    obtain ⟨e1, e2, e3⟩ := hJ
    obtain ⟨v, tv, hv, rfl⟩ := IntsAre.at' ir (by simpa using hv1)
    obtain ⟨x, tx, hx, rfl⟩ := strs_at it (by simpa using hv2)
    obtain ⟨p1, p2, p3⟩ := hok i v x hv hx
    refine hG ?_
    clear hG
    (try k_fold)
    k_steps
    unfold Stop
    refine LCg.CompSrc.base rfl (by assumption) (by assumption) ht (by rw [List.size_toArray, sizeLine_eq]; omega) ?_
    intro g
    refine compRest_m (fun i zs => IntsAre zs ((ts.take i).map fun o => collF o x)) (.inl ht) ?_ ?_ .nil
    · intro j zs u I oI C oC' D₂ m₂ h₂ tk₂ E₂ hj hJ2 hu hC hx₂ F₂ N₂ off ne
      refine Classical.byContradiction fun hG => ?_
      obtain ⟨y, t, hy, rfl⟩ := strs_at it (by simpa using hu)
      refine hG ?_
      clear hG
      (try k_fold)
      k_steps
      exact EltEnd.mk (by assumption) (by assumption) (by rw [List.take_add_one, hy, List.map_append]; exact ints_snoc hJ2)
    · intro zs hzs
      rw [List.size_toArray, hvt, List.take_length] at hzs
      intro D₃ h₃ tk₃ F₃ N₃ o₃
      dsimp only
      have p1' : ((ts.map fun o => collF o x).count 1 : Int) = (vt.toArray.size : Int) - 1 - ((ts.map fun o => collF o x).count (-1) : Nat) := by rw [List.size_toArray, hvt]; exact p1
      have p2' : td.getD (((ts.map fun o => collF o x).count (-1) : Nat) : Int).toNat Str.empty = x := by rw [Int.toNat_natCast, List.getD_eq_getElem?_getD, p2]; rfl
      have hc5 := (List.getElem?_eq_some_iff.mp p2).1
      (try k_fold)
      k_steps
      · exact absurd p1' (by assumption)
      · rename_i ha
        rw [p2'] at ha
        simp at ha
      · unfold Stop
        refine LCg.CompSrc.base rfl (by assumption) (by assumption) hr (by rw [List.size_toArray, sizeLine_eq]; omega) ?_
        intro g'
        refine compRest_m (fun i zs => zs = (rs.take i).map fun o => Value.bool (decide (v < o))) (.inl hr) ?_ ?_ rfl
        · intro j zs u I oI C oC' D₂ m₂ h₂ tk₂ E₂ hj hJ2 hu hC hx₂ F₂ N₂ off ne
          refine Classical.byContradiction fun hG => ?_
          obtain ⟨o, t, hy, rfl⟩ := IntsAre.at' ir (by simpa using hu)
          refine hG ?_
          clear hG
          (try k_fold)
          k_steps
          exact EltEnd.mk (by assumption) (by assumption) (by rw [List.take_add_one, hy, List.map_append, hJ2]; rfl)
        · intro zs hzs
          rw [List.size_toArray, hvr, List.take_length] at hzs
          subst hzs
          intro D₅ h₅ tk₅ F₅ N₅ o₅
          dsimp only
          (try k_fold)
          k_steps
          refine count_bools (bs := rs.map fun o => decide (v < o)) ⟨_, (N₅ _ (.head _)).1, rfl, _, by rw [List.map_map]; rfl⟩ ?_
          rw [List.count_eq_countP, List.countP_map]
          k_steps
          · rename_i ha
            have p3' : List.countP ((fun x => x == true) ∘ fun o => decide (v < o)) rs = (ts.map fun o => collF o x).count (-1) := by
              rw [← p3]; congr 1; funext o; simp
            exact absurd (by rw [p3']) ha
          · refine ZipEnd.mk (by assumption) (News.sub (by assumption) (by lcg_sub)) ?_
            exact ⟨e1, e2, e3⟩
  · intro m₁ h tk ox' oy' hJ F N
    (try k_fold)
    k_steps
    exact ret _ _ (Fr.keep F)
end
end
section -- Rs
open PySem PySem.W PyProof.Rows PySem.Calls PySem.Spec
set_option maxRecDepth 100000
set_option maxHeartbeats 8000000
set_option rowWalk.seconds 0

section
variable {w : World} {p : Program} {loose : List Str} {mean : ExcName → Option Value} {mg mb : Str → Option Value} {dp un : Nat} {gd : Option (List Code)} {cn : Str} {cs : Scope} {a : Addr} {ccd : Value} {cl : List (Str × Addr)} {outer : List Env} {A₀ : Around} {base h₀ : Heap} {L : Addr} {m : Str → Option Value} {s : Shared} {Q E : Value → Shared → Prop}
local macro_rules | `(tactic| walk_at "exec While Compare cons nil") => `(tactic| (refine Mine.Stop.mk ?_))
local macro_rules | `(tactic| walk_at "subscriptTail") => `(tactic| (refine Mine.Stop.mk ?_))
theorem tail_list {prog : Program} {A : Around} {value slice : Expr} {l : Addr} {vs : List Value} {k : Int} {u : Tok} {v : Value} (hl : s.heap.IsList l vs.toArray) (h0 : 0 ≤ k) (hfit : k < 2 ^ 63) (hx : vs[k.toNat]? = some v) (h : Q v s)
    (hs : subscripted slice false (.ref l) (.int k u) = operate [.ref l, .int k u] (getItem (.ref l) (.int k u)) := by with_unfolding_all rfl) : wpAny (model prog w) A (subscriptTail value slice (.ref l) (.int k u)) Q E s :=
  subscriptTail_builtinR hl.typeIs slot_list_getitem.lookup (wpAny_getItem_list (Q := fun r s' => r = _ ∧ Q r s') hl h0 hfit (by simpa using hx) ⟨rfl, h⟩) hs
theorem tail_at {prog : Program} {A : Around} {value slice : Expr} {l : Addr} {vs : List Value} {k : Int} {u : Tok} {v : Value} {q : Nat} (hl : s.heap.IsList l vs.toArray) (hk : k = (q : Int)) (hq : q < 2 ^ 20) (hx : vs[q]? = some v) (h : Q v s)
    (hs : subscripted slice false (.ref l) (.int k u) = operate [.ref l, .int k u] (getItem (.ref l) (.int k u)) := by with_unfolding_all rfl) : wpAny (model prog w) A (subscriptTail value slice (.ref l) (.int k u)) Q E s :=
  tail_list hl (by omega) (by omega) (by rw [hk, Int.toNat_natCast]; exact hx) h hs
theorem tail_last {prog : Program} {A : Around} {value slice : Expr} {l : Addr} {vs : List Value} {u : Tok} {v : Value} (hl : s.heap.IsList l vs.toArray) (hx : vs[vs.length - 1]? = some v) (h : Q v s)
    (hs : subscripted slice false (.ref l) (.int (-1) u) = operate [.ref l, .int (-1) u] (getItem (.ref l) (.int (-1) u)) := by with_unfolding_all rfl) : wpAny (model prog w) A (subscriptTail value slice (.ref l) (.int (-1) u)) Q E s := by
  have hlt := (List.getElem?_eq_some_iff.mp hx).1
  exact subscriptTail_builtinR hl.typeIs slot_list_getitem.lookup (wpAny_getItem_list_neg (Q := fun r s' => r = _ ∧ Q r s') hl (by decide) (by rw [List.size_toArray]; omega) (by decide) (by
    rw [List.size_toArray, show (-1 + (vs.length : Int)).toNat = vs.length - 1 by omega]
    simpa using hx) ⟨rfl, h⟩) hs
theorem list_in {h₀ h : Heap} {L l : Addr} {led : List (Addr × Obj)} {xs : List Value} {k : Nat} (N : News h₀ L h led) (hm : (l, listOf xs.toArray k) ∈ led) : h.IsList l xs.toArray := ⟨_, (N _ hm).1, rfl, _, rfl⟩
def deedF (k a b : Int) : Int := if k = 14 then a + b else if k = 15 then a - b else if k = 51 then b - a else -(a + b) - 1
def addNew (f : List Int) (v : Int) : List Int := if v ∈ f then f else f ++ [v]
def twoLoop (k one : Int) (twos f : List Int) : List Int := twos.foldl (fun f two => addNew f (deedF k one two)) f
def oneLoop (k : Int) (ones twos f : List Int) : List Int := ones.foldl (fun f one => twoLoop k one twos f) f
def cellAt (tab : List (List (List Int))) (i j : Nat) : List Int := (tab.getD i []).getD j []
def sizeLoop (k : Int) (tab : List (List (List Int))) (start n : Nat) : List Int :=
  (List.range n).foldl (fun f size => oneLoop k (cellAt tab size start) (cellAt tab (tab.length - size - 1) (start + size + 1)) f) []
def newLine (k : Int) (tab : List (List (List Int))) (n : Nat) : List (List Int) := (List.range (n - tab.length)).map fun start => sizeLoop k tab start tab.length
def tabF (k : Int) (ns : List Int) : Nat → List (List (List Int))
  | 0 => [ns.map fun a => [a]]
  | j + 1 => tabF k ns j ++ [newLine k (tabF k ns j) ns.length]
def resF (k : Int) (ns : List Int) : List Int := cellAt (tabF k ns (ns.length - 1)) (ns.length - 1) 0

def AllIn {α : Type} (P : Value → α → Prop) (xs : List Value) (cs : List α) : Prop := xs.length = cs.length ∧ ∀ (i : Nat) (u : Value) (c : α), xs[i]? = some u → cs[i]? = some c → P u c
theorem AllIn.nil {α : Type} {P : Value → α → Prop} : AllIn P [] [] := ⟨rfl, fun i u c h => by simp at h⟩
theorem AllIn.snoc {α : Type} {P : Value → α → Prop} {xs : List Value} {cs : List α} {u : Value} {c : α} (h : AllIn P xs cs) (hu : P u c) : AllIn P (xs ++ [u]) (cs ++ [c]) := by
  refine ⟨by simp [h.1], fun i u' c' h1 h2 => ?_⟩
  rcases Nat.lt_or_ge i xs.length with hi | hi
  · rw [List.getElem?_append_left hi] at h1
    rw [List.getElem?_append_left (h.1 ▸ hi)] at h2
    exact h.2 i u' c' h1 h2
  · rw [List.getElem?_append_right hi] at h1
    rw [List.getElem?_append_right (h.1 ▸ hi)] at h2
    have e : i - xs.length = 0 := by
      rcases Nat.eq_zero_or_pos (i - xs.length) with e | e
      · exact e
      · obtain ⟨j, hj⟩ : ∃ j, i - xs.length = j + 1 := ⟨i - xs.length - 1, by omega⟩
        rw [hj] at h1
        simp at h1
    rw [e] at h1
    rw [← h.1, e] at h2
    simp at h1 h2
    rw [← h1, ← h2]; exact hu
theorem AllIn.at' {α : Type} {P : Value → α → Prop} {xs : List Value} {cs : List α} (h : AllIn P xs cs) {i : Nat} {c : α} (hc : cs[i]? = some c) : ∃ u, xs[i]? = some u ∧ P u c := by
  have hi : i < xs.length := by rw [h.1]; exact (List.getElem?_eq_some_iff.mp hc).1
  exact ⟨xs[i], by simp [hi], h.2 i _ c (by simp [hi]) hc⟩
theorem AllIn.mono {α : Type} {P P' : Value → α → Prop} {xs : List Value} {cs : List α} (h : AllIn P xs cs) (hp : ∀ u c, P u c → P' u c) : AllIn P' xs cs := ⟨h.1, fun i u c h1 h2 => hp _ _ (h.2 i u c h1 h2)⟩

def LstIn (led : List (Addr × Obj)) (v : Value) (xs : List Value) : Prop := ∃ l k, v = .ref l ∧ (l, listOf xs.toArray k) ∈ led
def IntsIn (led : List (Addr × Obj)) (v : Value) (zs : List Int) : Prop := ∃ xs, LstIn led v xs ∧ IntsAre xs zs
def LineIn (led : List (Addr × Obj)) (v : Value) (cs : List (List Int)) : Prop := ∃ xs, LstIn led v xs ∧ AllIn (IntsIn led) xs cs
theorem LstIn.mono {led led' : List (Addr × Obj)} {v : Value} {xs : List Value} (h : LstIn led v xs) (hs : ∀ p ∈ led, p ∈ led') : LstIn led' v xs := by
  obtain ⟨l, k, rfl, hm⟩ := h; exact ⟨l, k, rfl, hs _ hm⟩
theorem IntsIn.mono {led led' : List (Addr × Obj)} {v : Value} {xs : List Int} (h : IntsIn led v xs) (hs : ∀ p ∈ led, p ∈ led') : IntsIn led' v xs := by
  obtain ⟨l, k, hm⟩ := h; exact ⟨l, k.mono hs, hm⟩
theorem LineIn.mono {led led' : List (Addr × Obj)} {v : Value} {xs : List (List Int)} (h : LineIn led v xs) (hs : ∀ p ∈ led, p ∈ led') : LineIn led' v xs := by
  obtain ⟨l, k, hm⟩ := h; exact ⟨l, k.mono hs, hm.mono fun _ _ h => h.mono hs⟩

theorem allLt_mem {d : Addr} : ∀ {l : List (Addr × Obj)}, AllLt d l → ∀ p ∈ l, p.1 < d
  | [], _, _, h => nomatch h
  | q :: r, h, p, hp => by
    rcases List.mem_cons.mp hp with rfl | hp
    · exact h.1
    · exact allLt_mem h.2 p hp
theorem off1_mem {D : Addr} : ∀ {l : List (Addr × Obj)}, LCg.Off1 D l → ∀ p ∈ l, p.1 ≠ D
  | [], _, _, h => nomatch h
  | q :: r, h, p, hp => by
    rcases List.mem_cons.mp hp with rfl | hp
    · exact h.1
    · exact off1_mem h.2 p hp
theorem off3_of {I C D : Addr} : ∀ {l : List (Addr × Obj)}, (∀ p ∈ l, p.1 ≠ I ∧ p.1 ≠ C ∧ p.1 ≠ D) → LCg.Off3 I C D l
  | [], _ => trivial
  | p :: _, h => ⟨h p (.head _), off3_of fun q hq => h q (.tail _ hq)⟩
theorem any_of_mem {l : List Int} {v : Int} (h : v ∈ l) : (l.any fun x => x == v) = true := by simpa using h
theorem off_one {D I : Addr} {o o' : Obj} {r : List (Addr × Obj)} (h : ∀ p ∈ (D, o) :: r, p.1 ≠ I) : ∀ p ∈ (D, o') :: r, p.1 ≠ I := fun p hp => by
  rcases List.mem_cons.mp hp with rfl | hp
  · exact h (D, o) (.head _)
  · exact h _ (.tail _ hp)
theorem off_two {q : Addr × Obj} {D I : Addr} {o o' : Obj} {r : List (Addr × Obj)} (h : ∀ p ∈ q :: (D, o) :: r, p.1 ≠ I) : ∀ p ∈ q :: (D, o') :: r, p.1 ≠ I := fun p hp => by
  rcases List.mem_cons.mp hp with rfl | hp
  · exact h _ (.head _)
  · exact off_one (fun p hp => h p (.tail _ hp)) p hp
theorem off_three {q q' : Addr × Obj} {D I : Addr} {o o' : Obj} {r : List (Addr × Obj)} (h : ∀ p ∈ q' :: q :: (D, o) :: r, p.1 ≠ I) : ∀ p ∈ q' :: q :: (D, o') :: r, p.1 ≠ I := fun p hp => by
  rcases List.mem_cons.mp hp with rfl | hp
  · exact h _ (.head _)
  · exact off_two (fun p hp => h p (.tail _ hp)) p hp
theorem small_six {n : Nat} (h : n ≤ 6) : Builtin.Range.small 0 (n : Int) 1 = true := by
  have : n = 0 ∨ n = 1 ∨ n = 2 ∨ n = 3 ∨ n = 4 ∨ n = 5 ∨ n = 6 := by omega
  rcases this with rfl | rfl | rfl | rfl | rfl | rfl | rfl <;> decide
theorem size_nat (n : Nat) : Builtin.Range.rangeSize 0 (n : Int) 1 = (n : Int) := by rw [rangeSize_one]; split <;> omega
theorem foldl_take_le {α β : Type} {g : List β → α → List β} (hg : ∀ f x, f.length ≤ (g f x).length) (l : List α) (i : Nat) (b : List β) : ((l.take i).foldl g b).length ≤ (l.foldl g b).length := by
  have hm : ∀ (l : List α) b, b.length ≤ (l.foldl g b).length := by
    intro l
    induction l with
    | nil => intro b; exact Nat.le_refl _
    | cons x r ih => intro b; exact Nat.le_trans (hg b x) (ih _)
  conv => rhs; rw [← List.take_append_drop i l, List.foldl_append]
  exact hm _ _
theorem addNew_le (f : List Int) (v : Int) : f.length ≤ (addNew f v).length := by unfold addNew; split <;> simp
theorem foldl_le {α β : Type} {g : List β → α → List β} (hg : ∀ f x, f.length ≤ (g f x).length) (l : List α) (b : List β) : b.length ≤ (l.foldl g b).length := by
  have := foldl_take_le hg l 0 b; simpa using this
theorem twoLoop_le (k one : Int) (twos f : List Int) : f.length ≤ (twoLoop k one twos f).length := foldl_le (fun f _ => addNew_le f _) twos f
theorem oneLoop_le (k : Int) (ones twos f : List Int) : f.length ≤ (oneLoop k ones twos f).length := foldl_le (fun f _ => twoLoop_le k _ twos f) ones f
theorem tabF_length (k : Int) (ns : List Int) : ∀ j, (tabF k ns j).length = j + 1
  | 0 => rfl
  | j + 1 => by rw [tabF, List.length_append, tabF_length k ns j]; rfl

theorem tabF_line (k : Int) (ns : List Int) : ∀ j i cs, (tabF k ns j)[i]? = some cs → cs.length = ns.length - i
  | 0, i, cs, h => by
    cases i with
    | zero => simp [tabF] at h; rw [← h]; simp
    | succ i => simp [tabF] at h
  | j + 1, i, cs, h => by
    rw [tabF] at h
    have hl := tabF_length k ns j
    rcases Nat.lt_or_ge i (j + 1) with hi | hi
    · rw [List.getElem?_append_left (by omega)] at h
      exact tabF_line k ns j i cs h
    · rw [List.getElem?_append_right (by omega), hl] at h
      obtain ⟨hlt, he⟩ := List.getElem?_eq_some_iff.mp h
      simp only [List.length_singleton] at hlt
      have e : i = j + 1 := by omega
      subst e
      simp at he
      rw [← he, newLine, hl]
      simp
theorem newLine_get {k : Int} {tab : List (List (List Int))} {n i : Nat} (h : i < n - tab.length) : (newLine k tab n)[i]? = some (sizeLoop k tab i tab.length) := by
  rw [newLine, List.getElem?_map, List.getElem?_range h]; rfl
theorem newLine_length {k : Int} {tab : List (List (List Int))} {n : Nat} : (newLine k tab n).length = n - tab.length := by simp [newLine]
theorem twoLoop_snoc {k one : Int} {twos f : List Int} {i : Nat} {y : Int} (h : twos[i]? = some y) : twoLoop k one (twos.take (i + 1)) f = addNew (twoLoop k one (twos.take i) f) (deedF k one y) := foldl_take_succ h
theorem oneLoop_snoc {k : Int} {ones twos f : List Int} {i : Nat} {x : Int} (h : ones[i]? = some x) : oneLoop k (ones.take (i + 1)) twos f = twoLoop k x twos (oneLoop k (ones.take i) twos f) := foldl_take_succ h
theorem sizeLoop_snoc {k : Int} {tab : List (List (List Int))} {start n : Nat} : sizeLoop k tab start (n + 1) = oneLoop k (cellAt tab n start) (cellAt tab (tab.length - n - 1) (start + n + 1)) (sizeLoop k tab start n) := by
  rw [sizeLoop, List.range_succ, List.foldl_append]; rfl
theorem sizeLoop_le {k : Int} {tab : List (List (List Int))} {start n n' : Nat} (h : n ≤ n') : (sizeLoop k tab start n).length ≤ (sizeLoop k tab start n').length := by
  induction h with
  | refl => exact Nat.le_refl _
  | step _ ih => exact Nat.le_trans ih (by rw [sizeLoop_snoc]; exact oneLoop_le _ _ _ _)
theorem cell_get {kind : Int} {ns : List Int} {tl : List (Addr × Obj)} {tv : List Value} {j i q : Nat} (hA : AllIn (LineIn tl) tv (tabF kind ns j)) (hi : i ≤ j) (hq : q < ns.length - i) :
    ∃ (l1 : Addr) (xs : List Value) (k1 : Nat) (l2 : Addr) (ys : List Value) (k2 : Nat), tv[i]? = some (.ref l1) ∧ (l1, listOf xs.toArray k1) ∈ tl ∧ xs[q]? = some (.ref l2) ∧ (l2, listOf ys.toArray k2) ∈ tl ∧ IntsAre ys (cellAt (tabF kind ns j) i q) := by
  have hlen := tabF_length kind ns j
  have hi' : i < (tabF kind ns j).length := by omega
  have h1 : (tabF kind ns j)[i]? = some (tabF kind ns j)[i] := by simp [hi']
  have hc := tabF_line kind ns j i _ h1
  refine Classical.byContradiction fun hG => ?_
  obtain ⟨u, hu, xs, ⟨l1, k1, rfl, m1⟩, hx⟩ := hA.at' h1
  have h2 : ((tabF kind ns j)[i])[q]? = some ((tabF kind ns j)[i])[q] := by rw [List.getElem?_eq_getElem (by omega)]
  obtain ⟨u2, hu2, ys, ⟨l2, k2, rfl, m2⟩, hy⟩ := hx.at' h2
  refine hG ?_
  clear hG
  refine ⟨l1, xs, k1, l2, ys, k2, hu, m1, hu2, m2, ?_⟩
  have e : cellAt (tabF kind ns j) i q = ((tabF kind ns j)[i])[q] := by
    unfold cellAt
    rw [List.getD_eq_getElem?_getD, List.getD_eq_getElem?_getD, h1, Option.getD_some, h2, Option.getD_some]
  rw [e]; exact hy

theorem nz0 (n : Nat) : (0 : Int) ≤ 0 + (n : Int) := by omega
theorem nz63 {n : Nat} (h : n < 2 ^ 20) : 0 + (n : Int) < 2 ^ 63 := by omega
theorem nzN (n : Nat) : (0 + (n : Int)).toNat = n := by omega
theorem nsub {a b : Nat} (h : b ≤ a) : (a : Int) - (b : Int) = ((a - b : Nat) : Int) := by omega
theorem idx1 {t z : Nat} (hz : z < t) : (t : Int) - (0 + (z : Int)) - 1 = ((t - z - 1 : Nat) : Int) := by omega
theorem idx2 (i z : Nat) : (0 + (i : Int)) + (0 + (z : Int)) + 1 = ((i + z + 1 : Nat) : Int) := by omega
theorem idx3 (i z : Nat) : (0 + (i : Int)) + (0 + (z : Int)) = ((i + z : Nat) : Int) := by omega
theorem idxT {j n t l : Nat} (hj : j + 1 + n = l) (ht : t = j + 1) (hl : l ≤ 6) : t ≤ 6 ∧ t ≤ l := by omega
theorem idxJ {j t v l : Nat} (h : (t : Int) < (v : Int)) (ht : t = j + 1) (hv : v = l) : j + 1 < l := by omega
theorem idxE {j n t v l : Nat} (h : ¬ (t : Int) < (v : Int)) (ht : t = j + 1) (hv : v = l) (hj : j + 1 + n = l) : j + 1 = l := by omega
theorem idxI {j t i l : Nat} (ht : t = j + 1) (hi : i < l - t) (hl : l ≤ 6) : i < l - (j + 1) ∧ i < 2 ^ 20 ∧ i ≤ 6 := by omega
theorem idxW {j n l : Nat} (hj : j + 1 + n = l) (h : j + 1 < l) : n - 1 < n ∧ j + 1 + 1 + (n - 1) = l := by omega
theorem idxZ {j t z : Nat} (ht : t = j + 1) (hz : z < t) (h6 : t ≤ 6) : z ≤ j ∧ t - z - 1 ≤ j ∧ z < 2 ^ 20 ∧ t - z - 1 < 2 ^ 20 ∧ z + 1 ≤ j + 1 := by omega
theorem idxC {j t z i l : Nat} (ht : t = j + 1) (hi : i < l - t) (hz : z < t) (hl : l ≤ 6) : i < l - z ∧ i + z + 1 < l - (t - z - 1) ∧ i + z + 1 < 2 ^ 20 ∧ i + z < 2 ^ 20 ∧ i + z < l - 1 := by omega
theorem idxL {j t l : Nat} (ht : t = j + 1) (h : j + 1 = l) : 0 < l - j ∧ t - 1 = j ∧ j = l - 1 := by omega
theorem deed_spec {kind x y : Int} {t0 t1 t2 : Tok}
    (B : Below A₀ base outer h₀) (F : Fr h₀ L s.heap m) (X : (Mine.hd.heap_1 w.params).In h₀) (T : Top p loose mean mg mb h₀) (hk : cs.kind = .function)
    (hdp : dp < 600)
    (ret : ∀ z t h' tk', z = deedF kind x y → (∀ b o, s.heap.get? b = some o → h'.get? b = some o) → Q (.int z t) { s with heap := h', toks := tk' }) :
    wpAny (model Pr w) (ktrTop dp un gd cn cs L a ccd cl outer) (call (.ref 134) [.int kind t0, .int x t1, .int y t2]) Q E s := by
  walk_at "mine fill"
  refine wpAny_call ?_
  k_dflt walk_at "mine enter"
  (try k_fold)
  k_steps
  all_goals exact ret _ _ _ _ (by first | (rw [deedF, if_neg (by assumption), if_neg (by assumption), if_neg (by assumption)]; rfl) | (unfold deedF; simp [*])) (Fr.keep (by assumption))

local macro_rules | `(tactic| k_all) => `(tactic| assumption)
local macro_rules | `(tactic| walk_at "call builtin:list.append") => `(tactic| (k_here; k_dflt (refine' append_K ?k1 ?k2 ?k3 ?_ ?z; (case k1 => k_asm); (case k2 => k_asm); (case k3 => k_upd); (case z => ((rw [PySem.sizeLine_eq]); (simp only [List.size_toArray]); omega)); k_whole); intro h' F' N'; (try k_sweep)))
local macro_rules | `(tactic| walk_at "call ref") => `(tactic| (k_here; k_dflt (refine' Mine.deed_spec ?k1 ?k2 ?k3 ?k4 ?k5 ?k6 ?_; walk_at "mine site"; intro x9 t9 h9 tk9 e9 k9; (have F9 := Fr.keeps (by k_asm) k9); (have N9 := News.grown (by k_asm) k9); (try dsimp only))))
theorem results_spec {kind : Int} {lk ln : Addr} {vk vn : List Value} {ns : List Int}
    (B : Below A₀ base outer h₀) (F : Fr h₀ L s.heap m) (X : (Mine.hd.heap_1 w.params).In h₀) (T : Top p loose mean mg mb h₀) (hk : cs.kind = .function)
    (hdp : dp < 500) (hlk : s.heap.IsList lk vk.toArray) (hln : s.heap.IsList ln vn.toArray) (iK : IntsAre vk (List.replicate (ns.length - 1) kind)) (iN : IntsAre vn ns)
    (hn : 1 ≤ ns.length) (hn' : ns.length ≤ 6) (hfit : ∀ j, j + 1 < ns.length → ∀ c ∈ newLine kind (tabF kind ns j) ns.length, c.length < 2 ^ 20)
    (ret : ∀ D ys k h' tk', IntsAre ys (resF kind ns) → (∀ b o, s.heap.get? b = some o → h'.get? b = some o) → s.heap.get? D = none → h'.get? D = some { cls := .type "list", data := .seq ys.toArray k } → Q (.ref D) { s with heap := h', toks := tk' }) :
    wpAny (model Pr w) (ktrTop dp un gd cn cs L a ccd cl outer) (call (.ref 139) [.ref lk, .ref ln]) Q E s := by
  walk_at "mine fill"
  refine wpAny_call ?_
  k_dflt walk_at "mine enter"
  have hvk := iK.length
  have hvn := iN.length
  rw [List.length_replicate] at hvk
  (try k_fold)
  k_steps
  unfold Stop
  rename_i Lc hE FE BE XE TE NE
  have hvn6 : vn.length ≤ 6 := hvn ▸ hn'
  replace hvn : Stop (vn.length = ns.length) := hvn
  refine LCg.CompSrc.base rfl (by assumption) (by assumption) hln (by rw [List.size_toArray, sizeLine_eq]; exact Nat.le_trans hvn6 (by decide)) ?_
  intro g
  refine compRest_v (fun i ys nw => AllIn (IntsIn nw) ys ((ns.take i).map fun a => [a])) (fun i ys nw _ => .inl hln) ?_ ?_ .nil
  · intro i ys nw v I oI C oC D m₂ h tk E' hi hJ hv hC hx F₂ N₂ off ne
    refine Classical.byContradiction fun hG => ?_
    obtain ⟨x, t, hx1, rfl⟩ := IntsAre.at' iN (by simpa using hv)
    refine hG ?_
    clear hG
    (try k_fold)
    k_steps
    rename_i l' _ F' N' l1
    refine EltEndV.mk ((l', listOf [Value.int x t].toArray 0) :: nw) F' (News.sub N' (by
      intro p hp
      simp only [List.mem_cons] at hp ⊢
      rcases hp with rfl | rfl | rfl | rfl | hp
      · exact .inr (.inl rfl)
      · exact .inr (.inr (.inl rfl))
      · exact .inr (.inr (.inr (.inl rfl)))
      · exact .inl rfl
      · exact .inr (.inr (.inr (.inr hp))))) ⟨⟨Nat.ne_of_gt l1.1, Nat.ne_of_gt l1.2.1, Nat.ne_of_gt l1.2.2.1⟩, off⟩ ?_
    rw [List.take_add_one, hx1, List.map_append]
    exact (hJ.mono fun _ _ h => h.mono fun p hp => .tail _ hp).snoc ⟨_, ⟨l', 0, rfl, .head _⟩, .cons _ _ .nil⟩
  · intro ys nw hJ D₃ h₃ tk₃ F₃ N₃ o₃
    rw [List.size_toArray, show vn.length = ns.length from hvn, List.take_length] at hJ
    dsimp only
    (try k_fold)
    k_steps
    unfold Stop
    rename_i TT hT1 lT hT2 FT NT
    have lT' := allLt_mem lT.2
    have o1 := off1_mem o₃
    refine While_inv (fun n m₁ news₁ => ∃ TT tv kT tl j, m₁ (Str.ofString "table") = some (.ref TT) ∧ m₁ (Str.ofString "numbers") = some (.ref ln) ∧ m₁ (Str.ofString "kinds") = some (.ref lk) ∧ news₁ = (TT, listOf tv.toArray kT) :: tl ∧ (∀ p ∈ tl, p.1 ≠ TT) ∧
      AllIn (LineIn tl) tv (tabF kind ns j) ∧ j + 1 + n = ns.length) (n₀ := ns.length - 1) FT NT ?hJ ?hT 
    case hJ =>
      refine ⟨TT, [_], 0, _, 0, rfl, rfl, rfl, rfl, fun p hp => ?_, ?_, (by rw [Nat.zero_add]; exact Nat.add_sub_cancel' hn)⟩
      rotate_left
      · exact AllIn.nil.snoc ⟨_, ⟨D₃, _, rfl, .head _⟩, hJ.mono fun _ _ h => h.mono fun p hp => .tail _ hp⟩
      · rcases List.mem_cons.mp hp with rfl | hp
        · exact Nat.ne_of_lt lT.1
        · exact Nat.ne_of_lt (lT' p hp)
    intro n m₁ news₁ h₁ tk₁ F₁ N₁ hI9
    refine Classical.byContradiction fun hG => ?_
    obtain ⟨TT, tv, kT, tl, j, e1, e2, e3, rfl, off, hA, hj⟩ := hI9
    refine hG ?_
    clear hG
    have htv := hA.1
    rw [tabF_length] at htv
    obtain ⟨ht6, hle⟩ := idxT hj htv hn'
    replace hj : Stop (j + 1 + n = ns.length) := hj
    replace htv : Stop (tv.length = j + 1) := htv
    k_steps
    · rename_i LL _ lLL _ FL NL _ _ _ t₁ u₁ v₁ hIR FR NR hkR
      have hLT : ∀ p ∈ (TT, listOf tv.toArray kT) :: tl, p.1 ≠ LL := fun p hp => by
        rcases List.mem_cons.mp hp with rfl | hp
        · exact Nat.ne_of_lt lLL.1
        · exact Nat.ne_of_lt (allLt_mem lLL.2 p hp)
      have hjn : j + 1 < ns.length := by
        exact idxJ (show (tv.length : Int) < (vn.length : Int) by assumption) htv hvn
      replace hjn : Stop (j + 1 < ns.length) := hjn
      refine iter_range (n := ns.length - tv.length) (fun i m' news' => ∃ lv kL tl', m' (Str.ofString "line") = some (.ref LL) ∧ m' (Str.ofString "table") = some (.ref TT) ∧ m' (Str.ofString "numbers") = some (.ref ln) ∧ m' (Str.ofString "kinds") = some (.ref lk) ∧
        news' = (LL, listOf lv.toArray kL) :: (TT, listOf tv.toArray kT) :: tl' ∧ (∀ p ∈ tl, p ∈ tl') ∧ (∀ p ∈ tl', p.1 ≠ LL ∧ p.1 ≠ TT) ∧
        AllIn (IntsIn tl') lv ((newLine kind (tabF kind ns j) ns.length).take i)) rfl FR NR hIR (by rw [nsub hle]; exact small_six (Nat.le_trans (Nat.sub_le _ _) hn')) (by rw [nsub hle]; exact size_nat _) ?_ ?_ ?_
      · exact ⟨[], 0, tl, rfl, e1, e2, e3, rfl, fun _ h => h, fun p hp => ⟨hLT p (.tail _ hp), off p hp⟩, .nil⟩
      · intro i ti m₂ news₂ h₂ tk₂ I oI hi hJ₂ offI F₂ N₂
        refine Classical.byContradiction fun hG => ?_
        obtain ⟨lv, kL, tl', f1, f2, f3, f4, rfl, hsub, offL, hL⟩ := hJ₂
        refine hG ?_
        clear hG
        (try k_fold)
        k_steps
        rename_i FF _ _ _ lFF _ FG NG _ _ _ t₂ u₂ v₂ hIR2 FR2 NR2 hkR2
        obtain ⟨hi1, hi20, hi6⟩ := idxI htv hi hn'
        replace hi : Stop (i < ns.length - tv.length) := hi
        replace hi1 : Stop (i < ns.length - (j + 1)) := hi1
        have hFFl : @Ne Nat FF LL := Nat.ne_of_gt lFF.2.1
        have hFFt : @Ne Nat FF TT := Nat.ne_of_gt lFF.2.2.1
        have hFFi : @Ne Nat FF I := Nat.ne_of_gt lFF.1
        have hIL : @Ne Nat LL I := offI _ (.head _)
        have hIT : @Ne Nat TT I := offI _ (.tail _ (.head _))
        have hLT' : @Ne Nat TT LL := hLT _ (.head _)
        have hFF : ∀ p ∈ tl', p.1 ≠ FF := fun p hp => Nat.ne_of_lt (allLt_mem lFF.2.2.2 p hp)
        have hLL : ∀ p ∈ tl', p.1 ≠ LL := fun p hp => (offL p hp).1
        have hTT : ∀ p ∈ tl', p.1 ≠ TT := fun p hp => (offL p hp).2
        have hII : ∀ p ∈ tl', p.1 ≠ I := fun p hp => offI p (.tail _ (.tail _ hp))
        have hfin : sizeLoop kind (tabF kind ns j) i (tabF kind ns j).length ∈ newLine kind (tabF kind ns j) ns.length := List.mem_of_getElem? (newLine_get (by rw [tabF_length]; exact hi1))
        have hfin' := hfit j hjn _ hfin
        refine iter_range (n := tv.length) (fun z m' news' => ∃ fv kF, m' (Str.ofString "found") = some (.ref FF) ∧ m' (Str.ofString "start") = some (.int (0 + (i : Int)) ti) ∧ m' (Str.ofString "line") = some (.ref LL) ∧ m' (Str.ofString "table") = some (.ref TT) ∧ m' (Str.ofString "numbers") = some (.ref ln) ∧ m' (Str.ofString "kinds") = some (.ref lk) ∧
          news' = (FF, listOf fv.toArray kF) :: (I, oI) :: (LL, listOf lv.toArray kL) :: (TT, listOf tv.toArray kT) :: tl' ∧ IntsAre fv (sizeLoop kind (tabF kind ns j) i z)) rfl FR2 NR2 hIR2 (small_six ht6) (size_nat tv.length) ?_ ?_ ?_
        · exact ⟨[], 0, rfl, rfl, f1, f2, f3, f4, rfl, .nil⟩
        · intro z tz m₃ news₃ h₃ tk₃ Z oZ hz hJ₃ offZ F₃ N₃
          refine Classical.byContradiction fun hG => ?_
          obtain ⟨x1, x2, x3, x4, x5⟩ := idxZ htv hz ht6
          obtain ⟨y1, y2, y3, y4, y5⟩ := idxC htv hi hz hn'
          replace hz : Stop (z < tv.length) := hz
          obtain ⟨fv, kF, g1, g2, g3, g4, g5, g6, rfl, hfv⟩ := hJ₃
          obtain ⟨l1, xs1, k1, l2, xs2, k2, c1, c2, c3, c4, c5⟩ := cell_get hA (i := z) (q := i) x1 y1
          obtain ⟨l3, xs3, k3, l4, xs4, k4, d1, d2, d3, d4, d5⟩ := cell_get hA (i := tv.length - z - 1) (q := i + z + 1) x2 y2
          refine hG ?_
          clear hG
          (try k_fold)
          k_steps
          unfold Stop
          refine tail_list (v := .ref l1) (by is_list) (nz0 z) (nz63 x3) (by rw [nzN]; exact c1) ?_
          k_steps
          unfold Stop
          refine tail_list (v := .ref l2) (list_in (by assumption) (List.mem_cons_of_mem _ (List.mem_cons_of_mem _ (List.mem_cons_of_mem _ (List.mem_cons_of_mem _ (List.mem_cons_of_mem _ (hsub _ c2))))))) (nz0 i) (nz63 hi20) (by rw [nzN]; exact c3) ?_
          k_steps
          refine iter_list (fun u m' news' => ∃ fv kF, m' (Str.ofString "found") = some (.ref FF) ∧ m' (Str.ofString "start") = some (.int (0 + (i : Int)) ti) ∧ m' (Str.ofString "line") = some (.ref LL) ∧ m' (Str.ofString "table") = some (.ref TT) ∧ m' (Str.ofString "numbers") = some (.ref ln) ∧ m' (Str.ofString "kinds") = some (.ref lk) ∧ m' (Str.ofString "size") = some (.int (0 + (z : Int)) tz) ∧
            news' = (Z, oZ) :: (FF, listOf fv.toArray kF) :: (I, oI) :: (LL, listOf lv.toArray kL) :: (TT, listOf tv.toArray kT) :: tl' ∧
            IntsAre fv (oneLoop kind ((cellAt (tabF kind ns j) z i).take u) (cellAt (tabF kind ns j) (tv.length - z - 1) (i + z + 1)) (sizeLoop kind (tabF kind ns j) i z))) rfl (by assumption) (by assumption) (.inr ⟨_, .tail _ (.tail _ (.tail _ (.tail _ (.tail _ (hsub _ c4))))), rfl, _, rfl⟩) ?_ ?_ ?_ ?_
          · exact ⟨fv, kF, g1, g2, g3, g4, g5, g6, rfl, rfl, hfv⟩
          · rintro u m' nw ⟨_, _, _, _, _, _, _, _, _, rfl, _⟩
            exact .inr ⟨_, .tail _ (.tail _ (.tail _ (.tail _ (.tail _ (hsub _ c4))))), rfl, _, rfl⟩
          · intro u vu m₄ news₄ h₄ tk₄ U oU hu hJ₄ offU F₄ N₄
            refine Classical.byContradiction fun hG => ?_
            obtain ⟨fv, kF, a1, a2, a3, a4, a5, a6, a7, rfl, hfv⟩ := hJ₄
            obtain ⟨one, tone, hone, rfl⟩ := IntsAre.at' c5 (by simpa using hu)
            refine hG ?_
            clear hG
            (try k_fold)
            k_steps
            unfold Stop
            refine tail_at (q := tv.length - z - 1) (v := .ref l3) (by is_list) (by first | exact idx1 hz | ((simp only [List.size_toArray]); exact idx1 hz)) x4 d1 ?_
            k_steps
            unfold Stop
            refine tail_at (q := i + z + 1) (v := .ref l4) (list_in (by assumption) (.tail _ (.tail _ (.tail _ (.tail _ (.tail _ (.tail _ (hsub _ d2)))))))) (idx2 i z) y3 d3 ?_
            k_steps
            refine iter_list (fun y m' news' => ∃ fv kF, m' (Str.ofString "found") = some (.ref FF) ∧ m' (Str.ofString "start") = some (.int (0 + (i : Int)) ti) ∧ m' (Str.ofString "line") = some (.ref LL) ∧ m' (Str.ofString "table") = some (.ref TT) ∧ m' (Str.ofString "numbers") = some (.ref ln) ∧ m' (Str.ofString "kinds") = some (.ref lk) ∧ m' (Str.ofString "size") = some (.int (0 + (z : Int)) tz) ∧ m' (Str.ofString "one") = some (.int one tone) ∧
              news' = (U, oU) :: (Z, oZ) :: (FF, listOf fv.toArray kF) :: (I, oI) :: (LL, listOf lv.toArray kL) :: (TT, listOf tv.toArray kT) :: tl' ∧
              IntsAre fv (twoLoop kind one ((cellAt (tabF kind ns j) (tv.length - z - 1) (i + z + 1)).take y) (oneLoop kind ((cellAt (tabF kind ns j) z i).take u) (cellAt (tabF kind ns j) (tv.length - z - 1) (i + z + 1)) (sizeLoop kind (tabF kind ns j) i z)))) rfl (by assumption) (by assumption) (.inr ⟨_, .tail _ (.tail _ (.tail _ (.tail _ (.tail _ (.tail _ (hsub _ d4)))))), rfl, _, rfl⟩) ?_ ?_ ?_ ?_
            · exact ⟨fv, kF, a1, a2, a3, a4, a5, a6, a7, rfl, rfl, hfv⟩
            · rintro y m' nw ⟨_, _, _, _, _, _, _, _, _, _, rfl, _⟩
              exact .inr ⟨_, .tail _ (.tail _ (.tail _ (.tail _ (.tail _ (.tail _ (hsub _ d4)))))), rfl, _, rfl⟩
            · intro y vy m₅ news₅ h₅ tk₅ Y oY hy hJ₅ offY F₅ N₅
              refine Classical.byContradiction fun hG => ?_
              obtain ⟨fv, kF, b1, b2, b3, b4, b5, b6, b7, b8, rfl, hfv⟩ := hJ₅
              obtain ⟨two, ttwo, htwo, rfl⟩ := IntsAre.at' d5 (by simpa using hy)
              obtain ⟨tkk, hkk⟩ := iK.get (i + z) kind (by rw [List.getElem?_replicate, if_pos y5])
              have hYF : @Ne Nat FF Y := offY _ (.tail _ (.tail _ (.head _)))
              have hUF : @Ne Nat FF U := offU _ (.tail _ (.head _))
              have hZF : @Ne Nat FF Z := offZ _ (.head _)
              have hsz : fv.length < 2 ^ 20 := by
                rw [hfv.length]
                refine Nat.lt_of_le_of_lt (foldl_take_le (fun f _ => addNew_le f _) _ _ _) (Nat.lt_of_le_of_lt (Nat.le_of_eq (congrArg List.length (oneLoop_snoc hone).symm)) (Nat.lt_of_le_of_lt (foldl_take_le (fun f _ => twoLoop_le kind _ _ f) _ _ _) (Nat.lt_of_le_of_lt (Nat.le_of_eq (congrArg List.length ?_)) (Nat.lt_of_le_of_lt (sizeLoop_le (n := z + 1) (n' := (tabF kind ns j).length) (by rw [tabF_length]; exact x5)) hfin'))))
                rw [sizeLoop_snoc, show (tabF kind ns j).length = tv.length from hA.1.symm]
                rfl
              refine hG ?_
              clear hG
              (try k_fold)
              k_steps
              unfold Stop
              refine tail_at (q := i + z) (v := .int kind tkk) (by is_list) (idx3 i z) y4 hkk ?_
              k_steps
              · rename_i ha
                refine MTurnEnd.mk ((U, oU) :: (Z, oZ) :: (FF, listOf fv.toArray kF) :: (I, oI) :: (LL, listOf lv.toArray kL) :: (TT, listOf tv.toArray kT) :: tl') (by assumption) (by assumption) (off_three offY) ?_
                refine ⟨fv, kF, b1, b2, b3, b4, b5, b6, b7, b8, rfl, ?_⟩
                rw [twoLoop_snoc htwo, ← (show _ = deedF kind one two by assumption), addNew, if_pos (by simpa using ha)]
                exact hfv
              · rename_i ha _ F5 N5
                rw [List.push_toArray] at N5
                refine MTurnEnd.mk ((U, oU) :: (Z, oZ) :: (FF, listOf _ (kF + 1)) :: (I, oI) :: (LL, listOf lv.toArray kL) :: (TT, listOf tv.toArray kT) :: tl') F5 N5 (off_three offY) ?_
                refine ⟨_, kF + 1, b1, b2, b3, b4, b5, b6, b7, b8, rfl, ?_⟩
                rw [twoLoop_snoc htwo, ← (show _ = deedF kind one two by assumption), addNew, if_neg (fun hm => by (have hb := any_of_mem hm); rw [hb] at ha; cases ha)]
                exact ints_snoc hfv
            · intro m₅ news₅ h₅ tk₅ hJ₅ F₅ N₅
              refine Classical.byContradiction fun hG => ?_
              obtain ⟨fv, kF, b1, b2, b3, b4, b5, b6, b7, b8, rfl, hfv⟩ := hJ₅
              rw [List.size_toArray, d5.length, List.take_length, ← oneLoop_snoc hone] at hfv
              refine hG ?_
              clear hG
              (try k_fold)
              k_steps
              exact MTurnEnd.mk _ F₅ N₅ (off_two offU) ⟨fv, kF, b1, b2, b3, b4, b5, b6, b7, rfl, hfv⟩
          · intro m₄ news₄ h₄ tk₄ hJ₄ F₄ N₄
            refine Classical.byContradiction fun hG => ?_
            obtain ⟨fv, kF, a1, a2, a3, a4, a5, a6, a7, rfl, hfv⟩ := hJ₄
            rw [List.size_toArray, c5.length, List.take_length, show tv.length = (tabF kind ns j).length from hA.1, ← sizeLoop_snoc] at hfv
            refine hG ?_
            clear hG
            (try k_fold)
            k_steps
            exact MTurnEnd.mk _ F₄ N₄ (off_one offZ) ⟨fv, kF, a1, a2, a3, a4, a5, a6, rfl, hfv⟩
        · intro m₃ news₃ h₃ tk₃ hJ₃ F₃ N₃
          refine Classical.byContradiction fun hG => ?_
          obtain ⟨fv, kF, g1, g2, g3, g4, g5, g6, rfl, hfv⟩ := hJ₃
          have hfvl := hfv.length
          rw [tabF_length] at hfin'
          rw [show tv.length = j + 1 from htv] at hfvl hfv
          have hlv := hL.1
          rw [List.length_take] at hlv
          have hlv6 : lv.length ≤ 6 := hlv ▸ Nat.le_trans (Nat.min_le_left _ _) hi6
          clear hlv
          refine hG ?_
          clear hG
          (try k_fold)
          k_steps
          rename_i F5 N5
          rw [List.push_toArray] at N5
          refine MTurnEnd.mk ((LL, listOf (lv ++ [Value.ref FF]).toArray (kL + 1)) :: (TT, listOf tv.toArray kT) :: (FF, listOf fv.toArray kF) :: tl') F5 (News.sub N5 fun p hp => ?_) (fun p hp => ?_) ⟨lv ++ [Value.ref FF], kL + 1, (FF, listOf fv.toArray kF) :: tl', g3, g4, g5, g6, rfl, fun p hp => .tail _ (hsub p hp), fun p hp => ?_, ?_⟩
          · revert p
            walk_at "mine subs"
          · revert p
            exact List.forall_mem_cons.mpr ⟨hIL, List.forall_mem_cons.mpr ⟨hIT, List.forall_mem_cons.mpr ⟨hFFi, hII⟩⟩⟩
          · rcases List.mem_cons.mp hp with rfl | h
            · exact ⟨hFFl, hFFt⟩
            · exact offL p h
          · rw [List.take_add_one, newLine_get (by rw [tabF_length]; exact hi1)]
            exact (hL.mono fun _ _ h => h.mono fun p hp => .tail _ hp).snoc ⟨fv, ⟨FF, kF, rfl, .head _⟩, by rw [tabF_length]; exact hfv⟩
      · intro m₂ news₂ h₂ tk₂ hJ₂ F₂ N₂
        refine Classical.byContradiction fun hG => ?_
        obtain ⟨lv, kL, tl', f1, f2, f3, f4, rfl, hsub, offL, hL⟩ := hJ₂
        have hLT' : @Ne Nat TT LL := hLT _ (.head _)
        have hTT : ∀ p ∈ tl', p.1 ≠ TT := fun p hp => (offL p hp).2
        refine hG ?_
        clear hG
        (try k_fold)
        k_steps
        rename_i F5 N5
        rw [List.push_toArray] at N5
        rw [List.take_of_length_le (by rw [newLine_length, ← hA.1]; exact Nat.le_refl _)] at hL
        refine WhileStep.intro (n' := n - 1) F5 (News.sub (b := (TT, listOf (tv ++ [Value.ref LL]).toArray (kT + 1)) :: (LL, listOf lv.toArray kL) :: tl') N5 fun p hp => ?_) (idxW hj hjn).1 ⟨TT, tv ++ [Value.ref LL], kT + 1, (LL, listOf lv.toArray kL) :: tl', j + 1, f2, f3, f4, rfl, fun p hp => ?_, ?_, (idxW hj hjn).2⟩
        · revert p
          walk_at "mine subs"
        · rcases List.mem_cons.mp hp with rfl | h
          · exact Ne.symm hLT'
          · exact hTT p h
        · rw [tabF]
          exact (hA.mono fun _ _ h => h.mono fun p hp => .tail _ (hsub p hp)).snoc ⟨lv, ⟨LL, kL, rfl, .head _⟩, hL.mono fun _ _ h => h.mono fun p hp => .tail _ hp⟩
    · (try k_fold)
      k_steps
      unfold Stop
      have hjn : j + 1 = ns.length := by
        exact idxE (show ¬ (tv.length : Int) < (vn.length : Int) by assumption) htv hvn hj
      obtain ⟨w1, w2, w3⟩ := idxL htv hjn
      refine Classical.byContradiction fun hG => ?_
      obtain ⟨l1, xs1, k1, l2, xs2, k2, c1, c2, c3, c4, c5⟩ := cell_get hA (i := j) (q := 0) (Nat.le_refl _) w1
      refine hG ?_
      clear hG
      refine tail_last (v := .ref l1) (by is_list) (by rw [w2]; exact c1) ?_
      k_steps
      unfold Stop
      refine tail_list (v := .ref l2) (list_in (by assumption) (.tail _ c2)) (by decide) (by decide) c3 ?_
      k_steps
      have N9 := N₁ _ (List.mem_cons_of_mem _ c4)
      exact ret l2 xs2 k2 _ _ (by rw [resF, ← w3]; exact c5) (Fr.keep F₁) N9.2.2 N9.1
end
end
section -- En
open PySem PySem.W PyProof.Rows PySem.Calls PySem.Spec
set_option maxRecDepth 100000
open PyProof.Rows.LCg (NsObj lst SrcAt FinA ns_obj lst_snoc)

theorem off1_of {D : Addr} : ∀ {l : List (Addr × Obj)}, (∀ p ∈ l, p.1 ≠ D) → LCg.Off1 D l
  | [], _ => trivial
  | p :: _, h => ⟨h p (.head _), off1_of fun q hq => h q (.tail _ hq)⟩

section
variable {prog : Program} {w : World} {A : Around} {E : Value → Shared → Prop} {s : Shared} {h₀ : Heap} {L : Addr} {m : Str → Option Value} {env : Env}

theorem compE_block {elt iter : Expr} {a b : Str} {pa pb tp : Pos} {kk : Nat} {scope : Scope} {cl : List (Str × Addr)} {pos : Pos} {s₂ : Shared} {e it l : Addr} {its : Array Value} {news : List (Addr × Obj)}
    (J : Nat → List Value → Prop) {RR : Value → Addr → Result → Shared → Prop}
    (hh : A.handled = none) (he : IsEnum s₂.heap e it 0 .none) (hi : s₂.heap.IsListIter it l 0) (src : SrcAt h₀ l its news) (hsz : its.size ≤ sizeLine)
    (hei : e ≠ it) (hle : l ≠ e) (hli : l ≠ it)
    (hcell : ∀ y ∈ scope.names, y.2 ≠ .cell) (hkind : scope.kind = .function) (hxa : scope.names.lookup a = some .local) (hxb : scope.names.lookup b = some .local) (hab : ¬ a = b)
    (F : Fr h₀ L s₂.heap m) (N : News h₀ L s₂.heap news) (hLe : L ≠ e) (hLi : L ≠ it) (he₀ : h₀.get? e = none) (hi₀ : h₀.get? it = none) (off : ∀ p ∈ news, p.1 ≠ e ∧ p.1 ≠ it)
    (step : ∀ i ys v t C oC D oe oit m₂ h tk, its[i]? = some v → J i ys → NsObj oC m₂ → m₂ a = some (.int (i : Nat) t) → m₂ b = some v → Fr h₀ L h m →
      News h₀ L h ((C, oC) :: (D, lst ys) :: (e, oe) :: (it, oit) :: news) → ((@Ne Nat C D) ∧ (@Ne Nat C e) ∧ (@Ne Nat C it) ∧ (@Ne Nat D e) ∧ (@Ne Nat D it) ∧ (@Ne Nat e it)) → (∀ p ∈ news, (@Ne Nat p.1 C) ∧ (@Ne Nat p.1 D)) →
      wpAny (model prog w) A (eval elt (compEnvC scope cl C env)) (fun y s₃ => EltEnd { s₂ with heap := h, toks := tk } h₀ L m ((C, oC) :: (D, lst ys) :: (e, oe) :: (it, oit) :: news) (J (i + 1) (ys ++ [y])) s₃) (fun _ _ => False) { s₂ with heap := h, toks := tk })
    (j0 : J 0 [])
    (hRR : ∀ D C h tk m' ys, Fr h₀ L h m → News h₀ L h ((D, lst ys) :: news) → (∀ p ∈ news, @LT.lt Nat _ p.1 D) → h.Ns C m' → h₀.get? C = none → C ≠ L → C ≠ D → (∀ p ∈ news, p.1 ≠ C) → J its.size ys → RR (.ref D) C (.ok .next) { s₂ with heap := h, toks := tk }) :
    wpAny (model prog w) A (newList []) (fun acc s₃ => wpAny (model prog w) A (newFunctionEnv scope env.globals cl [] env.qual none .none (some env)) (fun cenv s₄ =>
      codeAny (model prog w) A (.compStart (.ListComp elt [⟨.Tuple [.Name a pa, .Name b pb] kk tp, iter, [], 0⟩] scope pos) 0 (.ref e) acc { cenv with scope := relabel scope env }) (RR acc cenv.locals) s₄) E s₃) E s₂ := by
  refine wpAny_newObj_type (wpAny_newFunctionEnv hcell (by intro y hy; simp at hy) (fun h₁ hns₁ hsb₁ => ?_) hkind)
  dsimp only at hns₁ hsb₁ ⊢
  generalize hH2 : s₂.heap.push { cls := .type "list", dict := none, data := .seq ([] : List Value).toArray } = H2 at hns₁ hsb₁ ⊢
  have hC : H2.objs.size = s₂.heap.objs.size + 1 := by rw [← hH2, Heap.size_push]
  have hDC : s₂.heap.objs.size ≠ H2.objs.size := by rw [hC]; exact Nat.ne_of_lt (Nat.lt_succ_self _)
  have below : ∀ b, b < s₂.heap.objs.size → b ≠ H2.objs.size ∧ b ≠ s₂.heap.objs.size := fun b hb => ⟨by rw [hC]; exact Nat.ne_of_lt (Nat.lt_succ_of_lt hb), Nat.ne_of_lt hb⟩
  have hl₀ : s₂.heap.IsList l its := src.list F.keep N
  have helt : e < s₂.heap.objs.size := Heap.lt_size he
  have hilt : it < s₂.heap.objs.size := by obtain ⟨_, x, _⟩ := id hi; exact Heap.lt_size x
  have hllt : l < s₂.heap.objs.size := by obtain ⟨_, x, _⟩ := id hl₀; exact Heap.lt_size x
  have old : ∀ b o, s₂.heap.get? b = some o → h₁.get? b = some o := fun b o x => hsb₁.extBut b o (below b (Heap.lt_size x)).1 (Heap.get?_push_of_some _ (hH2 ▸ Heap.get?_push_of_some _ x))
  have hacc : h₁.get? s₂.heap.objs.size = some (lst []) := hsb₁.extBut _ _ hDC (Heap.get?_push_of_some _ (hH2 ▸ Heap.get?_push_size _ rfl))
  have fresh₀ : ∀ a, s₂.heap.objs.size ≤ a → h₀.get? a = none := fun a ha => by
    cases x : h₀.get? a with
    | none => rfl
    | some o' => exact absurd (Heap.lt_size (F.keep a o' x)) (Nat.not_lt.mpr ha)
  have hD₀ : h₀.get? s₂.heap.objs.size = none := fresh₀ _ (Nat.le_refl _)
  have hC₀ : h₀.get? H2.objs.size = none := fresh₀ _ (by rw [hC]; exact Nat.le_succ _)
  have hLlt : L < s₂.heap.objs.size := F.ns.lt
  have hDL : s₂.heap.objs.size ≠ L := Ne.symm (below L hLlt).2
  have hCL : H2.objs.size ≠ L := Ne.symm (below L hLlt).1
  have offN : ∀ p ∈ news, p.1 ≠ H2.objs.size ∧ p.1 ≠ s₂.heap.objs.size := fun p hp => below _ (Heap.lt_size (N p hp).1)
  have W := WalksT.enumerate (prog := prog) (w := w) hh e it l hei hle hli its
  have loop : ∀ s₃ : Shared, s₃ = { s₂ with heap := h₁, toks := s₂.toks + ([] : List (Str × Value)).length } →
      codeAny (model prog w) A (.compLoop (.ListComp elt [⟨.Tuple [.Name a pa, .Name b pb] kk tp, iter, [], 0⟩] scope pos) 0 (.ref e) (.ref s₂.heap.objs.size) (compEnvC scope cl H2.objs.size env))
        (RR (.ref s₂.heap.objs.size) H2.objs.size) s₃ := by
    rintro s₃ rfl
    refine kcp_loop
      (fun k s' => ∃ h' tk i ys m', s' = { s₂ with heap := h', toks := tk } ∧ i ≤ its.size ∧ k = its.size + 1 - i ∧ ys.length = i ∧ ((∃ o, IsEnum h' e it (i : Nat) o) ∧ h'.IsListIter it l i ∧ h'.IsList l its) ∧ Fr h₀ L h' m ∧ h'.Ns H2.objs.size m' ∧
        News h₀ L h' ((s₂.heap.objs.size, lst ys) :: news) ∧ J i ys) ?_ (its.size + 1)
      ⟨h₁, _, 0, [], _, rfl, Nat.zero_le _, rfl, rfl, ⟨⟨_, old _ _ he⟩, hi.at fun o x => old _ o x, hl₀.at fun o x => old _ o x⟩, F.keeps old, hns₁, fun p hp => ?_, j0⟩
    · intro k s' hI9
      refine Classical.byContradiction fun hG => ?_
      obtain ⟨h', tk, i, ys, m', rfl, hin, rfl, hyl, hst, F', hn', N', hJ⟩ := hI9
      refine hG ?_
      clear hG
      by_cases hlt : i < its.size
      · refine W.item i _ _ _ hlt hst fun T vals h₂ tk₂ hP hTle hT hMid hk₂ => ?_
        refine Classical.byContradiction fun hG => ?_
        obtain ⟨t, v, hv, rfl⟩ := hP
        refine hG ?_
        clear hG
        refine W.go _ kk tp i T _ _ _ hMid fun h₃ hst₃ hk₃ => ?_
        have ht₃ : h₃.IsTuple T #[.int i t, v] := hT.at fun o x => hk₃ T o (W.apart i T h₂ hMid) x
        have up₃ : ∀ c o, c ≠ e → c ≠ it → h'.get? c = some o → h₃.get? c = some o := fun c o h1 h2 x => hk₃ c o (by simp [h1, h2]) (hk₂ c o (by simp [h1, h2]) x)
        refine kcp_assign (env := compEnvC scope cl H2.objs.size env) hh ht₃ (lookup_relabel_local hxa) (lookup_relabel_local hxb) (by simp [compEnvC, relabel, hkind]) (hn'.at' fun o x => up₃ _ o (Ne.symm (below e helt).1) (Ne.symm (below it hilt).1) x) fun h₄ tk₄ hn₄ hs₄ => ?_
        have up : ∀ c o, c ≠ e → c ≠ it → c ≠ H2.objs.size → h'.get? c = some o → h₄.get? c = some o := fun c o h1 h2 h3 x => hs₄ c o h3 (up₃ c o h1 h2 x)
        have hst₄ := W.frame _ _ h₄ hst₃ fun c hc o x => hs₄ c o (by
          simp only [List.mem_cons, List.not_mem_nil, or_false] at hc
          rcases hc with rfl | rfl | rfl
          · exact (below _ helt).1
          · exact (below _ hilt).1
          · exact (below _ hllt).1) x
        refine Classical.byContradiction fun hG => ?_
        obtain ⟨⟨o', hE₄⟩, ⟨oit, hI₄, hI₄'⟩, hl₄⟩ := hst₄
        obtain ⟨oe, heE, hoE⟩ : ∃ oe : Obj, h₄.get? e = some oe ∧ ∀ h : Heap, h.get? e = some oe → IsEnum h e it ((i + 1 : Nat) : Int) o' := ⟨_, hE₄, fun _ x => x⟩
        obtain ⟨oC, heC, hoC⟩ := ns_obj hn₄
        have F₄ : Fr h₀ L h₄ m := ⟨F'.ns.at' fun o x => up _ o hLe hLi (Ne.symm hCL) x, fun c o x => up c o (fun q => by rw [q, he₀] at x; cases x) (fun q => by rw [q, hi₀] at x; cases x) (fun q => by rw [q, hC₀] at x; cases x) (F'.keep c o x), F'.above⟩
        have N₄ : News h₀ L h₄ ((H2.objs.size, oC) :: (s₂.heap.objs.size, lst ys) :: (e, oe) :: (it, oit) :: news) := fun q hq => by
          rcases List.mem_cons.mp hq with rfl | hq
          · exact ⟨heC, hCL, hC₀⟩
          · rcases List.mem_cons.mp hq with rfl | hq
            · have z := N' _ (List.mem_cons_self)
              exact ⟨up _ _ (Ne.symm (below e helt).2) (Ne.symm (below it hilt).2) hDC z.1, z.2⟩
            · rcases List.mem_cons.mp hq with rfl | hq
              · exact ⟨heE, Ne.symm hLe, he₀⟩
              · rcases List.mem_cons.mp hq with rfl | hq
                · exact ⟨hI₄, Ne.symm hLi, hi₀⟩
                · have z := N' _ (List.mem_cons_of_mem _ hq)
                  exact ⟨up _ _ (off q hq).1 (off q hq).2 (offN q hq).1 z.1, z.2⟩
        refine hG ?_
        clear hG
        refine wpAny_mono (step i ys v t H2.objs.size oC s₂.heap.objs.size oe oit _ h₄ tk₄ hv hJ hoC (by simp [hab]) (by simp) F₄ N₄ ⟨Ne.symm hDC, Ne.symm (below e helt).1, Ne.symm (below it hilt).1, Ne.symm (below e helt).2, Ne.symm (below it hilt).2, hei⟩ (fun p hp => offN p hp)) (fun y s₅ h₅ => ?_) fun _ _ x => x.elim
        refine Classical.byContradiction fun hG => ?_
        obtain ⟨h₅, tk₅, rfl, F₅, N₅, hJ₅⟩ := h₅
        have zC := (N₅ (H2.objs.size, oC) (.head _)).1
        have zD := (N₅ (s₂.heap.objs.size, lst ys) (.tail _ (.head _))).1
        have zE := (N₅ (e, oe) (.tail _ (.tail _ (.head _)))).1
        have zI := (N₅ (it, oit) (.tail _ (.tail _ (.tail _ (.head _))))).1
        have N₅' : News h₀ L h₅ news := fun q hq => N₅ q (.tail _ (.tail _ (.tail _ (.tail _ hq))))
        refine hG ?_
        clear hG
        refine append_at (hsz := by show ys.toArray.size ≤ sizeLine; rw [List.size_toArray, hyl]; exact Nat.le_trans hin hsz) zD fun h₆ hs₆ hD₆ => ?_
        have F₆ := F₅.change hs₆ hDL hD₀
        have N₆ : News h₀ L h₆ news := fun q hq => ⟨hs₆.extBut _ _ (offN q hq).2 (N₅' q hq).1, (N₅' q hq).2⟩
        refine ⟨its.size + 1 - (i + 1), by omega, h₆, tk₅, i + 1, ys ++ [y], _, rfl, hlt, rfl, by rw [List.length_append, List.length_singleton, hyl],
          ⟨⟨_, hoE h₆ (hs₆.extBut e oe (below e helt).2 zE)⟩, ⟨oit, hs₆.extBut it oit (below it hilt).2 zI, hI₄'⟩, src.list F₆.keep N₆⟩, F₆, (hoC.ns zC).sameBut hs₆ (Ne.symm hDC), fun q hq => ?_, hJ₅⟩
        rcases List.mem_cons.mp hq with rfl | hq
        · exact ⟨hD₆.trans (congrArg some (lst_snoc ys y)), hDL, hD₀⟩
        · exact N₆ q hq
      · have hin' : i = its.size := by omega
        subst hin'
        refine W.done _ _ _ hst fun h₂ tk₂ hk₂ => ?_
        have up₂ : ∀ c o, c ≠ e → c ≠ it → h'.get? c = some o → h₂.get? c = some o := fun c o h1 h2 x => hk₂ c o (by simp [h1, h2]) x
        exact hRR _ _ h₂ tk₂ _ ys ⟨F'.ns.at' fun o x => up₂ _ o hLe hLi x, fun c o x => up₂ c o (fun q => by rw [q, he₀] at x; cases x) (fun q => by rw [q, hi₀] at x; cases x) (F'.keep c o x), F'.above⟩
          (fun p hp => by
            have z := N' p hp
            rcases List.mem_cons.mp hp with rfl | hp
            · exact ⟨up₂ _ _ (Ne.symm (below e helt).2) (Ne.symm (below it hilt).2) z.1, z.2⟩
            · exact ⟨up₂ _ _ (off p hp).1 (off p hp).2 z.1, z.2⟩) (fun p hp => Heap.lt_size (N p hp).1) (hn'.at' fun o x => up₂ _ o (Ne.symm (below e helt).1) (Ne.symm (below it hilt).1) x) hC₀ hCL (Ne.symm hDC) (fun p hp => (offN p hp).1) hJ
    · rcases List.mem_cons.mp hp with rfl | hp
      · exact ⟨hacc, hDL, hD₀⟩
      · exact ⟨old _ _ (N p hp).1, (N p hp).2⟩
  exact codeAny_compStart_list (loop _ rfl) (wpAny_pyIter_enum (old _ _ he) (loop _ rfl))

/-- where the iterable `enumerate(list)` stands at hand -/
def EnumSrc (prog : Program) (w : World) (A : Around) (h₀ : Heap) (L : Addr) (m : Str → Option Value) (env : Env) (elt : Expr) (a b : Str) (scope : Scope) (cl : List (Str × Addr)) (Fin : Shared → List Value → List (Addr × Obj) → Prop) (xv : Value) (s₁ : Shared) : Prop :=
  ∃ (e it l : Addr) (its : Array Value) (news : List (Addr × Obj)) (J : Nat → List Value → Prop), xv = .ref e ∧ A.handled = none ∧ IsEnum s₁.heap e it 0 .none ∧ s₁.heap.IsListIter it l 0 ∧ SrcAt h₀ l its news ∧ its.size ≤ sizeLine ∧ (e ≠ it ∧ l ≠ e ∧ l ≠ it) ∧
    Fr h₀ L s₁.heap m ∧ News h₀ L s₁.heap news ∧ (L ≠ e ∧ L ≠ it ∧ h₀.get? e = none ∧ h₀.get? it = none) ∧ (∀ p ∈ news, p.1 ≠ e ∧ p.1 ≠ it) ∧
    (∀ i ys v t C oC D oe oit m₂ h tk, its[i]? = some v → J i ys → NsObj oC m₂ → m₂ a = some (.int (i : Nat) t) → m₂ b = some v → Fr h₀ L h m →
      News h₀ L h ((C, oC) :: (D, lst ys) :: (e, oe) :: (it, oit) :: news) → ((@Ne Nat C D) ∧ (@Ne Nat C e) ∧ (@Ne Nat C it) ∧ (@Ne Nat D e) ∧ (@Ne Nat D it) ∧ (@Ne Nat e it)) → (∀ p ∈ news, (@Ne Nat p.1 C) ∧ (@Ne Nat p.1 D)) →
      wpAny (model prog w) A (eval elt (compEnvC scope cl C env)) (fun y s₃ => EltEnd { s₁ with heap := h, toks := tk } h₀ L m ((C, oC) :: (D, lst ys) :: (e, oe) :: (it, oit) :: news) (J (i + 1) (ys ++ [y])) s₃) (fun _ _ => False) { s₁ with heap := h, toks := tk }) ∧
    J 0 [] ∧ (∀ ys, J its.size ys → Fin s₁ ys news)

def FinA2 (h₀ : Heap) (L : Addr) (m : Str → Option Value) (s : Shared) (y : Str) (Q : Flow → Shared → Prop) (ys : List Value) (news : List (Addr × Obj)) : Prop :=
  ∀ D h tk, Fr h₀ L h (fun z => if z = y then some (.ref D) else m z) → News h₀ L h ((D, lst ys) :: news) → LCg.Off1 D news → (∀ p ∈ news, @LT.lt Nat _ p.1 D) → Q .next { s with heap := h, toks := tk }
theorem Assign_compE {elt iter : Expr} {a b y : Str} {pa pb tp py : Pos} {kk : Nat} {scope : Scope} {cl : List (Str × Addr)} {pos spos : Pos} {Q : Flow → Shared → Prop} (_F₀ : Fr h₀ L s.heap m) (hLe : env.locals = L)
    (hsw : swapsWith (.ListComp elt [⟨.Tuple [.Name a pa, .Name b pb] kk tp, iter, [], 0⟩] scope pos) (some (.Name y py)) spos.line env = pure true)
    (hclos : closureFor scope env = pure cl) (hcell : ∀ z ∈ scope.names, z.2 ≠ .cell) (hkind : scope.kind = .function)
    (hnames : ∀ z ∈ scope.names, z.2 = .local → scope.names.lookup z.1 = some .local) (hxa : scope.names.lookup a = some .local) (hxb : scope.names.lookup b = some .local) (hab : ¬ a = b)
    (hy : env.kindOf y = some .local) (hp : (env.scope.kind == .class || (env.scope.kind == .module && env.locals != env.globals)) = false)
    (h : wpAny (model prog w) A (eval iter env) (EnumSrc prog w A h₀ L m env elt a b scope cl (fun s₂ => FinA2 h₀ L m s₂ y Q)) E s)
    (hs : ∀ x, foldedSetIterable iter env x = pure x := by intro _; rfl) :
    wpAny (model prog w) A (exec (.Assign [.Name y py] (.ListComp elt [⟨.Tuple [.Name a pa, .Name b pb] kk tp, iter, [], 0⟩] scope pos) spos) env) Q E s := by
  subst hLe
  rw [exec_Assign_Name_used _ _ _ _ hsw]
  refine wpAny_bind (wpAny_standAt (wpAny_bind ?_))
  show wpAny _ A (do let _ ← comprehension (.ListComp elt [⟨.Tuple [.Name a pa, .Name b pb] kk tp, iter, [], 0⟩] scope pos) scope env _ (newList []) false (eval iter env) (some (assign (.Name y py) env))) _ _ s
  refine wpAny_bind (wpAny_mono (wpAny_comprehension_free (use := some (assign (.Name y py) env)) (Q := fun _ s' => Q .next s') rfl hs hclos hkind hnames
    (wpAny_mono h (fun xv s₁ h₁ => ?_) fun _ _ e => e)) (fun _ s' hq => wpAny_pure (wpAny_pure hq)) fun _ _ e => e)
  refine Classical.byContradiction fun hG => ?_
  obtain ⟨e, it, l, its, news, J, rfl, hh, he, hi, src, hsz, ⟨n1, n2, n3⟩, F, N, ⟨n4, n5, n6, n7⟩, off, step, j0, fin⟩ := h₁
  refine hG ?_
  clear hG
  refine wpAny_pyIter_enum he ?_
  refine compE_block J hh he hi src hsz n1 n2 n3 hcell hkind hxa hxb hab F N n4 n5 n6 n7 off step j0 ?_
  intro D C h' tk m' ys F' N' oD hn hC₀ hCL hCD offC hJ
  have hD₀ := (N' _ (.head _)).2
  show wpAny _ A (assign (.Name y py) env (.ref D)) _ _ _
  refine wpAny_assign_Name (wpAny_storeName_local hy F'.ns (fun h₂ hn₂ hs₂ => ?_) hp)
  have hL₀ : h₀.get? env.locals = none := Heap.get?_none_of_le F'.above
  have F₂ : Fr h₀ env.locals h₂ (fun z => if z = y then some (.ref D) else m z) := ⟨hn₂, fun b o e => hs₂.extBut b o (fun q => by rw [q, hL₀] at e; cases e) (F'.keep b o e), F'.above⟩
  refine ⟨m', hn.sameBut hs₂ hCL, fun h'' hs'' => fin ys hJ D h'' _ (F₂.change hs'' hCL hC₀) (fun p hp => ?_) (off1_of fun p hp => Nat.ne_of_lt (oD p hp)) oD⟩
  have z : h₂.get? p.1 = some p.2 := hs₂.extBut _ _ (N' p hp).2.1 (N' p hp).1
  refine ⟨hs''.extBut _ _ ?_ z, (N' p hp).2⟩
  rcases List.mem_cons.mp hp with rfl | hp
  · exact Ne.symm hCD
  · exact offC p hp

theorem pick_ints_go {vs : List Value} {ns : List Int} (hi : IntsAre vs ns) : ∀ idx : List Nat, ∃ zs, IntsAre (idx.filterMap (vs.toArray[·]?)) zs ∧ ∀ z ∈ zs, z ∈ ns
  | [] => ⟨[], .nil, fun _ h => nomatch h⟩
  | i :: r => by
    obtain ⟨zs, h1, h2⟩ := pick_ints_go hi r
    cases e : vs.toArray[i]? with
    | none => exact ⟨zs, by rw [List.filterMap_cons, e]; exact h1, h2⟩
    | some v =>
      refine Classical.byContradiction fun hG => ?_
      obtain ⟨n, t, hn, rfl⟩ := IntsAre.at' hi (by simpa using e)
      refine hG ?_
      clear hG
      refine ⟨n :: zs, by rw [List.filterMap_cons, e]; exact .cons _ _ h1, fun z hz => ?_⟩
      rcases List.mem_cons.mp hz with rfl | hz
      · exact List.mem_of_getElem? hn
      · exact h2 z hz
theorem pick_ints {vs : List Value} {ns : List Int} (hi : IntsAre vs ns) (lo up st : Option Int) : ∃ zs, IntsAre (slicePick vs.toArray lo up st).toList zs ∧ (∀ z ∈ zs, z ∈ ns) ∧ zs.length ≤ ns.length := by
  obtain ⟨zs, h1, h2⟩ := pick_ints_go hi (sliceRange (sliceBounds lo up st vs.toArray.size).1 (sliceBounds lo up st vs.toArray.size).2.1 (sliceBounds lo up st vs.toArray.size).2.2)
  refine ⟨zs, by simpa [slicePick] using h1, h2, ?_⟩
  have h3 := slicePick_size_le vs.toArray lo up st
  have h4 : IntsAre (slicePick vs.toArray lo up st).toList zs := by simpa [slicePick] using h1
  have h5 := h4.length
  have h6 := hi.length
  simp only [Array.length_toList, List.size_toArray] at h3 h5
  omega
theorem slice3_ints {news : List (Addr × Obj)} {value slice : Expr} {l : Addr} {vs : List Value} {ns : List Int} {vl vu vk : Value} {lo up st : Option Int} {ops : List Value} {Q : Value → Shared → Prop} (F : Fr h₀ L s.heap m) (N : News h₀ L s.heap news) (hl : s.heap.IsList l vs.toArray) (hi : IntsAre vs ns) (pl : IsPart vl lo) (pu : IsPart vu up) (pk : IsPart vk st) (h0 : st ≠ some 0)
    (h : ∀ D zs ns' h', Fr h₀ L h' m → News h₀ L h' ((D, listOf zs.toArray 0) :: news) → (∀ p ∈ news, p.1 < D) → IntsAre zs ns' → (∀ z ∈ ns', z ∈ ns) → ns'.length ≤ ns.length → Q (.ref D) { s with heap := h' })
    (hs : subscripted slice false (.ref l) (.ref s.heap.objs.size) = operate ops (getItem (.ref l) (.ref s.heap.objs.size))) (ht : ∀ r, letTemporaryGo value (.ref l) r = pure ()) (hz : vs.toArray.size ≤ sizeLine) :
    wpAny (model prog w) A (subscriptTail value slice (.ref l) (.ref s.heap.objs.size)) Q E { s with heap := s.heap.push { cls := .type "slice", data := .fields #[vl, vu, vk] } } := by
  refine Classical.byContradiction fun hG => ?_
  obtain ⟨zs, h1, h2, h3⟩ := pick_ints hi lo up st
  refine hG ?_
  clear hG
  exact kmk_slice3_lit F N hl pl pu pk h0 rfl (fun D h' F' N' l1 => h D _ zs h' F' N' l1 h1 h2 h3) hs ht hz

theorem slice_rev_tmp {news : List (Addr × Obj)} {value slice : Expr} {l : Addr} {vs : List Value} {ns : List Int} {vk : Value} {Q : Value → Shared → Prop} (F : Fr h₀ L s.heap m) (N : News h₀ L s.heap news) (hl : s.heap.IsList l vs.toArray) (hi : IntsAre vs ns) (pk : IsPart vk (some (-1)))
    (h : ∀ D zs h', Fr h₀ L h' m → News h₀ L h' ((D, listOf zs.toArray 0) :: news) → (∀ p ∈ news, p.1 < D) → IntsAre zs ns.reverse → Q (.ref D) { s with heap := h' })
    (hz : vs.toArray.size ≤ sizeLine)
    (hs : subscripted slice false (.ref l) (.ref s.heap.objs.size) = operate [.ref l, .ref s.heap.objs.size] (getItem (.ref l) (.ref s.heap.objs.size)) := by with_unfolding_all rfl) :
    wpAny (model prog w) A (subscriptTail value slice (.ref l) (.ref s.heap.objs.size)) Q E { s with heap := s.heap.push { cls := .type "slice", data := .fields #[.none, .none, vk] } } := by
  have hT : ({ s with heap := s.heap.push { cls := .type "slice", data := .fields #[.none, .none, vk] } } : Shared).TypeIs (.ref l) "list" := Heap.IsList.typeIs (s := { s with heap := s.heap.push { cls := .type "slice", data := .fields #[.none, .none, vk] } }) (hl.push _)
  refine subscriptTail_builtinR hT list_getitem_lookup (x := .ref (s.heap.objs.size + 1)) (wpAny_getItem_list_slice (hl.push _) (Heap.IsSliceOf.new ..) .none .none pk (by simp) ?_ hz) hs
  have N1 := News.push (F.push { cls := .type "slice", data := .fields #[.none, .none, vk] }) (N.grown fun _ _ e => Heap.get?_push_of_some _ e) { cls := .type "list", data := .seq (slicePick vs.toArray none none (some (-1))) }
  rw [Heap.size_push] at N1
  show _ = _ ∧ Q (.ref (s.heap.push _).objs.size) _
  rw [Heap.size_push]
  refine ⟨rfl, h _ vs.reverse _ ((F.push _).push _) ?_ (fun p hp => Nat.lt_succ_of_lt (Heap.lt_size (N p hp).1)) ?_⟩
  · have e : slicePick vs.toArray none none (some (-1)) = vs.reverse.toArray := by rw [krv_pick]
    rw [← e]; exact N1
  · exact IntsAre.reverse hi
theorem slice_upto {news : List (Addr × Obj)} {value slice : Expr} {l : Addr} {vs : List Value} {ns : List Int} {vu : Value} {k : Int} {b : Nat} {ops : List Value} {Q : Value → Shared → Prop} (F : Fr h₀ L s.heap m) (N : News h₀ L s.heap news) (hl : s.heap.IsList l vs.toArray) (hi : IntsAre vs ns) (pu : IsPart vu (some k)) (hk : k = (b : Int)) (hb : b ≤ ns.length)
    (h : ∀ D zs h', Fr h₀ L h' m → News h₀ L h' ((D, listOf zs.toArray 0) :: news) → (∀ p ∈ news, p.1 < D) → IntsAre zs (ns.take b) → Q (.ref D) { s with heap := h' })
    (hs : subscripted slice false (.ref l) (.ref s.heap.objs.size) = operate ops (getItem (.ref l) (.ref s.heap.objs.size))) (ht : ∀ r, letTemporaryGo value (.ref l) r = pure ()) (hz : vs.toArray.size ≤ sizeLine) :
    wpAny (model prog w) A (subscriptTail value slice (.ref l) (.ref s.heap.objs.size)) Q E { s with heap := s.heap.push { cls := .type "slice", data := .fields #[.none, vu, .none] } } := by
  have hv := hi.length
  have e : (slicePick vs.toArray none (some k) none).toList = vs.take b := by rw [hk, slicePick_upto _ _ (by simp [hv]; exact hb)]
  exact kmk_slice3_lit F N hl .none pu .none (by simp) e (fun D h' F' N' l1 => h D _ h' F' N' l1 (hi.take b)) hs ht hz
end
end
section -- Ci
open PySem PySem.W PyProof.Rows PySem.Calls PySem.Spec
set_option maxRecDepth 100000
set_option maxHeartbeats 8000000

theorem slot_ci_next : Slot "callable_iterator" "__next__" "callable_iterator.__next__" :=
  .of (owner := "callable_iterator") (n := "__next__") (by rw [typeLookup_type, builtinLookup_eq_fast]; kernel_rfl) (by decide +kernel) (by decide +kernel) (by decide +kernel)
    (by first | exact .inl (by decide +kernel) | exact .inr (by decide +kernel)) (by rw [isSubtype_type]; kernel_rfl)
theorem slot_ci_iter : Slot "callable_iterator" "__iter__" "callable_iterator.__iter__" :=
  .of (owner := "callable_iterator") (n := "__iter__") (by rw [typeLookup_type, builtinLookup_eq_fast]; kernel_rfl) (by decide +kernel) (by decide +kernel) (by decide +kernel)
    (by first | exact .inl (by decide +kernel) | exact .inr (by decide +kernel)) (by rw [isSubtype_type]; kernel_rfl)
theorem slot_method_call : Slot "method" "__call__" "method.__call__" :=
  .of (owner := "method") (n := "__call__") (by rw [typeLookup_type, builtinLookup_eq_fast]; kernel_rfl) (by decide +kernel) (by decide +kernel) (by decide +kernel)
    (by first | exact .inl (by decide +kernel) | exact .inr (by decide +kernel)) (by rw [isSubtype_type]; kernel_rfl)
theorem entry_ci_next : entryFor table "callable_iterator.__next__" = some Builtin.«callable_iterator.__next__» := entryFor_of_tree (by kernel_rfl)
theorem entry_ci_iter : entryFor table "callable_iterator.__iter__" = some Builtin.«dict_keyiterator.__iter__» :=
  entryFor_alias (id' := "dict_keyiterator.__iter__") (by kernel_rfl) (by first | rfl | decide +kernel | (unfold String.splitOn; simp +decide [String.splitOnAux])) (by decide +kernel) (by kernel_rfl)
theorem args_ci_next (a : Value) : argsOk "callable_iterator.__next__" ⟨[a], []⟩ := by unfold argsOk; kernel_rfl
theorem args_ci_iter (a : Value) : argsOk "callable_iterator.__iter__" ⟨[a], []⟩ := by unfold argsOk; kernel_rfl
theorem entry_iter : entryFor table "iter" = some Builtin.«iter» := entryFor_of_fast (by kernel_rfl)
theorem args_iter2 (a b : Value) : argsOk "iter" ⟨[a, b], []⟩ := by unfold argsOk; kernel_rfl

def ciObj (f sent : Value) : Obj := { cls := .type "callable_iterator", dict := none, data := .fields #[f, sent, .bool false], slots := #[] }
def ciEnd : Obj := { cls := .type "callable_iterator", dict := none, data := .fields #[.none, .none, .bool true], slots := #[] }
def methObj (f : Addr) (x : Value) : Obj := { cls := .type "method", dict := none, data := .fields #[.ref f, x], slots := #[] }
section
variable {prog : Program} {w : World} {A : Around} {E : Value → Shared → Prop} {s : Shared}

theorem wpAny_callBorrowed {M : Model} {f : Value} {pos : List Value} {Q : Value → Shared → Prop}
    (hc : codeAny M A (.call f ⟨pos, []⟩) (fun r s' => match r with | .ok (.ret v) => Q v s' | .ok _ => False | .error e => E e s') s) : wpAny M A (callBorrowed f pos) Q E s := fun Γ p hΓ => by
  unfold callBorrowed
  rw [Sem.wp_call]
  refine wpCode_mono (fun r s' hr => ?_) (hc _ p rfl (hΓ.enter _ none p (by intro x; cases x)))
  match r, hr with
  | .ok (.ret v), hr => exact (Sem.wp_pure ..).mpr hr
  | .error e, hr => exact (Sem.wp_raise ..).mpr hr

theorem pyIter_ci {it : Addr} {f sent : Value} {Q : Value → Shared → Prop} (hi : s.heap.get? it = some (ciObj f sent)) (h : Q (.ref it) s) : wpAny (model prog w) A (pyIter (.ref it)) Q E s := by
  have hT : s.TypeIs (.ref it) "callable_iterator" := ⟨_, hi, rfl⟩
  refine wpAny_pyIter_slot hT slot_ci_iter (wpAny_call_entry slot_ci_iter hT entry_ci_iter ?_ (args_ci_iter _))
  show wpAny _ _ (ret (.ref it)) _ _ s
  exact wpAny_pure ⟨_, rfl, "callable_iterator", _, hT, slot_ci_next.lookup, h⟩

theorem call_iter2 {b fa : Addr} {x sent : Value} {Q : Value → Shared → Prop} (hb : s.heap.get? b = some (methObj fa x))
    (h : Q (.ref s.heap.objs.size) { s with heap := s.heap.push (ciObj (.ref b) sent) }) : wpAny (model prog w) A (call (.builtin "iter") [.ref b, sent]) Q E s := by
  have hT : s.TypeIs (.ref b) "method" := ⟨_, hb, rfl⟩
  refine call_function_entry (by decide +kernel) (by decide +kernel) entry_iter (args_iter2 _ _) ?_
  unfold Builtin.«iter»
  refine wpAny_bind (m := someArgs "iter" 1 2 _) (wpAny_of_eq (a := [Value.ref b, sent]) (by first | rfl | kernel_rfl!) ?_)
  dsimp only
  refine wpAny_bind (wpAny_specialOf (name := Str.ofString "__call__") hT slot_method_call.lookup ?_)
  refine wpAny_ite_split (fun hab => absurd hab (by decide)) (fun _ => ?_)
  refine wpAny_bind (wpAny_rule ?_)
  unfold newFields
  refine wpAny_bind (wpAny_newObj_type ?_ (by size_fits))
  exact wpAny_pure ⟨_, rfl, h⟩

theorem borrows_meth {b fa : Addr} {of : Obj} {x : Value} {fd : FuncData} {Q : Bool → Shared → Prop} (hb : s.heap.get? b = some (methObj fa x)) (hf : s.heap.get? fa = some of) (hfd : of.data = .func fd) (h : Q true s) :
    wpAny (model prog w) A (borrowsExactly (.ref b)) Q E s := by
  unfold borrowsExactly
  refine wpAny_bind (wpAny_load hb ?_)
  show wpAny _ _ (if (Value.type "method" == .type "method") = true then _ else _) _ _ s
  rw [if_pos (by decide)]
  show wpAny _ _ (do match (← load fa).data with | .func _ => pure true | _ => pure false) _ _ s
  refine wpAny_bind (wpAny_load hf ?_)
  rw [hfd]
  exact wpAny_pure h

/-- one step of iter(f, sentinel), f a bound method: what the call answers, or the end -/
theorem pyNext_ci {it b fa : Addr} {of : Obj} {x : Value} {sent : Str} {ts : Tok} {fd : FuncData} {Q : Option Value → Shared → Prop} (hh : A.handled = none)
    (hi : s.heap.get? it = some (ciObj (.ref b) (.str sent ts))) (hb : s.heap.get? b = some (methObj fa x)) (hf : s.heap.get? fa = some of) (hfd : of.data = .func fd)
    (hc : codeAny (model prog w) A.in1 (.call (.ref fa) ⟨[x], []⟩) (fun r s' => ∃ ch tk, r = .ok (.ret (.str ch tk)) ∧ s'.heap.get? it = some (ciObj (.ref b) (.str sent ts)) ∧ s'.heap.get? b = some (methObj fa x) ∧ s'.heap.get? fa = some of ∧
      (ch ≠ sent → Q (some (.str ch tk)) s') ∧ (ch = sent → ∀ h', Heap.ExtBut it s'.heap h' → Q none { s' with heap := h' })) s) :
    wpAny (model prog w) A (pyNext (.ref it)) Q E s := by
  have hT : s.TypeIs (.ref it) "callable_iterator" := ⟨_, hi, rfl⟩
  unfold pyNext
  refine wpAny_bind (wpAny_attempt (wpAny_callSpecial?_slot (name := Str.ofString "__next__") hT slot_ci_next
    (wpAny_call_entry slot_ci_next hT entry_ci_next ?_ (args_ci_next _))))
  unfold Builtin.«callable_iterator.__next__»
  refine wpAny_bind (wpAny_of_eq (a := (Value.ref it, [])) rfl ?_)
  dsimp only
  refine wpAny_bind (wpAny_field hi rfl (x := .bool false) rfl ?_)
  refine wpAny_ite_split (fun hab => absurd hab (by decide)) (fun _ => ?_)
  refine wpAny_bind (wpAny_field hi rfl (x := .ref b) rfl ?_)
  refine wpAny_bind (wpAny_attempt ?_)
  unfold callOutOfASlot
  refine wpAny_bind (borrows_meth hb hf hfd ?_)
  rw [if_pos rfl]
  refine wpAny_callBorrowed (ks_codeAny_call_bound hb (codeAny_mono hc ?_))
  intro r s' hI9
  refine Classical.byContradiction fun hG => ?_
  obtain ⟨ch, tk, rfl, hi', hb', hf', hQ1, hQ2⟩ := hI9
  refine hG ?_
  clear hG
  dsimp only
  refine wpAny_bind (wpAny_field hi' rfl (x := .bool false) rfl ?_)
  refine wpAny_ite_split (fun hab => absurd hab (by decide)) (fun _ => ?_)
  refine wpAny_bind (wpAny_field hi' rfl (x := .str sent ts) rfl ?_)
  refine wpAny_bind (wpAny_holding (eqBool_str ?_))
  by_cases he : ch = sent
  · subst he
    rw [beq_self_eq_true]
    refine wpAny_ite_split (fun hab => absurd hab (by decide)) (fun _ => ?_)
    refine wpAny_bind (wpAny_rule ?_)
    refine wpAny_bind ?_
    refine wpAny_bind (m := field (.ref it) 0) (wpAny_field hi' rfl (x := .ref b) rfl ?_)
    refine wpAny_bind ?_
    refine wpAny_bind (borrows_meth hb' hf' hfd ?_)
    refine wpAny_ite_split (fun _ => ?_) (fun hab => absurd rfl hab)
    refine wpAny_pure ?_
    have o1 := Heap.get?_update_self (Obj.mapFields (·.setIfInBounds 0 .none)) hi' rfl
    have o2 := Heap.get?_update_self (Obj.mapFields (·.setIfInBounds 1 .none)) o1 rfl
    have b1 : Heap.ExtBut it s'.heap (((s'.heap.update it (Obj.mapFields (·.setIfInBounds 0 .none))).update it (Obj.mapFields (·.setIfInBounds 1 .none))).update it (Obj.mapFields (·.setIfInBounds 2 (.bool true)))) :=
      ((Heap.SameBut.update ..).extBut.trans (Heap.SameBut.update ..).extBut).trans (Heap.SameBut.update ..).extBut
    refine wpAny_bind (wpAny_setField hi' rfl (by show 0 < 3; decide) ?_)
    refine wpAny_bind (wpAny_setField o1 rfl (by show 1 < 3; decide) ?_)
    refine wpAny_setField o2 rfl (by show 2 < 3; decide) ?_
    refine wpAny_bind ?_
    show wpAny _ _ (newExc (.type "StopIteration") [] >>= _) _ _ _
    refine wpAny_bind ?_
    simp only [newExc, newTuple]
    refine wpAny_bind (wpAny_newObj_type ?_ (by size_fits))
    refine wpAny_bind (m := firstArgMember _ _) (wpAny_of_eq (a := Value.none) (by first | rfl | (simp only [firstArgMember]; rfl)) ?_)
    refine wpAny_newObj_type ?_ (by size_fits)
    simp only [raiseNew]
    first
    | refine wpAny_bind (wpAny_handled ?_)
    | (refine wpAny_pure ?_; refine wpAny_bind (wpAny_handled ?_))
    | (refine wpAny_bind (wpAny_pure ?_); refine wpAny_bind (wpAny_handled ?_))
    rw [show A.in1.handled = none from hh]
    refine wpAny_bind (wpAny_pure (wpAny_throw ?_))
    refine wpAny_bind (wpAny_isInstance (T := "StopIteration") (b := true) ⟨_, Heap.get?_push_size _ rfl, rfl⟩ isSubtype_stop ?_)
    exact wpAny_pure (hQ2 rfl _ ((b1.push _).push _))
  · rw [show (sent == ch) = false from beq_eq_false_iff_ne.mpr (Ne.symm he)]
    refine wpAny_ite_split (fun _ => ?_) (fun hab => absurd rfl hab)
    refine wpAny_pure ⟨_, rfl, ?_⟩
    exact wpAny_pure (hQ1 he)
end
end
section -- Wr
open PySem PySem.W PyProof.Rows PySem.Calls PySem.Spec
set_option maxRecDepth 100000
set_option maxHeartbeats 8000000
set_option rowWalk.seconds 0

section
variable {w : World} {p : Program} {loose : List Str} {mean : ExcName → Option Value} {mg mb : Str → Option Value} {dp un : Nat} {gd : Option (List Code)} {cn : Str} {cs : Scope} {a : Addr} {ccd : Value} {cl : List (Str × Addr)} {outer : List Env} {A₀ : Around} {base h₀ : Heap} {L : Addr} {m : Str → Option Value} {s : Shared} {Q E : Value → Shared → Prop}
theorem for_pairM {A : Around} {env : Env} {Q : Flow → Shared → Prop} {xi xc : Str} {pk pv pt pos : Pos} {x1 : Nat} {iter : Expr} {body : List Stmt} (_F : Fr h₀ env.locals s.heap m) (hh : A.handled = none)
    (hxi : env.kindOf xi = some .local) (hxc : env.kindOf xc = some .local)
    (hp : (env.scope.kind == .class || (env.scope.kind == .module && env.locals != env.globals)) = false)
    (h : wpAny (model Pr w) A (eval iter env) (fun xv s₁ => wpAny (model Pr w) A (pyIter xv) (fun it s₂ => PairAt3 Pr w A h₀ env xi xc body Q E it s₂) E s₁) E s)
    (hs : ∀ x, foldedSetIterable iter env x = pure x)
    (hE : PassesOwn (model Pr w) A env E) :
    wpAny (model Pr w) A (exec (.For (.Tuple [.Name xi pk, .Name xc pv] x1 pt) iter body [] pos) env) Q E s := For_pair3 h₀ hh hxi hxc hp h hs hE
local macro_rules | `(tactic| walk_at "exec For Tuple Call cons nil") => `(tactic| (refine Mine.Stop.mk ?_))
local macro_rules | `(tactic| walk_at "pyIter ref") => `(tactic| (k_here; refine Mine.Stop.mk ?_))
theorem loadX_L {M : Model} {A : Around} {x : Str} {v : Value} {Q : Value → Shared → Prop} (F : Fr h₀ L s.heap m) (hv : m x = some v) (hk : cs.kind = .function) (hx : (envX cn cs L a ccd cl).kindOf x = some .local) (h : Q v s) :
    wpAny M A (loadName (envX cn cs L a ccd cl) x) Q E s := wpAny_loadName_local hk hx F.ns hv h
local macro_rules | `(tactic| walk_at "loadName") => `(tactic| (k_here; k_dflt (refine' Mine.loadX_L ?F ?v ?a ?b ?_; (case F => k_asm); (case a => rfl); (case b => rfl); (case v => assumption); k_whole)))
open PyProof.Rows.LCg in
def SrcS (prog : Program) (w : World) (A : Around) (h₀ : Heap) (L : Addr) (m : Str → Option Value) (env : Env) (elt : Expr) (x : Str) (scope : Scope) (cl : List (Str × Addr)) (Fin : Shared → List Value → List (Addr × Obj) → Prop) (xv : Value) (s₁ : Shared) : Prop :=
  ∃ cc t news, xv = .str cc t ∧ A.handled = none ∧ Fr h₀ L s₁.heap m ∧ News h₀ L s₁.heap news ∧ cc.cps.size ≤ sizeLine ∧
    ∀ s₂ : Shared, (∃ h, s₂ = { s₁ with heap := h }) → CompRest prog w A h₀ L m env elt x scope cl s₂ (fun _ => True) (SignAt cc) (Fin s₂) cc.cps.size 0 [] news
open PyProof.Rows.LCg in
theorem ListComp_S {A : Around} {env : Env} {elt iter : Expr} {x : Str} {px : Pos} {scope : Scope} {cl : List (Str × Addr)} {pos : Pos} {Q : Value → Shared → Prop} (_F₀ : Fr h₀ L s.heap m)
    (hclos : closureFor scope env = pure cl) (hcell : ∀ y ∈ scope.names, y.2 ≠ .cell) (hkind : scope.kind = .function)
    (hnames : ∀ y ∈ scope.names, y.2 = .local → scope.names.lookup y.1 = some .local) (hx : scope.names.lookup x = some .local)
    (h : wpAny (model Pr w) A (eval iter env) (SrcS Pr w A h₀ L m env elt x scope cl (fun s₂ => FinE h₀ L m s₂ Q)) E s)
    (hs : ∀ x, foldedSetIterable iter env x = pure x := by intro _; rfl) :
    wpAny (model Pr w) A (eval (.ListComp elt [⟨.Name x px, iter, [], 0⟩] scope pos) env) Q E s := by
  rw [eval_ListComp]
  refine wpAny_comprehension_free (use := none) rfl hs hclos hkind hnames (wpAny_mono h (fun xv s₁ h₁ => ?_) fun _ _ e => e)
  refine Classical.byContradiction fun hG => ?_
  obtain ⟨cc, t, news, rfl, hh, F, N, hsz, R⟩ := h₁
  refine hG ?_
  clear hG
  cases ha : cc.cps.all (· < 128)
  · refine wpAny_pyIter_wide ha ?_
    refine block_U (Walks.strWide hh s₁.heap.objs.size cc t) hsz (fun i h st => by obtain ⟨o, e, _⟩ := st; exact ⟨o, e⟩) (fun i h h' o nw st e e' _ _ _ => by obtain ⟨o1, q1, q2⟩ := st; rw [e] at q1; cases q1; exact ⟨_, e', q2⟩) hcell hkind hx ⟨_, Heap.get?_push_size _ rfl, rfl, rfl⟩ (fun b hb => ?_)
      (F.keeps fun _ _ e => Heap.get?_push_of_some _ e) (N.grown fun _ _ e => Heap.get?_push_of_some _ e) (Nat.ne_of_lt F.ns.lt) (next_is_new F) (fun p hp => Nat.ne_of_lt (Heap.lt_size (N p hp).1)) trivial (R _ ⟨_, rfl⟩) ?_
    · rw [List.mem_singleton.mp hb]
      show s₁.heap.objs.size < (s₁.heap.push _).objs.size
      rw [Heap.size_push]; exact Nat.lt_succ_self _
    · intro D C h tk m' ys news' F' N' o1 hn hC₀ hD₀ hCL hDL hCD offC fin
      refine ⟨m', hn, fun h'' hs'' => fin D h'' tk (F'.change hs'' hCL hC₀) (fun p hp => ?_) o1⟩
      refine ⟨hs''.extBut _ _ ?_ (N' p hp).1, (N' p hp).2⟩
      rcases List.mem_cons.mp hp with rfl | hp
      · exact Ne.symm hCD
      · exact offC p hp
  · refine wpAny_pyIter_ascii ha ?_
    refine block_U (Walks.strAscii hh s₁.heap.objs.size cc t) hsz (fun i h st => by obtain ⟨o, e, _⟩ := st; exact ⟨o, e⟩) (fun i h h' o nw st e e' _ _ _ => by obtain ⟨o1, q1, q2⟩ := st; rw [e] at q1; cases q1; exact ⟨_, e', q2⟩) hcell hkind hx ⟨_, Heap.get?_push_size _ rfl, rfl, rfl⟩ (fun b hb => ?_)
      (F.keeps fun _ _ e => Heap.get?_push_of_some _ e) (N.grown fun _ _ e => Heap.get?_push_of_some _ e) (Nat.ne_of_lt F.ns.lt) (next_is_new F) (fun p hp => Nat.ne_of_lt (Heap.lt_size (N p hp).1)) trivial (R _ ⟨_, rfl⟩) ?_
    · rw [List.mem_singleton.mp hb]
      show s₁.heap.objs.size < (s₁.heap.push _).objs.size
      rw [Heap.size_push]; exact Nat.lt_succ_self _
    · intro D C h tk m' ys news' F' N' o1 hn hC₀ hD₀ hCL hDL hCD offC fin
      refine ⟨m', hn, fun h'' hs'' => fin D h'' tk (F'.change hs'' hCL hC₀) (fun p hp => ?_) o1⟩
      refine ⟨hs''.extBut _ _ ?_ (N' p hp).1, (N' p hp).2⟩
      rcases List.mem_cons.mp hp with rfl | hp
      · exact Ne.symm hCD
      · exact offC p hp
local macro_rules | `(tactic| walk_at "eval ListComp") => `(tactic| (k_here; k_dflt (refine Mine.ListComp_S (by k_asm) (by with_unfolding_all rfl) (by decide) (by rfl) (by decide) (by rfl) ?_)))
local macro_rules | `(tactic| walk_at "call builtin:str.join") => `(tactic| (k_here; refine Mine.Stop.mk ?_))
local macro_rules | `(tactic| walk_at "SrcS") => `(tactic| (refine Mine.Stop.mk ?_))
def bsAll (x : Str) : Str := ⟨(x.cps.toList.flatMap fun c => [92, c]).toArray⟩
def pieceF (man : Int) (x : Str) : Str := if man = 0 then x ++ Str.ofString " " else if man = 1 then (Str.ofString "\"" ++ x) ++ Str.ofString "\"" else bsAll x ++ Str.ofString "\n"
def manF (ds : List Int) (k : Nat) : Int := ((ds.getD ((k : Int).fmod 6).toNat 0).fdiv 4).fmod 3
def writtenF (ds : List Int) (ws : List Str) : Nat → Str
  | 0 => Str.ofString ""
  | k + 1 => writtenF ds ws k ++ pieceF (manF ds k) (ws.getD k (Str.ofString ""))
theorem join_bs0 : ∀ cs : List Nat, (Str.join (Str.ofString "") (cs.map fun c => Str.ofString "\\" ++ (⟨#[c]⟩ : Str))).cps.toList = cs.flatMap fun c => [92, c]
  | [] => rfl
  | [c] => rfl
  | c :: d :: r => by
    have ih := join_bs0 (d :: r)
    rw [List.map_cons] at ih ⊢
    rw [List.map_cons]
    show ((Str.ofString "\\" ++ (⟨#[c]⟩ : Str)) ++ Str.ofString "" ++ Str.join (Str.ofString "") _).cps.toList = _
    rw [Str.cps_append, Array.toList_append, ih, Str.cps_append]
    rfl
theorem join_bs (cs : List Nat) : Txt.join (Str.ofString "") (cs.map fun c => Str.ofString "\\" ++ (⟨#[c]⟩ : Str)) = ⟨(cs.flatMap fun c => [92, c]).toArray⟩ := by
  rw [show Txt.join (Str.ofString "") (cs.map fun c => Str.ofString "\\" ++ (⟨#[c]⟩ : Str)) = Str.join (Str.ofString "") (cs.map fun c => Str.ofString "\\" ++ (⟨#[c]⟩ : Str)) from StrLaws.glued_eq_join _ _]
  have h := join_bs0 cs
  cases e : Str.join (Str.ofString "") (cs.map fun c => Str.ofString "\\" ++ (⟨#[c]⟩ : Str)) with
  | mk a =>
    rw [e] at h
    rw [← h]
theorem bs_len (cs : List Nat) : ((cs.flatMap fun c => [92, c]).length) = 2 * cs.length := by
  induction cs with
  | nil => rfl
  | cons c r ih => rw [List.flatMap_cons, List.length_append, ih, List.length_cons]; simp; omega
theorem bsAll_len (x : Str) : (bsAll x).length = 2 * x.length := by
  show (x.cps.toList.flatMap fun c => [92, c]).toArray.size = _
  rw [List.size_toArray, bs_len]; rfl
theorem join_len (cs : List Nat) : ((cs.map fun c => Str.ofString "\\" ++ (⟨#[c]⟩ : Str)).map (·.length)).sum = 2 * cs.length := by
  induction cs with
  | nil => rfl
  | cons c r ih => rw [List.map_cons, List.map_cons, List.sum_cons, ih, List.length_cons]; show 2 + _ = _; omega
theorem wlen {a b i : Nat} (h : a ≤ 200 * i) (hb : b ≤ 150) : a + b ≤ 200 * (i + 1) := by omega
theorem written_succ {ds : List Int} {ws : List Str} {i : Nat} {x y : Str} (hx : ws[i]? = some x) (hy : y = pieceF (manF ds i) x) : writtenF ds ws i ++ y = writtenF ds ws (i + 1) := by
  rw [writtenF, List.getD_eq_getElem?_getD, hx, hy]; rfl
theorem piece0 {ds : List Int} {i : Nat} {x : Str} (h : ((ds.getD ((i : Int).fmod 6).toNat 0).fdiv 4).fmod 3 = 0) : x ++ Str.ofString " " = pieceF (manF ds i) x := by
  unfold pieceF manF; rw [if_pos h]
theorem piece1 {ds : List Int} {i : Nat} {x : Str} (h : ((ds.getD ((i : Int).fmod 6).toNat 0).fdiv 4).fmod 3 = 1) : (Str.ofString "\"" ++ x) ++ Str.ofString "\"" = pieceF (manF ds i) x := by
  unfold pieceF manF; rw [if_neg (by omega), if_pos h]
theorem piece2 {ds : List Int} {i : Nat} {x : Str} (h : ((ds.getD ((i : Int).fmod 6).toNat 0).fdiv 4).fmod 3 ≠ 0) (h' : ((ds.getD ((i : Int).fmod 6).toNat 0).fdiv 4).fmod 3 ≠ 1) : bsAll x ++ Str.ofString "\n" = pieceF (manF ds i) x := by
  unfold pieceF manF; rw [if_neg h, if_neg h']
theorem written_spec {lw ld : Addr} {vw vd : List Value} {ws : List Str} {ds : List Int}
    (B : Below A₀ base outer h₀) (F : Fr h₀ L s.heap m) (X : (Mine.hd.heap_1 w.params).In h₀) (T : Top p loose mean mg mb h₀) (hk : cs.kind = .function)
    (hdp : dp < 500) (hw : s.heap.IsList lw vw.toArray) (hd : s.heap.IsList ld vd.toArray) (iw : StrsAre vw ws) (id : IntsAre vd ds)
    (hlw : ws.length ≤ 20) (hld : ds.length = 6) (hpos : ∀ d ∈ ds, 0 ≤ d) (hws : ∀ x ∈ ws, x.length ≤ 50)
    (ret : ∀ t h' tk', (∀ b o, s.heap.get? b = some o → h'.get? b = some o) → Q (.str (writtenF ds ws ws.length) t) { s with heap := h', toks := tk' }) :
    wpAny (model Pr w) (ktrTop dp un gd cn cs L a ccd cl outer) (call (.ref 127) [.ref lw, .ref ld]) Q E s := by
  walk_at "mine fill"
  refine wpAny_call ?_
  k_dflt walk_at "mine enter"
  (try k_fold)
  k_steps
  unfold Stop
  refine Mine.for_pairM (by k_asm) rfl (by with_unfolding_all rfl) (by with_unfolding_all rfl) (by with_unfolding_all rfl) ?_ (by intro _; with_unfolding_all rfl) (by passes_own)
  k_steps
  unfold Stop
  rename_i S
  refine S _ ?hE _ _ _ _ (fun i m' nw => nw = [] ∧ m' (Str.ofString "draws") = some (.ref ld) ∧ ∃ tx t, m' (Str.ofString "text") = some (.str tx t) ∧ tx = writtenF ds ws i ∧ tx.length ≤ 200 * i) ⟨rfl, rfl, _, _, rfl, rfl, by show _ ≤ 0; decide⟩ ?_ ?_
  case hE => rfl
  · intro i x t v m₁ nw s₁ own hs₁ hx hv hJ hmap hoff F₁ N₁
    refine Classical.byContradiction fun hG => ?_
    obtain ⟨hh₁, tk₁, rfl⟩ := hs₁
    obtain ⟨rfl, e1, tx, tt, e2, e3, e4⟩ := hJ
    obtain ⟨tv, rfl⟩ := ItemKind.str_is hv
    rw [List.append_nil] at N₁
    have hi : i < 20 := Nat.lt_of_lt_of_le (List.getElem?_eq_some_iff.mp hx).1 hlw
    have hxl := hws x (List.mem_of_getElem? hx)
    have htl : tx.length ≤ 4000 := Nat.le_trans e4 (Nat.mul_le_mul_left 200 (Nat.le_of_lt hi))
    replace e4 : Stop (tx.length ≤ 200 * i) := e4
    refine hG ?_
    clear hG
    (try k_fold)
    k_steps
    · refine LoopStep2.intro (news₂ := []) (by assumption) (by rw [List.append_nil]; assumption) rfl ⟨rfl, by k_asm, _, _, rfl, by rw [e3]; exact written_succ hx (piece0 (by assumption)), by simp only [PySem.Str.length_append, Mine.len_sp]; exact wlen e4 (Nat.le_trans (Nat.add_le_add_right hxl 1) (by decide))⟩
    · refine LoopStep2.intro (news₂ := []) (by assumption) (by rw [List.append_nil]; assumption) rfl ⟨rfl, by k_asm, _, _, rfl, by rw [e3]; exact written_succ hx (piece1 (by assumption)), by simp only [PySem.Str.length_append, Mine.len_qt]; exact wlen e4 (Nat.le_trans (Nat.add_le_add_right (Nat.add_le_add_left hxl 1) 1) (by decide))⟩
    · unfold Stop
      refine ⟨x, tv, own, rfl, rfl, by assumption, by assumption, by rw [sizeLine_eq]; exact Nat.le_trans hxl (by decide), fun s₂ hs₂ => ?_⟩
      obtain ⟨g, rfl⟩ := hs₂
      refine compRest_m (fun j zs => StrsAre zs ((x.cps.toList.take j).map fun c => Str.ofString "\\" ++ ⟨#[c]⟩)) trivial ?_ ?_ .nil
      · intro j zs u I oI C oC D₂ m₂ h₂ tk₂ E₂ hj hJ2 hu hC hx₂ F₂ N₂ off ne
        refine Classical.byContradiction fun hG => ?_
        obtain ⟨c, tc, hc, rfl⟩ := hu
        refine hG ?_
        clear hG
        (try k_fold)
        k_steps
        exact EltEnd.mk (by assumption) (by assumption) (by rw [List.take_add_one, show x.cps.toList[j]? = some c by simpa using hc, List.map_append]; exact hJ2.append' strs_one)
      · intro zs hzs
        intro D₃ h₃ tk₃ F₃ N₃ o₃
        rw [show x.cps.size = x.cps.toList.length by simp, List.take_length] at hzs
        dsimp only
        (try k_fold)
        k_steps
        unfold Stop
        refine join_list (by is_list) hzs (by rw [join_len]; simp only [List.length_map, Array.length_toList]; exact Nat.le_trans (Nat.add_le_add_right (Nat.mul_le_mul_left 2 hxl) _) (Nat.le_trans (Nat.add_le_add_left (Nat.mul_le_mul_right 0 hxl) _) (by decide))) ?_
        intro t9 k9
        rw [join_bs]
        have hbl : Str.length ⟨(x.cps.toList.flatMap fun c => [92, c]).toArray⟩ = 2 * x.length := bsAll_len x
        k_steps
        refine LoopStep2.intro (news₂ := []) (by assumption) (by rw [List.append_nil]; exact News.sub (by assumption) fun p hp => .tail _ hp) rfl ⟨rfl, by k_asm, _, _, rfl, by rw [e3]; exact written_succ hx (piece2 (by assumption) (by assumption)), by simp only [PySem.Str.length_append, Mine.len_nl]; rw [hbl]; exact wlen e4 (Nat.le_trans (Nat.add_le_add_right (Nat.mul_le_mul_left 2 hxl) 1) (by decide))⟩
  · intro h' tk' m' nw F₁ N₁ hmap hJ
    refine Classical.byContradiction fun hG => ?_
    obtain ⟨rfl, e1, tx, tt, e2, e3, e4⟩ := hJ
    refine hG ?_
    clear hG
    (try k_fold)
    k_steps
    rw [e3]
    exact ret _ _ _ (Fr.keep F₁)
end
end
section -- Lx
open PySem PySem.W PyProof.Rows PySem.Calls PySem.Spec
set_option maxRecDepth 100000
set_option maxHeartbeats 8000000
def CharsAre (vs : List Value) (cs : List Nat) : Prop := StrsAre vs (cs.map fun c => (⟨#[c]⟩ : Str))
section
variable {prog : Program} {w : World} {A : Around} {E : Value → Shared → Prop} {s : Shared} {h₀ : Heap} {L : Addr} {m : Str → Option Value}
theorem strs_of_get : ∀ (vs : List Value) (xs : List Str), vs.length = xs.length → (∀ (j : Nat) (v : Value), vs[j]? = some v → ∃ x t, xs[j]? = some x ∧ v = Value.str x t) → StrsAre vs xs
  | [], [], _, _ => .nil
  | [], _ :: _, h, _ => by simp at h
  | _ :: _, [], h, _ => by simp at h
  | v :: r, x :: q, h, g => by
    obtain ⟨y, t, hy, hv⟩ := g 0 v rfl
    cases hy
    subst hv
    exact .cons _ _ (strs_of_get r q (by simpa using h) fun j u hu => g (j + 1) u hu)
theorem strs_length {vs : List Value} {xs : List Str} (h : StrsAre vs xs) : vs.length = xs.length := h.length
theorem strs_reverse {vs : List Value} {xs : List Str} (h : StrsAre vs xs) : StrsAre vs.reverse xs.reverse := by
  induction h with
  | nil => exact .nil
  | cons a t _ ih => rw [List.reverse_cons, List.reverse_cons]; exact ih.append' (.cons _ _ .nil)
theorem chars_reverse {vs : List Value} {cs : List Nat} (h : CharsAre vs cs) : CharsAre vs.reverse cs.reverse := by
  unfold CharsAre; rw [List.map_reverse]; exact strs_reverse h
theorem list_str_M {news : List (Addr × Obj)} {x : Str} {t : Tok} {Q : Value → Shared → Prop} (hh : A.handled = none) (F : Fr h₀ L s.heap m) (N : News h₀ L s.heap news) (hsz : x.length ≤ sizeLine)
    (h : ∀ D ys k h' tk, Fr h₀ L h' m → News h₀ L h' ((D, listOf ys.toArray k) :: news) → (∀ p ∈ news, p.1 < D) → CharsAre ys x.cps.toList → Q (.ref D) { s with heap := h', toks := tk }) :
    wpAny (model prog w) A (call (.type "list") [.str x t]) Q E s := by
  refine call_list_str hh x t (hn := hsz) fun h' tk acc' c' hk hS' hacc => ?_
  refine h _ acc'.toList c' h' tk (F.keeps hk) (fun p hp => ?_) (fun p hp => Heap.lt_size (N p hp).1) ?_
  · rcases List.mem_cons.mp hp with rfl | hp
    · exact ⟨hS', Ne.symm (Nat.ne_of_lt F.ns.lt), next_is_new F⟩
    · exact ⟨hk _ _ (N p hp).1, (N p hp).2⟩
  · refine strs_of_get _ _ (by simp [hacc.1]) fun j v hv => ?_
    obtain ⟨c, u, hc, rfl⟩ := hacc.2 j v (by simpa using hv)
    exact ⟨⟨#[c]⟩, u, by simp [hc], rfl⟩
theorem slice_rev_raw {news : List (Addr × Obj)} {value slice : Expr} {l : Addr} {vs : List Value} {vk : Value} {Q : Value → Shared → Prop} (F : Fr h₀ L s.heap m) (N : News h₀ L s.heap news) (hl : s.heap.IsList l vs.toArray) (pk : IsPart vk (some (-1)))
    (hz : vs.toArray.size ≤ sizeLine)
    (h : ∀ D h', Fr h₀ L h' m → News h₀ L h' ((D, listOf vs.reverse.toArray 0) :: news) → (∀ p ∈ news, p.1 < D) → Q (.ref D) { s with heap := h' })
    (hs : subscripted slice false (.ref l) (.ref s.heap.objs.size) = operate [.ref l, .ref s.heap.objs.size] (getItem (.ref l) (.ref s.heap.objs.size)) := by with_unfolding_all rfl) :
    wpAny (model prog w) A (subscriptTail value slice (.ref l) (.ref s.heap.objs.size)) Q E { s with heap := s.heap.push { cls := .type "slice", data := .fields #[.none, .none, vk] } } := by
  have hT : ({ s with heap := s.heap.push { cls := .type "slice", data := .fields #[.none, .none, vk] } } : Shared).TypeIs (.ref l) "list" := Heap.IsList.typeIs (s := { s with heap := s.heap.push { cls := .type "slice", data := .fields #[.none, .none, vk] } }) (hl.push _)
  refine subscriptTail_builtinR hT list_getitem_lookup (x := .ref (s.heap.objs.size + 1)) (wpAny_getItem_list_slice (hl.push _) (Heap.IsSliceOf.new ..) .none .none pk (by simp) ?_ hz) hs
  have N1 := News.push (F.push { cls := .type "slice", data := .fields #[.none, .none, vk] }) (N.grown fun _ _ e => Heap.get?_push_of_some _ e) { cls := .type "list", data := .seq (slicePick vs.toArray none none (some (-1))) }
  rw [Heap.size_push] at N1
  show _ = _ ∧ Q (.ref (s.heap.push _).objs.size) _
  rw [Heap.size_push]
  refine ⟨rfl, h _ _ ((F.push _).push _) ?_ (fun p hp => Nat.lt_succ_of_lt (Heap.lt_size (N p hp).1))⟩
  have e : slicePick vs.toArray none none (some (-1)) = vs.reverse.toArray := by rw [krv_pick]
  rw [← e]; exact N1
end
end
section -- Rd
open PySem PySem.W PyProof.Rows PySem.Calls PySem.Spec
set_option maxRecDepth 100000
set_option maxHeartbeats 8000000
set_option rowWalk.seconds 0

section
variable {w : World} {p : Program} {loose : List Str} {mean : ExcName → Option Value} {mg mb : Str → Option Value} {dp un : Nat} {gd : Option (List Code)} {cn : Str} {cs : Scope} {a : Addr} {ccd : Value} {cl : List (Str × Addr)} {outer : List Env} {A₀ : Around} {base h₀ : Heap} {L : Addr} {m : Str → Option Value} {s : Shared} {Q E : Value → Shared → Prop}
local macro_rules | `(tactic| k_all) => `(tactic| assumption)
abbrev entE (P : Params) (x : Str) (t : Tok) (v : Value) : DictEntry := { hash := PyData.keyHash P x, key := .str x t, val := v }
local macro_rules | `(tactic| walk_at "mine enterN") => `(tactic| (refine' PySem.W.code_def ?k1 ?k2 ?k3 ?k4 ?k5 ?kA ?kF ?kK ?k6 ?k7 ?k8 ?k9 ?kB ?_ ?c2 ?c3 ?c4 ?c5; (case kA => exact rfl); (case kF => exact rfl); (case kK => assumption); (case k1 => k_asm); (case k2 => k_asm); (case k3 => k_asm); (case k4 => k_asm); (case k5 => k_asm); (case k6 => k_is); (case k7 => k_is); (case k8 => k_room); (case k9 => exact BindsTo.of_eq rfl); (case c5 => decide); (case kB => exact locs rfl); (case c2 => exact rfl); (case c3 => exact rfl); (case c4 => exact rfl); k_whole; intro g' L' h' FG' F' N' B' X' T'; (try dsimp only); (try k_lift B'); (try k_fold)))
/-- the nested def of the lexer's maker, as the object that its statement makes -/
noncomputable def pieceObj (P : Params) (CL CO : Addr) (qual : Str) (doc mgn ct : Value) : Obj :=
  match (Mine.hd.heap_1 P).lookup 122 with
  | some ⟨_, _, .func fd, _⟩ => (match fd.body with
    | .stmts (_ :: _ :: .FunctionDef nm prms bdy _ _ _ sc _ _ _ :: _) => fnMade nm qual prms bdy sc [(Str.ofString "signs", CL)] doc mgn CO ct
    | _ => default)
  | _ => default
theorem piece_of {o o' : Obj} {P : Obj → Prop} (e : o = o') (h : P o') : P o := e ▸ h
abbrev lexL (P : Params) (PB X D FN CO PY Y DY S CL : Addr) (fno oc co : Obj) (ks : Nat) (t1 t2 t3 t4 t5 t6 t7 t8 t9 u1 u2 u3 u4 u5 : Tok) (ln : Int) (zs : List Value) (tl : List (Addr × Obj)) : List (Addr × Obj) :=
  (PB, W.listOf #[] 0) :: (X, instObj 108 D) :: (D, dictOf [entE P (Str.ofString "lineno") t1 (.int ln u1), entE P (Str.ofString "instream") t2 (.ref Y), entE P (Str.ofString "whitespace") t3 (.str (Str.ofString "\n\t\x0d ") u2), entE P (Str.ofString "pushback") t4 (.ref PB)] 4) ::
  (FN, fno) :: (CO, oc) :: (PY, W.listOf #[] 0) :: (Y, instObj 108 DY) ::
  (DY, dictOf [entE P (Str.ofString "lineno") t5 (.int 1 u3), entE P (Str.ofString "instream") t6 .none, entE P (Str.ofString "whitespace") t7 (.str (Str.ofString "\n\t\x0d ") u4), entE P (Str.ofString "pushback") t8 (.ref PY), entE P (Str.ofString "read") t9 (.ref FN)] 5) ::
  (S, W.listOf zs.toArray ks) :: (CL, co) :: tl
def LexApart (PB X D FN CO PY Y DY S CL : Addr) : Prop := @LT.lt Nat _ CL S ∧ @LT.lt Nat _ S DY ∧ @LT.lt Nat _ DY Y ∧ @LT.lt Nat _ Y PY ∧ @LT.lt Nat _ PY CO ∧ @LT.lt Nat _ CO FN ∧ @LT.lt Nat _ FN D ∧ @LT.lt Nat _ D X ∧ @LT.lt Nat _ X PB

local macro_rules | `(tactic| walk_at "call builtin:list.pop") => `(tactic| (k_here; k_dflt (refine' kl_pop ?F ?N ?e ?U ?z ?_; (case F => k_asm); (case N => k_asm); (case e => assumption); (case U => k_upd); (case z => assumption)); (intro h' F' N'; (try dsimp only [List.nil_append, List.cons_append] at N'))))
theorem kl_last_snoc (y : Value) : ∀ zr : List Value, kl_last (zr ++ [y]) = some (zr, y)
  | [] => rfl
  | z :: r => by
    have ih := kl_last_snoc y r
    rw [List.cons_append, kl_last, ih]
theorem nl_eq : Str.ofString "\n" = ⟨#[10]⟩ := by decide +kernel
theorem nl_pos {c : Nat} (h : (({ cps := #[c] } : Str) == Str.ofString "\n") = true) : c = 10 := by
  have := eq_of_beq h
  rw [nl_eq] at this
  injection this with h
  simpa using h
theorem nl_neg {c : Nat} (h : (({ cps := #[c] } : Str) == Str.ofString "\n") = false) : c ≠ 10 := by
  rintro rfl
  rw [nl_eq] at h
  simp at h
def lnF (c : Nat) (ln : Int) : Int := if c = 10 then ln + 1 else ln
theorem read_spec {PB X' D FN CO PY Y DY S CL : Addr} {qual : Str} {doc ct : Value} {oc co : Obj} {vs : Array Value} {tq : Tok} {ks : Nat} {t1 t2 t3 t4 t5 t6 t7 t8 t9 u1 u2 u3 u4 u5 : Tok} {ln : Int} {zs : List Value} {tl : List (Addr × Obj)} {R : Result → Shared → Prop}
    (B : Below A₀ base outer h₀) (F : Fr h₀ L s.heap m) (X : (Mine.hd.heap_1 w.params).In h₀) (T : Top p loose mean mg mb h₀) (hk : cs.kind = .function) (hdp : dp < 700)
    (N : News h₀ L s.heap (lexL w.params PB X' D FN CO PY Y DY S CL (pieceObj w.params CL CO qual doc ((mg (Str.ofString "__name__")).getD .none) ct) oc co ks t1 t2 t3 t4 t5 t6 t7 t8 t9 u1 u2 u3 u4 u5 ln zs tl))
    (hap : LexApart PB X' D FN CO PY Y DY S CL) (hoc : oc.data = .fields vs) (hvs : vs[1]? = some (.str qual tq)) (hco : co.data = .cell (some (.ref S))) (offD : ∀ p ∈ tl, p.1 ≠ D) (offS : ∀ p ∈ tl, p.1 ≠ S)
    (codeHd : CodeHd h₀ 121 117) (hfit : zs.length < 2 ^ 20) {cs' : List Nat} (hcs : CharsAre zs cs'.reverse)
    (retN : ∀ t h' tk', cs' = [] → Fr h₀ L h' m → News h₀ L h' (lexL w.params PB X' D FN CO PY Y DY S CL (pieceObj w.params CL CO qual doc ((mg (Str.ofString "__name__")).getD .none) ct) oc co ks t1 t2 t3 t4 t5 t6 t7 t8 t9 u1 u2 u3 u4 u5 ln zs tl) →
      R (.ok (.ret (.str (Str.ofString "") t))) { s with heap := h', toks := tk' })
    (retC : ∀ c r zr t h' tk' ks' u1', cs' = c :: r → CharsAre zr r.reverse → Fr h₀ L h' m → News h₀ L h' (lexL w.params PB X' D FN CO PY Y DY S CL (pieceObj w.params CL CO qual doc ((mg (Str.ofString "__name__")).getD .none) ct) oc co ks' t1 t2 t3 t4 t5 t6 t7 t8 t9 u1' u2 u3 u4 u5 (lnF c ln) zr tl) →
      R (.ok (.ret (.str ⟨#[c]⟩ t))) { s with heap := h', toks := tk' }) :
    codeAny (model Pr w) (ktrTop dp un gd cn cs L a ccd cl outer) (.call (.ref 91) ⟨[.ref X'], []⟩) R s := by
  walk_at "mine fill"
  revert N retN retC
  refine piece_of (P := fun o => News h₀ L s.heap (lexL w.params PB X' D FN CO PY Y DY S CL o oc co ks t1 t2 t3 t4 t5 t6 t7 t8 t9 u1 u2 u3 u4 u5 ln zs tl) →
    (∀ t h' tk', cs' = [] → Fr h₀ L h' m → News h₀ L h' (lexL w.params PB X' D FN CO PY Y DY S CL o oc co ks t1 t2 t3 t4 t5 t6 t7 t8 t9 u1 u2 u3 u4 u5 ln zs tl) →
      R (.ok (.ret (.str (Str.ofString "") t))) { s with heap := h', toks := tk' }) →
    (∀ c r zr t h' tk' ks' u1', cs' = c :: r → CharsAre zr r.reverse → Fr h₀ L h' m → News h₀ L h' (lexL w.params PB X' D FN CO PY Y DY S CL o oc co ks' t1 t2 t3 t4 t5 t6 t7 t8 t9 u1' u2 u3 u4 u5 (lnF c ln) zr tl) →
      R (.ok (.ret (.str ⟨#[c]⟩ t))) { s with heap := h', toks := tk' }) →
    codeAny (model Pr w) (ktrTop dp un gd cn cs L a ccd cl outer) (.call (.ref 91) ⟨[.ref X'], []⟩) R s) (show pieceObj _ _ _ _ _ _ _ = fnMade _ _ _ _ _ _ _ _ _ _ from rfl) ?_
  intro N retN retC
  dsimp only [lexL, entE] at N retN retC
  refine Classical.byContradiction fun hG => ?_
  obtain ⟨q1, q2, q3, q4, q5, q6, q7, q8, q9⟩ := hap
  refine hG ?_
  clear hG
  have s3 : @LT.lt Nat _ S Y := Nat.lt_trans q2 q3
  have s4 : @LT.lt Nat _ S PY := Nat.lt_trans s3 q4
  have s5 : @LT.lt Nat _ S CO := Nat.lt_trans s4 q5
  have s6 : @LT.lt Nat _ S FN := Nat.lt_trans s5 q6
  have s7 : @LT.lt Nat _ S D := Nat.lt_trans s6 q7
  have s8 : @LT.lt Nat _ S X' := Nat.lt_trans s7 q8
  have s9 : @LT.lt Nat _ S PB := Nat.lt_trans s8 q9
  have z5 : @LT.lt Nat _ CO D := Nat.lt_trans q6 q7
  have z4 : @LT.lt Nat _ PY D := Nat.lt_trans q5 z5
  have z3 : @LT.lt Nat _ Y D := Nat.lt_trans q4 z4
  have z2 : @LT.lt Nat _ DY D := Nat.lt_trans q3 z3
  have z1 : @LT.lt Nat _ CL D := Nat.lt_trans q1 s7
  have z9 : @LT.lt Nat _ D PB := Nat.lt_trans q8 q9
  cases cs' with
  | nil =>
    obtain rfl : zs = [] := by cases zs with
      | nil => rfl
      | cons => have := strs_length hcs; simp at this
    k_dflt walk_at "mine enterN"
    k_steps
    exact retN _ _ _ rfl (by assumption) (by assumption)
  | cons c r =>
    refine Classical.byContradiction fun hG => ?_
    obtain ⟨zr, tc, rfl, hzr⟩ : ∃ zr tc, zs = zr ++ [.str ⟨#[c]⟩ tc] ∧ CharsAre zr r.reverse := by
      have h2 := strs_reverse hcs
      rw [List.map_reverse, List.reverse_reverse, List.map_cons] at h2
      cases e : zs.reverse with
      | nil => rw [e] at h2; cases h2
      | cons y ys =>
        rw [e] at h2
        cases h2 with
        | cons a t h3 =>
          refine ⟨ys.reverse, t, ?_, ?_⟩
          · rw [← List.reverse_reverse zs, e, List.reverse_cons]
          · unfold CharsAre; rw [List.map_reverse]; exact strs_reverse h3
    have hlast := kl_last_snoc (.str ⟨#[c]⟩ tc) zr
    have hroom : (zr ++ [Value.str ⟨#[c]⟩ tc]).length ≤ sizeLine := by rw [sizeLine_eq]; omega
    have hne : (zr ++ [Value.str ⟨#[c]⟩ tc]).isEmpty = false := by cases zr <;> rfl
    refine hG ?_
    clear hG
    k_dflt walk_at "mine enterN"
    k_steps
    · have hc := nl_pos ‹_›
      exact retC c r zr _ _ _ _ _ rfl hzr (by assumption) (by rw [lnF, if_pos hc]; assumption)
    · have hc := nl_neg ‹_›
      exact retC c r zr _ _ _ _ _ rfl hzr (by assumption) (by rw [lnF, if_neg hc]; assumption)
theorem read_cons {PB X' D FN CO PY Y DY S CL : Addr} {qual : Str} {doc ct : Value} {oc co : Obj} {vs : Array Value} {tq : Tok} {ks : Nat} {t1 t2 t3 t4 t5 t6 t7 t8 t9 u1 u2 u3 u4 u5 : Tok} {ln : Int} {zs : List Value} {tl : List (Addr × Obj)} {R : Result → Shared → Prop}
    (B : Below A₀ base outer h₀) (F : Fr h₀ L s.heap m) (X : (Mine.hd.heap_1 w.params).In h₀) (T : Top p loose mean mg mb h₀) (hk : cs.kind = .function) (hdp : dp < 700)
    (N : News h₀ L s.heap (lexL w.params PB X' D FN CO PY Y DY S CL (pieceObj w.params CL CO qual doc ((mg (Str.ofString "__name__")).getD .none) ct) oc co ks t1 t2 t3 t4 t5 t6 t7 t8 t9 u1 u2 u3 u4 u5 ln zs tl))
    (hap : LexApart PB X' D FN CO PY Y DY S CL) (hoc : oc.data = .fields vs) (hvs : vs[1]? = some (.str qual tq)) (hco : co.data = .cell (some (.ref S))) (offD : ∀ p ∈ tl, p.1 ≠ D) (offS : ∀ p ∈ tl, p.1 ≠ S)
    (codeHd : CodeHd h₀ 121 117) (hfit : zs.length < 2 ^ 20) {c : Nat} {r : List Nat} (hcs : CharsAre zs (c :: r).reverse)
    (retC : ∀ zr t h' tk' ks' u1', CharsAre zr r.reverse → Fr h₀ L h' m → News h₀ L h' (lexL w.params PB X' D FN CO PY Y DY S CL (pieceObj w.params CL CO qual doc ((mg (Str.ofString "__name__")).getD .none) ct) oc co ks' t1 t2 t3 t4 t5 t6 t7 t8 t9 u1' u2 u3 u4 u5 (lnF c ln) zr tl) →
      R (.ok (.ret (.str ⟨#[c]⟩ t))) { s with heap := h', toks := tk' }) :
    codeAny (model Pr w) (ktrTop dp un gd cn cs L a ccd cl outer) (.call (.ref 91) ⟨[.ref X'], []⟩) R s :=
  read_spec B F X T hk hdp N hap hoc hvs hco offD offS codeHd hfit hcs (fun _ _ _ q => absurd q (List.cons_ne_nil _ _)) fun c' r' zr t h' tk' ks' u1' q hz F N => by
    injection q with q1 q2
    subst q1 q2
    exact retC zr t h' tk' ks' u1' hz F N
end
end
section -- Fc
open PySem PySem.W PyProof.Rows PySem.Calls PySem.Spec
set_option maxRecDepth 100000
set_option maxHeartbeats 8000000
theorem one_ne {c : Nat} : (⟨#[c]⟩ : Str) ≠ Str.ofString "" := fun h => by
  have e : (Str.ofString "").length = 0 := by decide
  rw [← h] at e
  exact absurd e (by show 1 ≠ 0; decide)
section
variable {w : World} {p : Program} {loose : List Str} {mean : ExcName → Option Value} {mg mb : Str → Option Value} {dp un : Nat} {gd : Option (List Code)} {cn : Str} {cs : Scope} {a : Addr} {ccd : Value} {cl : List (Str × Addr)} {outer : List Env} {A₀ : Around} {base h₀ : Heap} {L : Addr} {m : Str → Option Value} {s : Shared} {E : Value → Shared → Prop}

theorem iter2_K {A : Around} {news : List (Addr × Obj)} {b fa : Addr} {x sent : Value} {Q : Value → Shared → Prop} (F : Fr h₀ L s.heap m) (N : News h₀ L s.heap news) (hm : (b, methObj fa x) ∈ news)
    (h : ∀ D h', Fr h₀ L h' m → News h₀ L h' ((D, ciObj (.ref b) sent) :: news) → (∀ p ∈ news, p.1 < D) → Q (.ref D) { s with heap := h' }) : wpAny (model Pr w) A (call (.builtin "iter") [.ref b, sent]) Q E s :=
  call_iter2 (N _ hm).1 (h _ _ (F.push _) (News.push F N _) fun p hp => Heap.lt_size (N p hp).1)

/-- the state of a walk that reads by the lexer -/
def LexSt (w : World) (mg : Str → Option Value) (h₀ : Heap) (L : Addr) (PB X' D FN CO PY Y DY S CL : Addr) (qual : Str) (doc ct : Value) (oc co : Obj) (t1 t2 t3 t4 t5 t6 t7 t8 t9 u2 u3 u4 u5 : Tok) (tl : List (Addr × Obj)) (h : Heap) (ln : Int) (rest : List Nat) : Prop :=
  ∃ ks u1 zs, News h₀ L h (lexL w.params PB X' D FN CO PY Y DY S CL (pieceObj w.params CL CO qual doc ((mg (Str.ofString "__name__")).getD .none) ct) oc co ks t1 t2 t3 t4 t5 t6 t7 t8 t9 u1 u2 u3 u4 u5 ln zs tl) ∧ CharsAre zs rest.reverse
def CiEnd (w : World) (mg : Str → Option Value) (s : Shared) (h₀ : Heap) (L : Addr) (PB X' D FN CO PY Y DY S CL : Addr) (qual : Str) (doc ct : Value) (oc co : Obj) (t1 t2 t3 t4 t5 t6 t7 t8 t9 u2 u3 u4 u5 : Tok) (tl : List (Addr × Obj)) (J : List Nat → Int → (Str → Option Value) → Prop) (n : Nat) (s₂ : Shared) : Prop :=
  ∃ h' tk m' ln rest, s₂ = { s with heap := h', toks := tk } ∧ Fr h₀ L h' m' ∧ LexSt w mg h₀ L PB X' D FN CO PY Y DY S CL qual doc ct oc co t1 t2 t3 t4 t5 t6 t7 t8 t9 u2 u3 u4 u5 tl h' ln rest ∧ J rest ln m' ∧ rest.length < n
def CiPost (Q : Flow → Shared → Prop) (C : Shared → Prop) (f : Flow) (s₂ : Shared) : Prop :=
  match f with
  | .ret v => Q (.ret v) s₂
  | .brk => Q .next s₂
  | .next => C s₂
  | .cont => C s₂

theorem lexL_sub1 {P : Params} {PB X' D FN CO PY Y DY S CL : Addr} {fno oc co : Obj} {ks : Nat} {t1 t2 t3 t4 t5 t6 t7 t8 t9 u1 u2 u3 u4 u5 : Tok} {ln : Int} {zs : List Value} {q1 : Addr × Obj} {tl : List (Addr × Obj)} :
    ∀ p ∈ lexL P PB X' D FN CO PY Y DY S CL fno oc co ks t1 t2 t3 t4 t5 t6 t7 t8 t9 u1 u2 u3 u4 u5 ln zs tl, p ∈ lexL P PB X' D FN CO PY Y DY S CL fno oc co ks t1 t2 t3 t4 t5 t6 t7 t8 t9 u1 u2 u3 u4 u5 ln zs (q1 :: tl) := fun _ hp => mem_in (lexL P PB X' D FN CO PY Y DY S CL fno oc co ks t1 t2 t3 t4 t5 t6 t7 t8 t9 u1 u2 u3 u4 u5 ln zs []) [q1] tl hp
theorem lexL_off {P : Params} {PB X' D FN CO PY Y DY S CL I : Addr} {fno oc co : Obj} {ks : Nat} {t1 t2 t3 t4 t5 t6 t7 t8 t9 u1 u2 u3 u4 u5 : Tok} {ln : Int} {zs : List Value} {tl : List (Addr × Obj)} (hap : LexApart PB X' D FN CO PY Y DY S CL) (r0 : @LT.lt Nat _ PB I) (ht : ∀ p ∈ tl, @Ne Nat p.1 I) :
    ∀ p ∈ lexL P PB X' D FN CO PY Y DY S CL fno oc co ks t1 t2 t3 t4 t5 t6 t7 t8 t9 u1 u2 u3 u4 u5 ln zs tl, @Ne Nat p.1 I := by
  obtain ⟨q1, q2, q3, q4, q5, q6, q7, q8, q9⟩ := hap
  have r1 := Nat.lt_trans q9 r0
  have r2 := Nat.lt_trans q8 r1
  have r3 := Nat.lt_trans q7 r2
  have r4 := Nat.lt_trans q6 r3
  have r5 := Nat.lt_trans q5 r4
  have r6 := Nat.lt_trans q4 r5
  have r7 := Nat.lt_trans q3 r6
  have r8 := Nat.lt_trans q2 r7
  have r9 := Nat.lt_trans q1 r8
  exact List.forall_mem_cons.mpr ⟨Nat.ne_of_lt r0, List.forall_mem_cons.mpr ⟨Nat.ne_of_lt r1, List.forall_mem_cons.mpr ⟨Nat.ne_of_lt r2, List.forall_mem_cons.mpr ⟨Nat.ne_of_lt r3, List.forall_mem_cons.mpr ⟨Nat.ne_of_lt r4, List.forall_mem_cons.mpr ⟨Nat.ne_of_lt r5, List.forall_mem_cons.mpr ⟨Nat.ne_of_lt r6, List.forall_mem_cons.mpr ⟨Nat.ne_of_lt r7, List.forall_mem_cons.mpr ⟨Nat.ne_of_lt r8, List.forall_mem_cons.mpr ⟨Nat.ne_of_lt r9, ht⟩⟩⟩⟩⟩⟩⟩⟩⟩⟩
theorem for_ci {PB X' D FN CO PY Y DY S CL : Addr} {qual : Str} {doc ct : Value} {oc co : Obj} {vs : Array Value} {tq : Tok} {t1 t2 t3 t4 t5 t6 t7 t8 t9 u2 u3 u4 u5 : Tok} {ln : Int} {tl : List (Addr × Obj)} {x : Str} {px : Pos} {body : List Stmt} {Q : Flow → Shared → Prop} {I BM : Addr} {ts : Tok} {cs' : List Nat} {of : Obj} {fd : FuncData}
    (J : List Nat → Int → (Str → Option Value) → Prop)
    (B : Below A₀ base outer h₀) (F : Fr h₀ L s.heap m) (X : (Mine.hd.heap_1 w.params).In h₀) (T : Top p loose mean mg mb h₀) (hk : cs.kind = .function) (hdp : dp < 700)
    (N : LexSt w mg h₀ L PB X' D FN CO PY Y DY S CL qual doc ct oc co t1 t2 t3 t4 t5 t6 t7 t8 t9 u2 u3 u4 u5 ((I, ciObj (.ref BM) (.str (Str.ofString "") ts)) :: (BM, methObj 91 (.ref X')) :: tl) s.heap ln cs')
    (hap : LexApart PB X' D FN CO PY Y DY S CL) (hoc : oc.data = .fields vs) (hvs : vs[1]? = some (.str qual tq)) (hco : co.data = .cell (some (.ref S)))
    (offD : ∀ p ∈ (I, ciObj (.ref BM) (.str (Str.ofString "") ts)) :: (BM, methObj 91 (.ref X')) :: tl, p.1 ≠ D) (offS : ∀ p ∈ (I, ciObj (.ref BM) (.str (Str.ofString "") ts)) :: (BM, methObj 91 (.ref X')) :: tl, p.1 ≠ S)
    (codeHd : CodeHd h₀ 121 117) (hfit : cs'.length < 2 ^ 20)
    (hI : @LT.lt Nat _ PB I) (hIt : ∀ p ∈ (BM, methObj 91 (.ref X')) :: tl, @Ne Nat p.1 I)
    (hfn : h₀.get? 91 = some of) (hfd : of.data = .func fd)
    (hj : J cs' ln m)
    (turn : ∀ c r ln m₁ h tk t, J (c :: r) ln m₁ → r.length < 2 ^ 20 → Fr h₀ L h (fun y => if y = x then some (.str ⟨#[c]⟩ t) else m₁ y) →
      LexSt w mg h₀ L PB X' D FN CO PY Y DY S CL qual doc ct oc co t1 t2 t3 t4 t5 t6 t7 t8 t9 u2 u3 u4 u5 ((I, ciObj (.ref BM) (.str (Str.ofString "") ts)) :: (BM, methObj 91 (.ref X')) :: tl) h (lnF c ln) r →
      wpAny (model Pr w) (ktrTop dp un gd cn cs L a ccd cl outer) (execs body (envX cn cs L a ccd cl))
        (CiPost Q (CiEnd w mg { s with heap := h, toks := tk } h₀ L PB X' D FN CO PY Y DY S CL qual doc ct oc co t1 t2 t3 t4 t5 t6 t7 t8 t9 u2 u3 u4 u5 ((I, ciObj (.ref BM) (.str (Str.ofString "") ts)) :: (BM, methObj 91 (.ref X')) :: tl) J (r.length + 1))) (fun _ _ => False) { s with heap := h, toks := tk })
    (done : ∀ m₁ ln h tk, J [] ln m₁ → Fr h₀ L h m₁ → LexSt w mg h₀ L PB X' D FN CO PY Y DY S CL qual doc ct oc co t1 t2 t3 t4 t5 t6 t7 t8 t9 u2 u3 u4 u5 ((BM, methObj 91 (.ref X')) :: tl) h ln [] → Q .next { s with heap := h, toks := tk })
    (hx : (envX cn cs L a ccd cl).kindOf x = some .local) :
    wpAny (model Pr w) (ktrTop dp un gd cn cs L a ccd cl outer) (pyIter (.ref I)) (ForAt Pr w (ktrTop dp un gd cn cs L a ccd cl outer) (envX cn cs L a ccd cl) (.Name x px) body Q) E s := by
  refine Classical.byContradiction fun hG => ?_
  obtain ⟨ks, u1, zs, N, hzs⟩ := N
  have hIm := N (I, ciObj (.ref BM) (.str (Str.ofString "") ts)) (by simp)
  refine hG ?_
  clear hG
  refine pyIter_ci hIm.1 ?_
  unfold ForAt
  refine codeAny_forLoop (fun k s' => ∃ h' tk m' ln rest, s' = { s with heap := h', toks := tk } ∧ Fr h₀ L h' m' ∧ LexSt w mg h₀ L PB X' D FN CO PY Y DY S CL qual doc ct oc co t1 t2 t3 t4 t5 t6 t7 t8 t9 u2 u3 u4 u5 ((I, ciObj (.ref BM) (.str (Str.ofString "") ts)) :: (BM, methObj 91 (.ref X')) :: tl) h' ln rest ∧ J rest ln m' ∧ rest.length < 2 ^ 20 ∧ k = rest.length) ?_ cs'.length
    ⟨s.heap, s.toks, m, ln, cs', rfl, F, ⟨ks, u1, zs, N, hzs⟩, hj, hfit, rfl⟩
  intro k s' hI9
  refine Classical.byContradiction fun hG => ?_
  obtain ⟨h', tk, m', ln', rest, rfl, F', ⟨ks', u1', zs', N', hzs'⟩, hJ, hfit', rfl⟩ := hI9
  refine hG ?_
  clear hG
  have hp : ((envX cn cs L a ccd cl).scope.kind == .class || ((envX cn cs L a ccd cl).scope.kind == .module && (envX cn cs L a ccd cl).locals != (envX cn cs L a ccd cl).globals)) = false := by show (cs.kind == .class || (cs.kind == .module && _)) = false; rw [hk]; rfl
  have hzl : zs'.length < 2 ^ 20 := by rw [strs_length hzs', List.length_map, List.length_reverse]; exact hfit'
  refine pyNext_ci (b := BM) (fa := 91) (x := .ref X') (sent := Str.ofString "") (ts := ts) (of := of) (fd := fd) rfl (N' (I, ciObj (.ref BM) (.str (Str.ofString "") ts)) (by simp)).1 (N' (BM, methObj 91 (.ref X')) (by simp)).1 (F'.keep _ _ hfn) hfd ?_
  refine read_spec (un := un + 1) (dp := dp) (gd := gd) (s := { s with heap := h', toks := tk }) B F' X T hk hdp N' hap hoc hvs hco offD offS codeHd hzl hzs' ?_ ?_
  · rintro t h₁ tk₁ rfl F₁ N₁
    refine ⟨_, _, rfl, (N₁ (I, ciObj (.ref BM) (.str (Str.ofString "") ts)) (by simp)).1, (N₁ (BM, methObj 91 (.ref X')) (by simp)).1, F₁.keep _ _ hfn, fun q => absurd rfl q, fun _ h₂ hk₂ => wpAny_execs_nil ?_⟩
    refine done m' ln' h₂ tk₁ hJ ?_ ⟨ks', u1', zs', ?_, hzs'⟩
    · have hIL := hIm.2.1
      have hI₀ := hIm.2.2
      exact ⟨F₁.ns.at' fun o e => hk₂ _ o (Ne.symm hIL) e, fun b o e => hk₂ b o (fun q => by rw [q, hI₀] at e; cases e) (F₁.keep b o e), F₁.above⟩
    · intro p hp
      have hne : @Ne Nat p.1 I := lexL_off hap hI hIt p hp
      have hm := N₁ p (lexL_sub1 p hp)
      exact ⟨hk₂ _ _ hne hm.1, hm.2⟩
  · rintro c r zr t h₁ tk₁ ks₁ u₁ rfl hzr F₁ N₁
    refine ⟨_, _, rfl, (N₁ (I, ciObj (.ref BM) (.str (Str.ofString "") ts)) (by simp)).1, (N₁ (BM, methObj 91 (.ref X')) (by simp)).1, F₁.keep _ _ hfn, fun _ => ?_, fun q => absurd q one_ne⟩
    refine wpAny_assign_Name (wpAny_storeName_local hx F₁.ns (fun h₂ hn₂ hs₂ => ?_) hp)
    have hfit₂ : r.length < 2 ^ 20 := by
      rw [List.length_cons] at hfit'
      omega
    refine wpAny_mono (turn c r ln' m' h₂ _ t hJ hfit₂ (F₁.set hn₂ hs₂) ⟨_, _, _, N₁.set hs₂, hzr⟩) (fun f s₃ h₃ => ?_) fun _ _ e => e.elim
    have fin : ∀ {tk₀ : Nat}, CiEnd w mg { s with heap := h₂, toks := tk₀ } h₀ L PB X' D FN CO PY Y DY S CL qual doc ct oc co t1 t2 t3 t4 t5 t6 t7 t8 t9 u2 u3 u4 u5 ((I, ciObj (.ref BM) (.str (Str.ofString "") ts)) :: (BM, methObj 91 (.ref X')) :: tl) J (r.length + 1) s₃ →
        ∃ m_1, m_1 < (c :: r).length ∧ ∃ h' tk m' ln rest, s₃ = { s with heap := h', toks := tk } ∧ Fr h₀ L h' m' ∧ LexSt w mg h₀ L PB X' D FN CO PY Y DY S CL qual doc ct oc co t1 t2 t3 t4 t5 t6 t7 t8 t9 u2 u3 u4 u5 ((I, ciObj (.ref BM) (.str (Str.ofString "") ts)) :: (BM, methObj 91 (.ref X')) :: tl) h' ln rest ∧ J rest ln m' ∧ rest.length < 2 ^ 20 ∧ m_1 = rest.length := by
      intro tk₀ hI9
      refine Classical.byContradiction fun hG => ?_
      obtain ⟨h₄, tk₄, m₄, ln₄, rest₄, rfl, F₄, N₄, hJ₄, hlt⟩ := hI9
      refine hG ?_
      clear hG
      exact ⟨rest₄.length, by rw [List.length_cons]; omega, h₄, tk₄, m₄, ln₄, rest₄, rfl, F₄, N₄, hJ₄, by omega, rfl⟩
    cases f with
    | ret v => exact h₃
    | brk => exact h₃
    | cont => exact fin h₃
    | next => exact fin h₃
end
end
section -- Tk
open PySem PySem.W PyProof.Rows PySem.Calls PySem.Spec
set_option maxRecDepth 100000
set_option maxHeartbeats 8000000
set_option rowWalk.seconds 0

section
variable {w : World} {p : Program} {loose : List Str} {mean : ExcName → Option Value} {mg mb : Str → Option Value} {dp un : Nat} {gd : Option (List Code)} {cn : Str} {cs : Scope} {a : Addr} {ccd : Value} {cl : List (Str × Addr)} {outer : List Env} {A₀ : Around} {base h₀ : Heap} {L : Addr} {m : Str → Option Value} {s : Shared} {Q E : Value → Shared → Prop}
local macro_rules | `(tactic| k_all) => `(tactic| assumption)
local macro_rules | `(tactic| walk_at "mine enterN") => `(tactic| (refine' PySem.W.code_def ?k1 ?k2 ?k3 ?k4 ?k5 ?kA ?kF ?kK ?k6 ?k7 ?k8 ?k9 ?kB ?_ ?c2 ?c3 ?c4 ?c5; (case kA => exact rfl); (case kF => exact rfl); (case kK => assumption); (case k1 => k_asm); (case k2 => k_asm); (case k3 => k_asm); (case k4 => k_asm); (case k5 => k_asm); (case k6 => k_is); (case k7 => k_is); (case k8 => k_room); (case k9 => exact BindsTo.of_eq rfl); (case c5 => decide); (case kB => exact locs rfl); (case c2 => exact rfl); (case c3 => exact rfl); (case c4 => exact rfl); k_whole; intro g' L' h' FG' F' N' B' X' T'; (try dsimp only); (try k_lift B'); (try k_fold)))
local macro_rules | `(tactic| walk_at "call ref") => `(tactic| (k_here; (with_reducible show wpAny _ _ (call (Value.ref 91) _) _ _ _); refine Mine.Stop.mk ?_))
local macro_rules | `(tactic| walk_at "loadName") => `(tactic| (k_here; k_dflt (refine' Mine.loadX_L ?F ?v ?a ?b ?_; (case F => k_asm); (case a => rfl); (case b => rfl); (case v => assumption); k_whole)))
local macro_rules | `(tactic| walk_at "call builtin:iter") => `(tactic| (k_here; k_dflt (refine' Mine.iter2_K ?F ?N ?hm ?_; (case F => k_asm); (case N => k_asm); (case hm => exact List.mem_cons_self)); intro D' h' F' N' l1; (try k_lt l1)))
local macro_rules | `(tactic| walk_at "pyIter ref") => `(tactic| (k_here; refine Mine.Stop.mk ?_))
def PlainCh (c : Nat) : Prop := c ≠ 9 ∧ c ≠ 10 ∧ c ≠ 13 ∧ c ≠ 32 ∧ c ≠ 34 ∧ c ≠ 92
def TokAt (cs : List Nat) (xs : List Nat) (r : List Nat) (nl : Int) : Prop :=
  (cs = [] ∧ xs = [] ∧ r = [] ∧ nl = 0) ∨
  ((∀ c ∈ xs, PlainCh c) ∧ xs ≠ [] ∧ xs.length ≤ 50 ∧ ((cs = xs ++ 32 :: r ∧ nl = 0) ∨ (cs = 34 :: (xs ++ 34 :: r) ∧ nl = 0) ∨ (cs = xs.flatMap (fun c => [92, c]) ++ 10 :: r ∧ nl = 1)))
theorem ws_chars : (Str.ofString "\n\t\x0d ").cps.toList = [10, 9, 13, 32] := by decide +kernel
theorem ws_no {c : Nat} (h : (Builtin.Str.occurrences (Str.ofString "\n\t\x0d ") { cps := #[c] } 0 (Str.ofString "\n\t\x0d ").length 1).isEmpty = true) : c ≠ 10 ∧ c ≠ 9 ∧ c ≠ 13 ∧ c ≠ 32 := by
  have e := StrLaws.found_one (Str.ofString "\n\t\x0d ") c
  rw [h, ws_chars] at e
  have e2 := of_decide_eq_false e.symm
  simp only [List.mem_cons, List.not_mem_nil, or_false, not_or] at e2
  exact e2
theorem ws_yes {c : Nat} (h : (Builtin.Str.occurrences (Str.ofString "\n\t\x0d ") { cps := #[c] } 0 (Str.ofString "\n\t\x0d ").length 1).isEmpty = false) : c = 10 ∨ c = 9 ∨ c = 13 ∨ c = 32 := by
  have e := StrLaws.found_one (Str.ofString "\n\t\x0d ") c
  rw [h, ws_chars] at e
  have e2 := of_decide_eq_true e.symm
  simpa only [List.mem_cons, List.not_mem_nil, or_false] using e2
theorem ws_bad {c : Nat} (h : PlainCh c) (hw : (Builtin.Str.occurrences (Str.ofString "\n\t\x0d ") { cps := #[c] } 0 (Str.ofString "\n\t\x0d ").length 1).isEmpty = false) : False := by
  rcases ws_yes hw with e | e | e | e
  · exact h.2.1 e
  · exact h.1 e
  · exact h.2.2.1 e
  · exact h.2.2.2.1 e
theorem ws_bad_of {c d : Nat} (e : c = d) (hd : d ≠ 10 ∧ d ≠ 9 ∧ d ≠ 13 ∧ d ≠ 32) (hw : (Builtin.Str.occurrences (Str.ofString "\n\t\x0d ") { cps := #[c] } 0 (Str.ofString "\n\t\x0d ").length 1).isEmpty = false) : False := by
  subst e
  rcases ws_yes hw with e | e | e | e
  · exact hd.1 e
  · exact hd.2.1 e
  · exact hd.2.2.1 e
  · exact hd.2.2.2 e
theorem chars_length {zs : List Value} {cs : List Nat} (h : CharsAre zs cs.reverse) : zs.length = cs.length := by rw [strs_length h, List.length_map, List.length_reverse]
theorem part_len {xs ds ts : List Nat} (hx : xs = ds ++ ts) (hl : xs.length ≤ 50) : Str.length ⟨ds.toArray⟩ ≤ 50 := by
  subst hx
  rw [List.length_append] at hl
  exact Nat.le_trans (Nat.le_add_right _ _) hl
theorem qt_eq : Str.ofString "\"" = ⟨#[34]⟩ := by decide +kernel
theorem bs_eq : Str.ofString "\\" = ⟨#[92]⟩ := by decide +kernel
theorem ch_pos {c d : Nat} {x : Str} (e : x = ⟨#[d]⟩) (h : (({ cps := #[c] } : Str) == x) = true) : c = d := by
  have := eq_of_beq h
  rw [e] at this
  injection this with h
  simpa using h
theorem ch_neg {c d : Nat} {x : Str} (e : x = ⟨#[d]⟩) (h : (({ cps := #[c] } : Str) == x) = false) : c ≠ d := by
  rintro rfl
  rw [e] at h
  simp at h
theorem tok_snoc {ds : List Nat} {c : Nat} : (⟨ds.toArray⟩ : Str) ++ (⟨#[c]⟩ : Str) = ⟨(ds ++ [c]).toArray⟩ := by
  apply Str.ext'
  rw [Str.cps_append]
  simp
theorem tok_one {c : Nat} : Str.ofString "" ++ (⟨#[c]⟩ : Str) = ⟨[c].toArray⟩ := by
  apply Str.ext'
  rw [Str.cps_append]
  have : (Str.ofString "").cps = #[] := by decide +kernel
  rw [this]
  simp
theorem emp_eq : Str.ofString "" = ⟨([] : List Nat).toArray⟩ := by decide +kernel
theorem lnF_ne {c : Nat} {ln : Int} (h : c ≠ 10) : lnF c ln = ln := if_neg h
theorem first_ch {cs' xs r0 r : List Nat} {c : Nat} {nl : Int} (hcr : c :: r = cs') (hpl : ∀ c ∈ xs, PlainCh c) (hne : xs ≠ []) (hT : (cs' = xs ++ 32 :: r0 ∧ nl = 0) ∨ (cs' = 34 :: (xs ++ 34 :: r0) ∧ nl = 0) ∨ (cs' = xs.flatMap (fun c => [92, c]) ++ 10 :: r0 ∧ nl = 1)) :
    (PlainCh c ∧ ∃ x', xs = c :: x' ∧ r = x' ++ 32 :: r0 ∧ nl = 0) ∨ (c = 34 ∧ r = xs ++ 34 :: r0 ∧ nl = 0) ∨ (c = 92 ∧ ∃ d x', xs = d :: x' ∧ r = d :: (x'.flatMap (fun c => [92, c]) ++ 10 :: r0) ∧ nl = 1) := by
  cases xs with
  | nil => exact absurd rfl hne
  | cons d x' =>
    have hd := hpl d (.head _)
    rcases hT with ⟨e, hn⟩ | ⟨e, hn⟩ | ⟨e, hn⟩
    · rw [← hcr, List.cons_append] at e
      injection e with e1 e2
      subst e1
      exact .inl ⟨hd, x', rfl, e2, hn⟩
    · rw [← hcr] at e
      injection e with e1 e2
      exact .inr (.inl ⟨e1, e2, hn⟩)
    · rw [← hcr, List.flatMap_cons] at e
      injection e with e1 e2
      exact .inr (.inr ⟨e1, d, x', rfl, e2, hn⟩)
theorem CiEnd.mk {mg : Str → Option Value} {PB X' D FN CO PY Y DY S CL : Addr} {qual : Str} {doc ct : Value} {oc co : Obj} {t1 t2 t3 t4 t5 t6 t7 t8 t9 u2 u3 u4 u5 : Tok} {tl : List (Addr × Obj)} {J : List Nat → Int → (Str → Option Value) → Prop} {n : Nat} {h' : Heap} {tk ks : Nat} {u1 : Tok} {zs : List Value} {m' : Str → Option Value} {ln : Int} {rest : List Nat}
    (F : Fr h₀ L h' m') (N : News h₀ L h' (lexL w.params PB X' D FN CO PY Y DY S CL (pieceObj w.params CL CO qual doc ((mg (Str.ofString "__name__")).getD .none) ct) oc co ks t1 t2 t3 t4 t5 t6 t7 t8 t9 u1 u2 u3 u4 u5 ln zs tl)) (hz : CharsAre zs rest.reverse) (hJ : J rest ln m') (hlt : rest.length < n) :
    CiEnd w mg s h₀ L PB X' D FN CO PY Y DY S CL qual doc ct oc co t1 t2 t3 t4 t5 t6 t7 t8 t9 u2 u3 u4 u5 tl J n { s with heap := h', toks := tk } := ⟨h', tk, m', ln, rest, rfl, F, ⟨ks, u1, zs, N, hz⟩, hJ, hlt⟩
theorem lexL_sub {P : Params} {PB X' D FN CO PY Y DY S CL : Addr} {fno oc co : Obj} {ks : Nat} {t1 t2 t3 t4 t5 t6 t7 t8 t9 u1 u2 u3 u4 u5 : Tok} {ln : Int} {zs : List Value} {q1 q2 : Addr × Obj} {tl : List (Addr × Obj)} :
    ∀ p ∈ lexL P PB X' D FN CO PY Y DY S CL fno oc co ks t1 t2 t3 t4 t5 t6 t7 t8 t9 u1 u2 u3 u4 u5 ln zs tl, p ∈ lexL P PB X' D FN CO PY Y DY S CL fno oc co ks t1 t2 t3 t4 t5 t6 t7 t8 t9 u1 u2 u3 u4 u5 ln zs (q1 :: q2 :: tl) := fun _ hp => mem_in (lexL P PB X' D FN CO PY Y DY S CL fno oc co ks t1 t2 t3 t4 t5 t6 t7 t8 t9 u1 u2 u3 u4 u5 ln zs []) [q1, q2] tl hp
theorem lexL_up2 {P : Params} {PB X' D FN CO PY Y DY S CL : Addr} {fno oc co : Obj} {ks : Nat} {t1 t2 t3 t4 t5 t6 t7 t8 t9 u1 u2 u3 u4 u5 : Tok} {ln : Int} {zs : List Value} {q1 q2 : Addr × Obj} {tl : List (Addr × Obj)} :
    ∀ p ∈ lexL P PB X' D FN CO PY Y DY S CL fno oc co ks t1 t2 t3 t4 t5 t6 t7 t8 t9 u1 u2 u3 u4 u5 ln zs (q1 :: q2 :: tl), p ∈ q1 :: q2 :: lexL P PB X' D FN CO PY Y DY S CL fno oc co ks t1 t2 t3 t4 t5 t6 t7 t8 t9 u1 u2 u3 u4 u5 ln zs tl := fun _ hp => mem_up (lexL P PB X' D FN CO PY Y DY S CL fno oc co ks t1 t2 t3 t4 t5 t6 t7 t8 t9 u1 u2 u3 u4 u5 ln zs []) [q1, q2] tl hp
theorem token_spec {PB X' D FN CO PY Y DY S CL : Addr} {qual : Str} {doc ct : Value} {oc co : Obj} {vs : Array Value} {tq : Tok} {ks : Nat} {t1 t2 t3 t4 t5 t6 t7 t8 t9 u1 u2 u3 u4 u5 : Tok} {ln : Int} {zs : List Value} {tl : List (Addr × Obj)}
    (B : Below A₀ base outer h₀) (F : Fr h₀ L s.heap m) (X : (Mine.hd.heap_1 w.params).In h₀) (T : Top p loose mean mg mb h₀) (hk : cs.kind = .function) (hdp : dp < 600)
    (N : News h₀ L s.heap (lexL w.params PB X' D FN CO PY Y DY S CL (pieceObj w.params CL CO qual doc ((mg (Str.ofString "__name__")).getD .none) ct) oc co ks t1 t2 t3 t4 t5 t6 t7 t8 t9 u1 u2 u3 u4 u5 ln zs tl))
    (hap : LexApart PB X' D FN CO PY Y DY S CL) (hoc : oc.data = .fields vs) (hvs : vs[1]? = some (.str qual tq)) (hco : co.data = .cell (some (.ref S))) (offD : ∀ p ∈ tl, p.1 ≠ D) (offS : ∀ p ∈ tl, p.1 ≠ S)
    (codeHd : CodeHd h₀ 121 117) (hfit : zs.length < 2 ^ 20) {cs' : List Nat} (hcs : CharsAre zs cs'.reverse) {xs r0 : List Nat} {nl : Int} (hT : TokAt cs' xs r0 nl)
    (ret : ∀ t h' tk', Fr h₀ L h' m → LexSt w mg h₀ L PB X' D FN CO PY Y DY S CL qual doc ct oc co t1 t2 t3 t4 t5 t6 t7 t8 t9 u2 u3 u4 u5 tl h' (ln + nl) r0 → Q (.str ⟨xs.toArray⟩ t) { s with heap := h', toks := tk' }) :
    wpAny (model Pr w) (ktrTop dp un gd cn cs L a ccd cl outer) (call (.ref 98) [.ref X']) Q E s := by
  walk_at "mine fill"
  refine wpAny_call ?_
  dsimp only [lexL, entE] at N
  refine Classical.byContradiction fun hG => ?_
  obtain ⟨q1, q2, q3, q4, q5, q6, q7, q8, q9⟩ := id hap
  refine hG ?_
  clear hG
  k_dflt walk_at "mine enterN"
  (try k_fold)
  k_steps
  unfold Stop
  rename_i gF LF _ FG BF XF TF tkI _ _ BM _ lBM ID _ lID _ FF NF
  generalize _ + 1 + 1 + 1 = tkC at NF
  rw [show methodObj (.ref 91) (.ref X') = methObj 91 (.ref X') from rfl] at NF
  have cF : CodeHd gF 121 117 := codeHd.keeps FG.keep
  have nI : ∀ p ∈ (BM, methObj 91 (.ref X')) :: tl, @Ne Nat p.1 ID := by
    intro p hp
    rcases List.mem_cons.mp hp with rfl | hp
    · exact Nat.ne_of_lt lID.1
    · exact Nat.ne_of_lt (allLt_mem lID.2.2.2.2.2.2.2.2.2.2.2 p hp)
  have off' : ∀ {d : Addr}, (∀ p ∈ tl, p.1 ≠ d) → @LT.lt Nat _ d BM → @LT.lt Nat _ d ID → ∀ p ∈ (ID, ciObj (.ref BM) (.str (Str.ofString "") tkC)) :: (BM, methObj 91 (.ref X')) :: tl, p.1 ≠ d := fun h1 h2 h3 p hp => by
    rcases List.mem_cons.mp hp with rfl | hp
    · exact Nat.ne_of_gt h3
    · rcases List.mem_cons.mp hp with rfl | hp
      · exact Nat.ne_of_gt h2
      · exact h1 p hp
  have NS : LexSt w mg gF LF PB X' D FN CO PY Y DY S CL qual doc ct oc co t1 t2 t3 t4 t5 t6 t7 t8 t9 u2 u3 u4 u5 ((ID, ciObj (.ref BM) (.str (Str.ofString "") tkC)) :: (BM, methObj 91 (.ref X')) :: tl) _ ln cs' :=
    ⟨ks, u1, zs, News.sub NF lexL_up2, hcs⟩
  have offD2 := off' offD (by have := lBM.2.2.1; exact this) (by have := lID.2.2.2.1; exact this)
  have offS2 := off' offS (by have := lBM.2.2.2.2.2.2.2.2.1; exact this) (by have := lID.2.2.2.2.2.2.2.2.2.1; exact this)
  have hfit' : cs'.length < 2 ^ 20 := by
    rw [← chars_length hcs]; exact hfit
  refine for_ci (dp := dp + 1) (fun rest ln' m' => rest = cs' ∧ ln' = ln ∧ m' (Str.ofString "fiter") = some (.ref ID) ∧ m' (Str.ofString "self") = some (.ref X') ∧ ∃ t, m' (Str.ofString "token") = some (.str (Str.ofString "") t)) BF FF XF TF rfl (Nat.lt_of_lt_of_le (Nat.succ_lt_succ hdp) (by decide)) NS hap hoc hvs hco offD2 offS2 cF hfit' lID.2.1 nI (XF _ _ rfl) rfl ⟨rfl, rfl, rfl, rfl, _, rfl⟩ ?_ ?_ rfl
  · intro c r ln₁ m₁ h₁ tk₁ tc hJ hrl F₁ N₁
    refine Classical.byContradiction fun hG => ?_
    obtain ⟨hcr, hl, e1, e2, tt, e3⟩ := hJ
    subst ln₁
    rcases hT with ⟨h0, _⟩ | ⟨hpl, hne, hxl, hT⟩
    · exact absurd (hcr.trans h0) (List.cons_ne_nil _ _)
    obtain ⟨ks₁, v₁, zs₁, N₁, hz₁⟩ := N₁
    have hc1 : Str.length ⟨#[c]⟩ = 1 := rfl
    have e3' : m₁ (Str.ofString "token") = some (.str ⟨([] : List Nat).toArray⟩ tt) := by rw [e3, emp_eq]
    have hfc := first_ch hcr hpl hne hT
    rw [lnF_ne (c := c) (by rcases hfc with ⟨h, _⟩ | ⟨h, _⟩ | ⟨h, _⟩ <;> first | exact h.2.1 | (rw [h]; decide))] at N₁
    refine hG ?_
    clear hG
    dsimp only [lexL, entE] at N₁
    (try k_fold)
    k_steps
    · have h34 := ch_pos (c := c) qt_eq (by assumption)
      have hrn : r = xs ++ 34 :: r0 ∧ nl = 0 := by
        rcases hfc with ⟨h, _⟩ | ⟨_, h⟩ | ⟨h, _⟩
        · exact absurd h34 h.2.2.2.2.1
        · exact h
        · exact absurd (h34.symm.trans h) (by decide)
      have hr := hrn.1
      rw [hrn.2, Int.add_zero] at ret
      refine for_ci (dp := dp + 1) (fun rest ln' m' => ∃ ds ts t, xs = ds ++ ts ∧ rest = ts ++ 34 :: r0 ∧ ln' = ln ∧ m' (Str.ofString "self") = some (.ref X') ∧ m' (Str.ofString "token") = some (.str ⟨ds.toArray⟩ t)) BF (by assumption) XF TF rfl (Nat.lt_of_lt_of_le (Nat.succ_lt_succ hdp) (by decide)) (show LexSt w mg gF LF PB X' D FN CO PY Y DY S CL qual doc ct oc co t1 t2 t3 t4 t5 t6 t7 t8 t9 u2 u3 u4 u5 ((ID, ciObj (.ref BM) (.str (Str.ofString "") tkC)) :: (BM, methObj 91 (.ref X')) :: tl) _ ln r from ⟨_, _, _, (by assumption), hz₁⟩) hap hoc hvs hco offD2 offS2 cF hrl lID.2.1 nI (XF _ _ rfl) rfl (by exact ⟨[], xs, tt, rfl, hr, rfl, e2, e3'⟩) ?_ ?_ rfl
      · intro c₂ r₂ ln₂ m₂ h₂ tk₂ tc₂ hJ hrl₂ F₂ N₂
        refine Classical.byContradiction fun hG => ?_
        obtain ⟨ds, todo, t₂, hx₂, hr₂, hl, f1, f2⟩ := hJ
        subst ln₂
        obtain ⟨ks₂, v₂, zs₂, N₂, hz₂⟩ := N₂
        have hc2 : Str.length ⟨#[c₂]⟩ = 1 := rfl
        have hdl : Str.length ⟨ds.toArray⟩ ≤ 50 := part_len hx₂ hxl
        cases todo with
        | nil =>
          injection hr₂ with hc₂ hr₂
          rw [lnF_ne (by rw [hc₂]; decide)] at N₂
          subst hc₂
          refine hG ?_
          clear hG
          dsimp only [lexL, entE] at N₂
          (try k_fold)
          k_steps
          · repeat (dsimp only [CiPost]; k_steps)
            rw [show ds = xs from (hx₂.trans (List.append_nil _)).symm]
            exact ret _ _ _ (by assumption) ⟨_, _, _, News.sub (by assumption) lexL_sub, hr₂ ▸ hz₂⟩
          all_goals exact absurd rfl (ch_neg (c := 34) qt_eq (by assumption))
        | cons d todo =>
          injection hr₂ with hc₂ hr₂
          subst hc₂
          obtain ⟨a1, a2, a3, a4, a5, a6⟩ := hpl c₂ (hx₂ ▸ List.mem_append_right ds (.head _))
          rw [lnF_ne a2] at N₂
          refine hG ?_
          clear hG
          dsimp only [lexL, entE] at N₂
          (try k_fold)
          k_steps
          · exact absurd (ch_pos (c := c₂) qt_eq (by assumption)) a5
          · exact absurd (ch_pos (c := c₂) bs_eq (by assumption)) a6
          · exact CiEnd.mk (by assumption) (by assumption) hz₂ ⟨ds ++ [c₂], todo, _, hx₂.trans (List.append_cons ds c₂ todo), hr₂, rfl, by k_asm, by rw [← tok_snoc]; rfl⟩ (Nat.lt_succ_self _)
      · intro m₂ ln₂ h₂ tk₂ hJ _ _
        exfalso
        obtain ⟨ds, ts, t, hx₂, hr₂, _⟩ := hJ
        cases ts <;> cases hr₂
    · have hq92 := ch_pos (c := c) bs_eq (by assumption)
      refine Classical.byContradiction fun hG => ?_
      obtain ⟨d, x', hxx, hr, hnl⟩ : ∃ d x', xs = d :: x' ∧ r = d :: (x'.flatMap (fun c => [92, c]) ++ 10 :: r0) ∧ nl = 1 := by
        rcases hfc with ⟨h, _⟩ | ⟨h, _⟩ | ⟨_, h⟩
        · exact absurd hq92 h.2.2.2.2.2
        · exact absurd (hq92.symm.trans h) (by decide)
        · exact h
      rw [hnl] at ret
      obtain ⟨a1, a2, a3, a4, a5, a6⟩ := hpl d (hxx ▸ .head _)
      rw [hr] at hz₁ hrl
      refine hG ?_
      clear hG
      unfold Stop
      show wpAny _ _ (call (.ref 91) [.ref X']) _ _ _
      refine wpAny_call (read_cons (u5 := u5) (ln := ln) (c := d) (r := x'.flatMap (fun c => [92, c]) ++ 10 :: r0) (tl := ((ID, ciObj (.ref BM) (.str (Str.ofString "") tkC)) :: (BM, methObj 91 (.ref X')) :: tl)) BF (by assumption) XF TF rfl (Nat.lt_of_lt_of_le (Nat.succ_lt_succ hdp) (by decide)) (by assumption) hap hoc hvs hco offD2 offS2 cF (by rw [chars_length hz₁]; exact hrl) hz₁ ?_)
      rintro zr t' h₃ tk₃ ks₃ u₃ hzr F₃ N₃
      rw [lnF_ne a2] at N₃
      have hc3 : Str.length ⟨#[d]⟩ = 1 := rfl
      have hrl₃ : (x'.flatMap (fun c => [92, c]) ++ 10 :: r0).length < 2 ^ 20 := Nat.lt_of_succ_lt hrl
      dsimp only [lexL, entE] at N₃ ⊢
      (try k_fold)
      k_steps
      refine for_ci (dp := dp + 1) (fun rest ln' m' => ∃ ds ts t, xs = ds ++ ts ∧ rest = (ts.flatMap (fun c => [92, c])) ++ 10 :: r0 ∧ ln' = ln ∧ m' (Str.ofString "self") = some (.ref X') ∧ m' (Str.ofString "token") = some (.str ⟨ds.toArray⟩ t)) BF (by assumption) XF TF rfl (Nat.lt_of_lt_of_le (Nat.succ_lt_succ hdp) (by decide)) (show LexSt w mg gF LF PB X' D FN CO PY Y DY S CL qual doc ct oc co t1 t2 t3 t4 t5 t6 t7 t8 t9 u2 u3 u4 u5 ((ID, ciObj (.ref BM) (.str (Str.ofString "") tkC)) :: (BM, methObj 91 (.ref X')) :: tl) _ ln _ from ⟨_, _, _, (by assumption), hzr⟩) hap hoc hvs hco offD2 offS2 cF hrl₃ lID.2.1 nI (XF _ _ rfl) rfl (by exact ⟨[d], x', _, hxx, rfl, rfl, e2, by rw [← tok_one]; rfl⟩) ?_ ?_ rfl
      · intro c₂ r₂ ln₂ m₂ h₂ tk₂ tc₂ hJ hrl₂ F₂ N₂
        refine Classical.byContradiction fun hG => ?_
        obtain ⟨ds, todo, t₂, hx₂, hr₂, hl, f1, f2⟩ := hJ
        subst ln₂
        obtain ⟨ks₂, v₂, zs₂, N₂, hz₂⟩ := N₂
        have hc2 : Str.length ⟨#[c₂]⟩ = 1 := rfl
        have hdl : Str.length ⟨ds.toArray⟩ ≤ 50 := part_len hx₂ hxl
        cases todo with
        | nil =>
          injection hr₂ with hc₂ hr₂
          rw [show lnF c₂ ln = ln + 1 from if_pos hc₂] at N₂
          subst hc₂
          refine hG ?_
          clear hG
          dsimp only [lexL, entE] at N₂
          (try k_fold)
          k_steps
          all_goals first
            | exact absurd rfl (ws_no (c := 10) (by assumption)).1
            | ((repeat (dsimp only [CiPost]; k_steps)); rw [show ds = xs from (hx₂.trans (List.append_nil _)).symm]; exact ret _ _ _ (by assumption) ⟨_, _, _, News.sub (by assumption) lexL_sub, hr₂ ▸ hz₂⟩)
        | cons d todo =>
          rw [List.flatMap_cons] at hr₂
          injection hr₂ with hc₂ hr₂
          obtain ⟨a1, a2, a3, a4, a5, a6⟩ := hpl d (hx₂ ▸ List.mem_append_right ds (.head _))
          rw [lnF_ne (by rw [hc₂]; decide)] at N₂
          subst hc₂
          rw [hr₂] at hz₂ hrl₂
          refine hG ?_
          clear hG
          dsimp only [lexL, entE] at N₂
          (try k_fold)
          k_steps
          · unfold Stop
            show wpAny _ _ (call (.ref 91) [.ref X']) _ _ _
            refine wpAny_call (read_cons (u5 := u5) (ln := ln) (c := d) (r := todo.flatMap (fun c => [92, c]) ++ 10 :: r0) (tl := ((ID, ciObj (.ref BM) (.str (Str.ofString "") tkC)) :: (BM, methObj 91 (.ref X')) :: tl)) BF (by assumption) XF TF rfl (Nat.lt_of_lt_of_le (Nat.succ_lt_succ hdp) (by decide)) (by assumption) hap hoc hvs hco offD2 offS2 cF (by rw [chars_length hz₂]; exact hrl₂) hz₂ ?_)
            rintro zr t' h₃ tk₃ ks₃ u₃ hzr F₃ N₃
            rw [lnF_ne a2] at N₃
            have hc3 : Str.length ⟨#[d]⟩ = 1 := rfl
            dsimp only [lexL, entE] at N₃ ⊢
            (try k_fold)
            k_steps
            exact CiEnd.mk (by assumption) (by assumption) hzr ⟨ds ++ [d], todo, _, hx₂.trans (List.append_cons ds d todo), rfl, rfl, by k_asm, by rw [← tok_snoc]; rfl⟩ (by rw [hr₂]; exact Nat.lt_succ_of_lt (Nat.lt_succ_self _))
          · exact (ws_bad_of (c := 92) rfl (by decide) (by assumption)).elim
      · intro m₂ ln₂ h₂ tk₂ hJ _ _
        exfalso
        obtain ⟨ds, ts, t, hx₂, hr₂, _⟩ := hJ
        cases ts <;> cases hr₂
    · have hq34 := ch_neg (c := c) qt_eq (by assumption)
      have hq92 := ch_neg (c := c) bs_eq (by assumption)
      refine Classical.byContradiction fun hG => ?_
      obtain ⟨hpc, x', hxx, hr, hnl⟩ : PlainCh c ∧ ∃ x', xs = c :: x' ∧ r = x' ++ 32 :: r0 ∧ nl = 0 := by
        rcases hfc with h | ⟨h, _⟩ | ⟨h, _⟩
        · exact h
        · exact absurd h hq34
        · exact absurd h hq92
      rw [hnl, Int.add_zero] at ret
      refine hG ?_
      clear hG
      refine for_ci (dp := dp + 1) (fun rest ln' m' => ∃ ds ts t, xs = ds ++ ts ∧ rest = ts ++ 32 :: r0 ∧ ln' = ln ∧ m' (Str.ofString "self") = some (.ref X') ∧ m' (Str.ofString "token") = some (.str ⟨ds.toArray⟩ t)) BF (by assumption) XF TF rfl (Nat.lt_of_lt_of_le (Nat.succ_lt_succ hdp) (by decide)) (show LexSt w mg gF LF PB X' D FN CO PY Y DY S CL qual doc ct oc co t1 t2 t3 t4 t5 t6 t7 t8 t9 u2 u3 u4 u5 ((ID, ciObj (.ref BM) (.str (Str.ofString "") tkC)) :: (BM, methObj 91 (.ref X')) :: tl) _ ln r from ⟨_, _, _, (by assumption), hz₁⟩) hap hoc hvs hco offD2 offS2 cF hrl lID.2.1 nI (XF _ _ rfl) rfl (by exact ⟨[c], x', _, hxx, hr, rfl, e2, by rw [← tok_one]; rfl⟩) ?_ ?_ rfl
      · intro c₂ r₂ ln₂ m₂ h₂ tk₂ tc₂ hJ hrl₂ F₂ N₂
        refine Classical.byContradiction fun hG => ?_
        obtain ⟨ds, todo, t₂, hx₂, hr₂, hl, f1, f2⟩ := hJ
        subst ln₂
        obtain ⟨ks₂, v₂, zs₂, N₂, hz₂⟩ := N₂
        have hc2 : Str.length ⟨#[c₂]⟩ = 1 := rfl
        have hdl : Str.length ⟨ds.toArray⟩ ≤ 50 := part_len hx₂ hxl
        cases todo with
        | nil =>
          injection hr₂ with hc₂ hr₂
          rw [lnF_ne (by rw [hc₂]; decide)] at N₂
          subst hc₂
          refine hG ?_
          clear hG
          dsimp only [lexL, entE] at N₂
          (try k_fold)
          k_steps
          all_goals first
            | exact absurd rfl (ws_no (c := 32) (by assumption)).2.2.2
            | ((repeat (dsimp only [CiPost]; k_steps)); rw [show ds = xs from (hx₂.trans (List.append_nil _)).symm]; exact ret _ _ _ (by assumption) ⟨_, _, _, News.sub (by assumption) lexL_sub, hr₂ ▸ hz₂⟩)
        | cons d todo =>
          injection hr₂ with hc₂ hr₂
          subst hc₂
          obtain ⟨a1, a2, a3, a4, a5, a6⟩ := hpl c₂ (hx₂ ▸ List.mem_append_right ds (.head _))
          rw [lnF_ne a2] at N₂
          refine hG ?_
          clear hG
          dsimp only [lexL, entE] at N₂
          (try k_fold)
          k_steps
          · exact absurd (ch_pos (c := c₂) bs_eq (by assumption)) a6
          · exact CiEnd.mk (by assumption) (by assumption) hz₂ ⟨ds ++ [c₂], todo, _, hx₂.trans (List.append_cons ds c₂ todo), hr₂, rfl, by k_asm, by rw [← tok_snoc]; rfl⟩ (Nat.lt_succ_self _)
          · exact (ws_bad (c := c₂) ⟨a1, a2, a3, a4, a5, a6⟩ (by assumption)).elim
      · intro m₂ ln₂ h₂ tk₂ hJ _ _
        exfalso
        obtain ⟨ds, ts, t, hx₂, hr₂, _⟩ := hJ
        cases ts <;> cases hr₂
    · exfalso
      have hw := ws_bad (c := c) (hw := by assumption)
      have hw' := fun d (e : c = d) hd => ws_bad_of (c := c) (d := d) e hd (by assumption)
      rcases hfc with ⟨h, _⟩ | ⟨h, _⟩ | ⟨h, _⟩
      · exact hw h
      · exact hw' _ h (by decide)
      · exact hw' _ h (by decide)
  · intro m₁ ln₁ h₁ tk₁ hJ F₁ N₁
    refine Classical.byContradiction fun hG => ?_
    obtain ⟨hcr, hl, e1, e2, tt, e3⟩ := hJ
    subst ln₁
    obtain ⟨ks₁, v₁, zs₁, N₁, hz₁⟩ := N₁
    rcases hT with ⟨_, hx0, hr0, hn0⟩ | ⟨_, hne, _, hT⟩
    · rw [hn0, Int.add_zero] at ret
      refine hG ?_
      clear hG
      dsimp only [lexL, entE] at N₁
      (try k_fold)
      k_steps
      rw [emp_eq, ← hx0]
      exact ret _ _ _ (by assumption) ⟨_, _, _, News.sub (by assumption) lexL_sub1, by rw [hr0]; exact hz₁⟩
    · rcases hT with ⟨h, _⟩ | ⟨h, _⟩ | ⟨h, _⟩ <;> have h := hcr.trans h
      · cases xs <;> cases h
      · cases h
      · cases xs <;> cases h
end
end
section -- Pw
open PySem PySem.W PyProof.Rows PySem.Calls PySem.Spec
set_option maxRecDepth 100000
set_option maxHeartbeats 8000000
section
variable {w : World} {E : Value → Shared → Prop} {s : Shared}
def bodyFrom (k : Nat) : FuncBody → List Stmt
  | .stmts l => l.drop k
  | _ => []
theorem rest_of {K : Frag} {f : Addr} {oc : Value} {od : Option Addr} {fd : FuncData} {osl : Array (Option Value)} {P : FuncData → Prop} (e : K.lookup f = some ⟨oc, od, .func fd, osl⟩) (h : P fd) : ∀ {oc'} {od'} {fd'} {osl'}, K.lookup f = some ⟨oc', od', .func fd', osl'⟩ → P fd' := by
  intro oc' od' fd' osl' e'
  rw [e] at e'
  injection e' with e'
  injection e' with _ _ e'
  injection e' with e'
  exact e' ▸ h
/-- the text that is left before word k -/
def restF (ds : List Int) : Nat → List Str → List Nat
  | _, [] => []
  | k, x :: r => (pieceF (manF ds k) x).cps.toList ++ restF ds (k + 1) r
def nlM (man : Int) : Int := if man = 0 then 0 else if man = 1 then 0 else 1
def nlF (ds : List Int) : Nat → List Str → Int
  | _, [] => 0
  | k, x :: r => nlM (manF ds k) + nlF ds (k + 1) r
theorem lexL_up {P : Params} {PB X' D FN CO PY Y DY S CL : Addr} {fno oc co : Obj} {ks : Nat} {t1 t2 t3 t4 t5 t6 t7 t8 t9 u1 u2 u3 u4 u5 : Tok} {ln : Int} {zs : List Value} {q1 q2 q3 : Addr × Obj} {tl : List (Addr × Obj)} : ∀ p ∈ lexL P PB X' D FN CO PY Y DY S CL fno oc co ks t1 t2 t3 t4 t5 t6 t7 t8 t9 u1 u2 u3 u4 u5 ln zs (q1 :: q2 :: q3 :: tl), p ∈ q1 :: q2 :: q3 :: lexL P PB X' D FN CO PY Y DY S CL fno oc co ks t1 t2 t3 t4 t5 t6 t7 t8 t9 u1 u2 u3 u4 u5 ln zs tl := fun _ hp => mem_up (lexL P PB X' D FN CO PY Y DY S CL fno oc co ks t1 t2 t3 t4 t5 t6 t7 t8 t9 u1 u2 u3 u4 u5 ln zs []) [q1, q2, q3] tl hp
theorem lexL_dn {P : Params} {PB X' D FN CO PY Y DY S CL : Addr} {fno oc co : Obj} {ks : Nat} {t1 t2 t3 t4 t5 t6 t7 t8 t9 u1 u2 u3 u4 u5 : Tok} {ln : Int} {zs : List Value} {q1 q2 q3 : Addr × Obj} {tl : List (Addr × Obj)} : ∀ p ∈ q1 :: q2 :: q3 :: lexL P PB X' D FN CO PY Y DY S CL fno oc co ks t1 t2 t3 t4 t5 t6 t7 t8 t9 u1 u2 u3 u4 u5 ln zs tl, p ∈ lexL P PB X' D FN CO PY Y DY S CL fno oc co ks t1 t2 t3 t4 t5 t6 t7 t8 t9 u1 u2 u3 u4 u5 ln zs (q1 :: q2 :: q3 :: tl) := fun _ hp => mem_up [q1, q2, q3] (lexL P PB X' D FN CO PY Y DY S CL fno oc co ks t1 t2 t3 t4 t5 t6 t7 t8 t9 u1 u2 u3 u4 u5 ln zs []) tl hp
theorem lexL_up1 {P : Params} {PB X' D FN CO PY Y DY S CL : Addr} {fno oc co : Obj} {ks : Nat} {t1 t2 t3 t4 t5 t6 t7 t8 t9 u1 u2 u3 u4 u5 : Tok} {ln : Int} {zs : List Value} {q1 : Addr × Obj} {tl : List (Addr × Obj)} : ∀ p ∈ lexL P PB X' D FN CO PY Y DY S CL fno oc co ks t1 t2 t3 t4 t5 t6 t7 t8 t9 u1 u2 u3 u4 u5 ln zs (q1 :: tl), p ∈ q1 :: lexL P PB X' D FN CO PY Y DY S CL fno oc co ks t1 t2 t3 t4 t5 t6 t7 t8 t9 u1 u2 u3 u4 u5 ln zs tl := fun _ hp => mem_up (lexL P PB X' D FN CO PY Y DY S CL fno oc co ks t1 t2 t3 t4 t5 t6 t7 t8 t9 u1 u2 u3 u4 u5 ln zs []) [q1] tl hp
theorem lexL_dn1 {P : Params} {PB X' D FN CO PY Y DY S CL : Addr} {fno oc co : Obj} {ks : Nat} {t1 t2 t3 t4 t5 t6 t7 t8 t9 u1 u2 u3 u4 u5 : Tok} {ln : Int} {zs : List Value} {q1 : Addr × Obj} {tl : List (Addr × Obj)} : ∀ p ∈ q1 :: lexL P PB X' D FN CO PY Y DY S CL fno oc co ks t1 t2 t3 t4 t5 t6 t7 t8 t9 u1 u2 u3 u4 u5 ln zs tl, p ∈ lexL P PB X' D FN CO PY Y DY S CL fno oc co ks t1 t2 t3 t4 t5 t6 t7 t8 t9 u1 u2 u3 u4 u5 ln zs (q1 :: tl) := fun _ hp => mem_up [q1] (lexL P PB X' D FN CO PY Y DY S CL fno oc co ks t1 t2 t3 t4 t5 t6 t7 t8 t9 u1 u2 u3 u4 u5 ln zs []) tl hp
theorem nlM_eq {man : Int} : nlM man = 0 ∨ nlM man = 1 := by unfold nlM; by_cases h : man = 0 <;> by_cases h' : man = 1 <;> simp [h, h']
theorem piece_tok {man : Int} {x : Str} {r : List Nat} (hx : x.cps.toList ≠ [] ∧ ∀ c ∈ x.cps.toList, PlainCh c) (hl : x.length ≤ 50) : TokAt ((pieceF man x).cps.toList ++ r) x.cps.toList r (nlM man) := by
  refine .inr ⟨hx.2, hx.1, by rw [Array.length_toList]; exact hl, ?_⟩
  unfold pieceF nlM
  by_cases h0 : man = 0
  · rw [if_pos h0, if_pos h0]
    refine .inl ⟨?_, rfl⟩
    rw [Str.cps_append, Array.toList_append, show (Str.ofString " ").cps.toList = [32] by decide +kernel, List.append_assoc]
    rfl
  · rw [if_neg h0, if_neg h0]
    by_cases h1 : man = 1
    · rw [if_pos h1, if_pos h1]
      refine .inr (.inl ⟨?_, rfl⟩)
      rw [Str.cps_append, Str.cps_append, Array.toList_append, Array.toList_append, show (Str.ofString "\"").cps.toList = [34] by decide +kernel, List.append_assoc]
      simp
    · rw [if_neg h1, if_neg h1]
      refine .inr (.inr ⟨?_, rfl⟩)
      rw [Str.cps_append, Array.toList_append, show (Str.ofString "\n").cps.toList = [10] by decide +kernel, List.append_assoc]
      unfold bsAll
      simp
theorem str_of_list (x : Str) : (⟨x.cps.toList.toArray⟩ : Str) = x := by cases x; simp
theorem piece_len {man : Int} {x : Str} (h : x.length ≤ 50) : (pieceF man x).length ≤ 150 := by
  unfold pieceF
  split
  · rw [PySem.Str.length_append, len_sp]; omega
  · split
    · rw [PySem.Str.length_append, PySem.Str.length_append, len_qt]; omega
    · rw [PySem.Str.length_append, len_nl, bsAll_len]; omega
theorem restF_len {ds : List Int} : ∀ (ws : List Str) (k : Nat), (∀ x ∈ ws, x.length ≤ 50) → (restF ds k ws).length ≤ 150 * ws.length
  | [], _, _ => Nat.le_refl 0
  | x :: r, k, h => by
    have ih := restF_len (ds := ds) r (k + 1) fun y hy => h y (.tail _ hy)
    have hp : (pieceF (manF ds k) x).cps.toList.length ≤ 150 := piece_len (h x (.head _))
    rw [restF, List.length_append, List.length_cons]
    omega
theorem off3_map {I C D : Addr} : ∀ {l l' : List (Addr × Obj)}, l.map (·.1) = l'.map (·.1) → LCg.Off3 I C D l → LCg.Off3 I C D l'
  | [], [], _, _ => trivial
  | [], _ :: _, h, _ => by simp at h
  | _ :: _, [], h, _ => by simp at h
  | p :: r, q :: r', h, o => by
    rw [List.map_cons, List.map_cons] at h
    injection h with h1 h2
    exact ⟨h1 ▸ o.1, off3_map h2 o.2⟩
theorem kes_canLayAll0 : ∀ ns : List Str, (∀ x ∈ ns, PyData.strOk x = true) → PyData.canLayAll0 (ns.map PyData.str) = true
  | [], _ => rfl
  | a :: r, h => by simp [PyData.canLayAll0, PyData.canLay0, kes_canLayAll0 r fun y hy => h y (.tail _ hy), h a (.head _)]
theorem kes_depthAll : ∀ ns : List Str, PyData.depthAll (ns.map PyData.str) = 0
  | [] => rfl
  | _ :: r => by simp [PyData.depthAll, PyData.depth, kes_depthAll r]
theorem kes_shaped (ns : List Str) (h : ∀ x ∈ ns, PyData.strOk x = true) : SeqAt.shaped (.list (ns.map PyData.str)) = true := by
  simp [SeqAt.shaped, PyData.canLay0, PyData.depth, kes_canLayAll0 ns h, kes_depthAll]
theorem kes_sameAll : ∀ ns : List Str, PySem.Spec.sameAll (ns.map PyData.str) (ns.map PyData.str) = true
  | [] => by simp [PySem.Spec.sameAll]
  | a :: r => by simp [PySem.Spec.sameAll, PySem.Spec.same, kes_sameAll r]
theorem kes_carried {vs : List Value} {ns : List Str} (h : StrsAre vs ns) : CarriedAll vs (ns.map PyData.str) := by
  induction h with
  | nil => exact .nil
  | cons a t _ ih => exact .cons (.str _ t) ih
theorem kes_ne {A : Around} {a b : Addr} {xs ys : List Value} {ns : List Str} {Q : Value → Shared → Prop} (ha : s.heap.IsList a xs.toArray) (hb : s.heap.IsList b ys.toArray) (hi : StrsAre xs ns) (hj : StrsAre ys ns) (hok : ∀ x ∈ ns, PyData.strOk x = true) (hu : A.units + 64 < cLine) (h : Q (.bool false) s) :
    wpAny (model Pr w) A (compareOp .NotEq (.ref a) (.ref b)) Q E s :=
  ne_dataH_same (reads_newData ha (kes_carried hi)) (reads_newData hb (kes_carried hj)) (kes_shaped _ hok) (kes_shaped _ hok) hu (SeqAt.noMix_of_shape (.list .str) rfl _ _ (PyProof.Rows.list_map_has fun _ => rfl) (PyProof.Rows.list_map_has fun _ => rfl)) (by rw [show PySem.Spec.same (.list (ns.map PyData.str)) (.list (ns.map PyData.str)) = true by simp only [PySem.Spec.same]; exact kes_sameAll ns]; exact h)
theorem countIn_chars (c : Nat) : ∀ cs : List Nat, Spec.countIn (.str ⟨#[c]⟩) (cs.map fun n => PyData.str ⟨#[n]⟩) = (cs.count c : Nat)
  | [] => rfl
  | d :: r => by
    rw [List.map_cons, Spec.countIn, countIn_chars c r, List.count_cons]
    by_cases h : d = c
    · subst h
      simp [Spec.same]
      omega
    · have h' : (⟨#[d]⟩ : Str) ≠ ⟨#[c]⟩ := fun e => h (by injection e with e; simpa using e)
      have h'' : (⟨#[c]⟩ : Str) ≠ ⟨#[d]⟩ := fun e => h' e.symm
      simp [Spec.same, h, h', h'']
theorem count_chars (x : Str) (c : Nat) : Txt.count x ⟨#[c]⟩ = (x.cps.toList.count c : Nat) := by rw [count_is, countIn_chars]
theorem count_bs {c : Nat} (hc : c ≠ 92) : ∀ cs : List Nat, (cs.flatMap fun d => [92, d]).count c = cs.count c
  | [] => rfl
  | d :: r => by
    rw [List.flatMap_cons, List.count_append, count_bs hc r, List.count_cons]
    by_cases h : d = c
    · subst h
      simp [Ne.symm hc]
      omega
    · simp [Ne.symm hc, h]
theorem piece_count {man : Int} {x : Str} (hx : ∀ c ∈ x.cps.toList, PlainCh c) : ((pieceF man x).cps.toList.count 10 : Int) = nlM man := by
  have h0 : x.cps.toList.count 10 = 0 := List.count_eq_zero.mpr fun h => (hx 10 h).2.1 rfl
  unfold pieceF nlM
  by_cases h1 : man = 0
  · rw [if_pos h1, if_pos h1, Str.cps_append, Array.toList_append, show (Str.ofString " ").cps.toList = [32] by decide +kernel, List.count_append, h0]; rfl
  · rw [if_neg h1, if_neg h1]
    by_cases h2 : man = 1
    · rw [if_pos h2, if_pos h2, Str.cps_append, Str.cps_append, Array.toList_append, Array.toList_append, show (Str.ofString "\"").cps.toList = [34] by decide +kernel, List.count_append, List.count_append, h0]; rfl
    · rw [if_neg h2, if_neg h2, Str.cps_append, Array.toList_append, show (Str.ofString "\n").cps.toList = [10] by decide +kernel, List.count_append]
      unfold bsAll
      rw [show (⟨(x.cps.toList.flatMap fun c => [92, c]).toArray⟩ : Str).cps.toList = x.cps.toList.flatMap fun c => [92, c] by simp, count_bs (by decide), h0]; rfl
theorem restF_count {ds : List Int} : ∀ (ws : List Str) (k : Nat), (∀ x ∈ ws, ∀ c ∈ x.cps.toList, PlainCh c) → ((restF ds k ws).count 10 : Int) = nlF ds k ws
  | [], _, _ => rfl
  | x :: r, k, h => by
    rw [restF, nlF, List.count_append, Int.natCast_add, piece_count (h x (.head _)), restF_count r (k + 1) fun y hy => h y (.tail _ hy)]
theorem written_chars {ds : List Int} {ws : List Str} : ∀ i, i ≤ ws.length → (writtenF ds ws i).cps.toList ++ restF ds i (ws.drop i) = restF ds 0 ws
  | 0, _ => by
    show (Str.ofString "").cps.toList ++ _ = _
    rw [show (Str.ofString "").cps.toList = [] by decide +kernel]; rfl
  | i + 1, hi => by
    rw [← written_chars i (by omega), List.drop_eq_getElem_cons (by omega : i < ws.length), restF, writtenF, Str.cps_append, Array.toList_append, List.append_assoc, List.getD_eq_getElem?_getD, List.getElem?_eq_getElem (by omega)]
    rfl
theorem written_all {ds : List Int} {ws : List Str} : (writtenF ds ws ws.length).cps.toList = restF ds 0 ws := by
  have h := written_chars (ds := ds) (ws := ws) ws.length (Nat.le_refl _)
  rw [List.drop_length, restF, List.append_nil] at h
  exact h
theorem written_count {ds : List Int} {ws : List Str} (h : ∀ x ∈ ws, ∀ c ∈ x.cps.toList, PlainCh c) : Txt.count (writtenF ds ws ws.length) (Str.ofString "\n") = nlF ds 0 ws := by
  rw [nl_eq, count_chars, written_all, restF_count ws 0 h]
end
end
section -- Pk
open PySem PySem.W PyProof.Rows PySem.Calls PySem.Spec
set_option maxRecDepth 100000
set_option maxHeartbeats 8000000
def wordsF (sg : Str) : List Int → List Str
  | [] => []
  | r :: rs => Str.ofString (toString r) :: rs.flatMap fun x => [sg, Str.ofString (toString x)]
def numF (r : Int) : Str := Str.ofString (toString r)
theorem strs_cons {vs : List Value} {x : Str} {xs : List Str} (h : StrsAre vs (x :: xs)) : ∃ t r, vs = .str x t :: r ∧ StrsAre r xs := by
  cases h with
  | cons a t h => exact ⟨t, _, rfl, h⟩
theorem idx_1_5 : sliceRange (sliceBounds (some 1) none (some 2) 5).1 (sliceBounds (some 1) none (some 2) 5).2.1 (sliceBounds (some 1) none (some 2) 5).2.2 = [1, 3] := by decide +kernel
theorem idx_0_5 : sliceRange (sliceBounds (some 0) none (some 2) 5).1 (sliceBounds (some 0) none (some 2) 5).2.1 (sliceBounds (some 0) none (some 2) 5).2.2 = [0, 2, 4] := by decide +kernel
theorem idx_1_7 : sliceRange (sliceBounds (some 1) none (some 2) 7).1 (sliceBounds (some 1) none (some 2) 7).2.1 (sliceBounds (some 1) none (some 2) 7).2.2 = [1, 3, 5] := by decide +kernel
theorem idx_0_7 : sliceRange (sliceBounds (some 0) none (some 2) 7).1 (sliceBounds (some 0) none (some 2) 7).2.1 (sliceBounds (some 0) none (some 2) 7).2.2 = [0, 2, 4, 6] := by decide +kernel
theorem idx_1_9 : sliceRange (sliceBounds (some 1) none (some 2) 9).1 (sliceBounds (some 1) none (some 2) 9).2.1 (sliceBounds (some 1) none (some 2) 9).2.2 = [1, 3, 5, 7] := by decide +kernel
theorem idx_0_9 : sliceRange (sliceBounds (some 0) none (some 2) 9).1 (sliceBounds (some 0) none (some 2) 9).2.1 (sliceBounds (some 0) none (some 2) 9).2.2 = [0, 2, 4, 6, 8] := by decide +kernel
theorem idx_1_11 : sliceRange (sliceBounds (some 1) none (some 2) 11).1 (sliceBounds (some 1) none (some 2) 11).2.1 (sliceBounds (some 1) none (some 2) 11).2.2 = [1, 3, 5, 7, 9] := by decide +kernel
theorem idx_0_11 : sliceRange (sliceBounds (some 0) none (some 2) 11).1 (sliceBounds (some 0) none (some 2) 11).2.1 (sliceBounds (some 0) none (some 2) 11).2.2 = [0, 2, 4, 6, 8, 10] := by decide +kernel
theorem pick_eq {items : Array Value} {a : Int} {m : Nat} {idx : List Nat} (hm : items.size = m) (h : sliceRange (sliceBounds (some a) none (some 2) m).1 (sliceBounds (some a) none (some 2) m).2.1 (sliceBounds (some a) none (some 2) m).2.2 = idx) :
    (slicePick items (some a) none (some 2)).toList = idx.filterMap (items[·]?) := by
  subst hm
  unfold slicePick
  rw [h]
theorem strs_pick {vs : List Value} {xs : List Str} (h : StrsAre vs xs) : ∀ idx : List Nat, StrsAre (idx.filterMap (vs.toArray[·]?)) (idx.filterMap (xs[·]?))
  | [] => .nil
  | i :: r => by
    have ih := strs_pick h r
    rw [List.filterMap_cons, List.filterMap_cons, List.getElem?_toArray]
    cases e : vs[i]? with
    | none =>
      rw [show xs[i]? = none from List.getElem?_eq_none (strs_length h ▸ List.getElem?_eq_none_iff.mp e)]
      exact ih
    | some v =>
      obtain ⟨x, t, hx, rfl⟩ := strs_at h e
      rw [hx]
      exact .cons _ _ ih
theorem pick_two {sg : Str} {rs : List Int} {vs : List Value} {m : Nat} {i1 i0 : List Nat} (h : StrsAre vs (wordsF sg rs)) (hm : (wordsF sg rs).length = m)
    (h1 : sliceRange (sliceBounds (some 1) none (some 2) m).1 (sliceBounds (some 1) none (some 2) m).2.1 (sliceBounds (some 1) none (some 2) m).2.2 = i1)
    (h0 : sliceRange (sliceBounds (some 0) none (some 2) m).1 (sliceBounds (some 0) none (some 2) m).2.1 (sliceBounds (some 0) none (some 2) m).2.2 = i0)
    (e1 : i1.filterMap ((wordsF sg rs)[·]?) = List.replicate (rs.length - 1) sg) (e0 : i0.filterMap ((wordsF sg rs)[·]?) = rs.map numF) :
    StrsAre (slicePick vs.toArray (some 1) none (some 2)).toList (List.replicate (rs.length - 1) sg) ∧ StrsAre (slicePick vs.toArray (some 0) none (some 2)).toList (rs.map numF) := by
  have hs : vs.toArray.size = m := (strs_length h).trans hm
  rw [pick_eq hs h1, pick_eq hs h0, ← e1, ← e0]
  exact ⟨strs_pick h i1, strs_pick h i0⟩
theorem pick_parts {sg : Str} : ∀ {rs : List Int} {vs : List Value}, 3 ≤ rs.length → rs.length ≤ 6 → StrsAre vs (wordsF sg rs) →
    StrsAre (slicePick vs.toArray (some 1) none (some 2)).toList (List.replicate (rs.length - 1) sg) ∧ StrsAre (slicePick vs.toArray (some 0) none (some 2)).toList (rs.map numF)
  | [_, _, _], _, _, _, h => pick_two h rfl idx_1_5 idx_0_5 rfl rfl
  | [_, _, _, _], _, _, _, h => pick_two h rfl idx_1_7 idx_0_7 rfl rfl
  | [_, _, _, _, _], _, _, _, h => pick_two h rfl idx_1_9 idx_0_9 rfl rfl
  | [_, _, _, _, _, _], _, _, _, h => pick_two h rfl idx_1_11 idx_0_11 rfl rfl
  | [], _, h, _, _ => absurd h (show ¬ 3 ≤ 0 by decide)
  | [_], _, h, _, _ => absurd h (show ¬ 3 ≤ 1 by decide)
  | [_, _], _, h, _, _ => absurd h (show ¬ 3 ≤ 2 by decide)
  | _ :: _ :: _ :: _ :: _ :: _ :: _ :: r, _, _, h, _ => absurd h (Nat.not_le.mpr (Nat.le_add_left 7 r.length))
theorem flat_len {sg : Str} : ∀ rs : List Int, (rs.flatMap fun x => [sg, Str.ofString (toString x)]).length = 2 * rs.length
  | [] => rfl
  | r :: rs => by rw [List.flatMap_cons, List.length_append, flat_len rs, List.length_cons]; simp; omega
theorem words_len {sg : Str} : ∀ {rs : List Int}, (wordsF sg rs).length = 2 * rs.length - 1
  | [] => rfl
  | r :: rs => by rw [wordsF, List.length_cons, flat_len, List.length_cons]; omega
def IsSign (sg : Str) : Prop := sg = Str.ofString "+" ∨ sg = Str.ofString "-" ∨ sg = Str.ofString "->" ∨ sg = Str.ofString "~"
def WordOk (x : Str) : Prop := x.length ≤ 50 ∧ PyData.strOk x = true ∧ x.cps.toList ≠ [] ∧ ∀ c ∈ x.cps.toList, PlainCh c
theorem word_of {x : Str} {l : List Nat} (e : x.cps.toList = l) (h1 : l.length ≤ 50) (h2 : l ≠ []) (h3 : ∀ c ∈ l, PlainCh c ∧ c < 1114112) : WordOk x := by
  subst e
  refine ⟨by rw [Array.length_toList] at h1; exact h1, ?_, h2, fun c hc => (h3 c hc).1⟩
  show x.cps.all _ = true
  rw [← Array.all_toList, List.all_eq_true]
  intro c hc
  exact decide_eq_true (h3 c hc).2
theorem sign_ok {sg : Str} (h : IsSign sg) : WordOk sg := by
  have pl : ∀ l : List Nat, (∀ c ∈ l, c = 43 ∨ c = 45 ∨ c = 62 ∨ c = 126) → ∀ c ∈ l, PlainCh c ∧ c < 1114112 := fun l hl c hc => by
    unfold PlainCh
    rcases hl c hc with rfl | rfl | rfl | rfl <;> decide
  rcases h with rfl | rfl | rfl | rfl
  · exact word_of (show _ = [43] by decide +kernel) (by decide) (by decide) (pl _ (by simp))
  · exact word_of (show _ = [45] by decide +kernel) (by decide) (by decide) (pl _ (by simp))
  · exact word_of (show _ = [45, 62] by decide +kernel) (by decide) (by decide) (pl _ (by simp))
  · exact word_of (show _ = [126] by decide +kernel) (by decide) (by decide) (pl _ (by simp))
theorem num_ok {r : Int} (h0 : 0 ≤ r) (h1 : r < 10 ^ 10) : WordOk (Str.ofString (toString r)) := by
  have hl := KT.len_num h0 h1
  obtain ⟨m, rfl⟩ := Int.eq_ofNat_of_zero_le h0
  have e := KIN.signs_num m
  refine word_of e ?_ ?_ ?_
  · rw [← e, Array.length_toList]; exact Nat.le_trans hl (by decide)
  · intro q
    have h := toDigits_len_ge 10 m
    rw [List.map_eq_nil_iff.mp q] at h
    exact absurd h (by decide)
  · intro c hc
    obtain ⟨ch, hch, e⟩ := List.mem_map.mp hc
    have r := digit_range (Nat.isDigit_of_mem_toDigits (by decide) (by decide) hch)
    rw [← e]
    unfold PlainCh
    omega
theorem words_ok {sg : Str} (hs : IsSign sg) : ∀ {rs : List Int}, (∀ r ∈ rs, 0 ≤ r ∧ r < 10 ^ 10) → ∀ x ∈ wordsF sg rs, WordOk x
  | [], _, x, hx => nomatch hx
  | r :: rs, h, x, hx => by
    rw [wordsF] at hx
    rcases List.mem_cons.mp hx with rfl | hx
    · exact num_ok (h r (.head _)).1 (h r (.head _)).2
    · obtain ⟨y, hy, hx⟩ := List.mem_flatMap.mp hx
      simp only [List.mem_cons, List.not_mem_nil, or_false] at hx
      rcases hx with rfl | rfl
      · exact sign_ok hs
      · exact num_ok (h y (.tail _ hy)).1 (h y (.tail _ hy)).2
theorem words_snoc {sg : Str} {r0 : Int} {rt : List Int} {i : Nat} {r : Int} (h : rt[i]? = some r) : wordsF sg (r0 :: rt.take (i + 1)) = wordsF sg (r0 :: rt.take i) ++ [sg, Str.ofString (toString r)] := by
  rw [wordsF, wordsF, List.take_add_one, h, List.flatMap_append, List.cons_append]
  simp
end
section -- Ia
open PySem PySem.W PyProof.Rows PySem.Calls PySem.Spec
set_option maxRecDepth 100000
set_option maxHeartbeats 8000000
theorem lk_list_iadd : typeLookup (.type "list") (dunderI "add") = pure (some (.builtin "list.__iadd__")) := PySem.F.slot_list_iadd.lookup
theorem seq_iadd : isSeqSlot (some (.builtin "list.__iadd__")) = true := by decide +kernel
section
variable {prog : Program} {w : World} {A : Around} {E : Value → Shared → Prop} {s : Shared} {h₀ : Heap} {L : Addr} {m : Str → Option Value} {news news' : List (Addr × Obj)}
theorem iadd_lists {l b : Addr} {items items2 : Array Value} {n n2 : Nat} {Q : Value → Shared → Prop} (hl : s.heap.get? l = some (listOf items n)) (hb : s.heap.get? b = some (listOf items2 n2)) (hsz : items.size + items2.size ≤ 1000)
    (h : Q (.ref l) { s with heap := s.heap.update l (Obj.mapSeq fun x => x ++ items2) }) : wpAny (model prog w) A (inplaceOp .Add (.ref l) (.ref b)) Q E s := by
  have ha : s.TypeIs (.ref l) "list" := ⟨_, hl, rfl⟩
  have hB : s.TypeIs (.ref b) "list" := ⟨_, hb, rfl⟩
  have hfi : fillsInplaceSlot (.type "list") "add" (Operator.Add == .Add) = pure false := by
    unfold fillsInplaceSlot
    show (typeLookup (.type "list") (dunderI "add") >>= fun fi => pure (fi.isSome && !isSeqSlot fi)) = pure false
    rw [lk_list_iadd]
    show (pure (true && !isSeqSlot (some (.builtin "list.__iadd__"))) : Sem Bool) = pure false
    rw [seq_iadd]; rfl
  have hsi : seqSlot? (.type "list") (dunderI "add") = pure (some (.builtin "list.__iadd__")) := by
    unfold seqSlot?
    rw [lk_list_iadd]
    rfl
  unfold inplaceOp
  refine wpAny_holding ?_
  refine wpAny_bind (wpAny_typeOf ha (wpAny_bind (wpAny_of_eq hfi ?_)))
  show wpAny _ A (if false = true then _ else _) Q E s
  rw [if_neg Bool.false_ne_true]
  refine wpAny_bind (wpAny_binaryOp1_none (nm := "add") ha hB noFill_list_add ?_)
  refine wpAny_bind (wpAny_of_eq hsi ?_)
  refine wpAny_bind (wpAny_rule ?_)
  refine call_meets PySem.F.slot_list_iadd ha PySem.F.entry_list_iadd (PySem.F.args_list_iadd_2 _ _) (AutoSeq1.list___iadd___list_list_0 l items n b items2 n2 ?_ ?_ ?_) ⟨hl, hb, h⟩
  · have e : Builtin.List.listTooLong (items.size + items2.size) = false := by unfold Builtin.List.listTooLong; rw [sizeLine_eq]; exact decide_eq_false (by omega)
    rw [e, Bool.and_false]; exact Bool.false_ne_true
  · rw [sizeLine_eq]; omega
  · rw [sizeLine_eq]; omega
theorem iadd_K {D b : Addr} {its its2 : Array Value} {n n2 : Nat} {Q : Value → Shared → Prop} (F : Fr h₀ L s.heap m) (N : News h₀ L s.heap news) (U : Upd D (listOf its n) (listOf (its ++ its2) (n + 1)) news news') (hb : (b, listOf its2 n2) ∈ news) (hsz : its.size + its2.size ≤ 1000) (hp : 0 < its2.size)
    (h : ∀ h', Fr h₀ L h' m → News h₀ L h' news' → Q (.ref D) { s with heap := h' }) : wpAny (model prog w) A (inplaceOp .Add (.ref D) (.ref b)) Q E s := by
  obtain ⟨pre, post, rfl, rfl, a, b'⟩ := U.split
  have z := N (D, listOf its n) (List.mem_append.mpr (.inr (.head _)))
  refine iadd_lists z.1 (N _ hb).1 hsz (h _ (F.change (Heap.SameBut.update ..) z.2.1 z.2.2) (news_set N a b' (Heap.SameBut.update ..) ?_))
  have e : Obj.mapSeq (fun x => x ++ its2) (listOf its n) = listOf (its ++ its2) (n + 1) := by
    show (Obj.mk _ _ (.seq (its ++ its2) (if (its ++ its2).size == its.size then n else n + 1)) _) = Obj.mk _ _ (.seq (its ++ its2) (n + 1)) _
    rw [if_neg (by rw [Array.size_append]; simp; intro q; rw [q] at hp; simp at hp)]
  rw [← e]
  exact Heap.get?_update_self (Obj.mapSeq fun x => x ++ its2) z.1 rfl
end
end
section -- Le
open PySem PySem.W PyProof.Rows PySem.Calls PySem.Spec
set_option maxRecDepth 100000
set_option maxHeartbeats 8000000
set_option rowWalk.seconds 0

section
variable {w : World} {p : Program} {loose : List Str} {mean : ExcName → Option Value} {mg mb : Str → Option Value} {dp un : Nat} {gd : Option (List Code)} {cn : Str} {cs : Scope} {a : Addr} {ccd : Value} {cl : List (Str × Addr)} {outer : List Env} {A₀ : Around} {base h₀ : Heap} {L : Addr} {m : Str → Option Value} {s : Shared} {Q E : Value → Shared → Prop}
local macro_rules | `(tactic| walk_at "loadName") => `(tactic| (k_here; k_dflt (refine' Mine.loadX_L ?F ?v ?a ?b ?_; (case F => k_asm); (case a => rfl); (case b => rfl); (case v => assumption); k_whole)))
local macro_rules | `(tactic| walk_at "call ref") => `(tactic| (k_here; refine Mine.Stop.mk ?_))
local macro_rules | `(tactic| walk_at "subscriptTail Name Slice ref ref") => `(tactic| (k_here; refine Mine.Stop.mk ?_))
local macro_rules | `(tactic| walk_at "subscriptTail") => `(tactic| (k_here; refine Mine.Stop.mk ?_))
def kindOf (sg : Str) : Int := if sg = Str.ofString "+" then 14 else if sg = Str.ofString "-" then 15 else if sg = Str.ofString "->" then 51 else 31
/-- what the law asks of the numbers -/
structure LawOk (sg : Str) (rs : List Int) : Prop where
  fit : ∀ j, j + 1 < rs.length → ∀ c ∈ newLine (kindOf sg) (tabF (kindOf sg) rs j) rs.length, c.length < 2 ^ 20
  size : (resF (kindOf sg) rs).length < 1000
  same : ((resF (kindOf sg) rs).map fun v => signsT (kindOf sg) v rs).length = (toldF sg rs.length).length
  ok : ∀ (i : Nat) (v : Int) (x : Str), (resF (kindOf sg) rs)[i]? = some v → ((resF (kindOf sg) rs).map fun v => signsT (kindOf sg) v rs)[i]? = some x →
    ((((resF (kindOf sg) rs).map fun v => signsT (kindOf sg) v rs).map fun o => collF o x).count 1 : Int) = (((resF (kindOf sg) rs).map fun v => signsT (kindOf sg) v rs).length : Int) - 1 - ((((resF (kindOf sg) rs).map fun v => signsT (kindOf sg) v rs).map fun o => collF o x).count (-1) : Nat) ∧
      (toldF sg rs.length)[(((resF (kindOf sg) rs).map fun v => signsT (kindOf sg) v rs).map fun o => collF o x).count (-1)]? = some x ∧
      ((resF (kindOf sg) rs).countP fun o => decide (v < o)) = (((resF (kindOf sg) rs).map fun v => signsT (kindOf sg) v rs).map fun o => collF o x).count (-1)
theorem slice3_strs {A : Around} {news : List (Addr × Obj)} {value slice : Expr} {l : Addr} {vs : List Value} {xs : List Str} {vl vu vk : Value} {lo up st : Option Int} {ops : List Value} {Q : Value → Shared → Prop} (F : Fr h₀ L s.heap m) (N : News h₀ L s.heap news) (hl : s.heap.IsList l vs.toArray) (pl : IsPart vl lo) (pu : IsPart vu up) (pk : IsPart vk st) (h0 : st ≠ some 0)
    (hx : StrsAre (slicePick vs.toArray lo up st).toList xs)
    (h : ∀ D zs h', Fr h₀ L h' m → News h₀ L h' ((D, listOf zs.toArray 0) :: news) → (∀ p ∈ news, p.1 < D) → StrsAre zs xs → Q (.ref D) { s with heap := h' })
    (hs : subscripted slice false (.ref l) (.ref s.heap.objs.size) = operate ops (getItem (.ref l) (.ref s.heap.objs.size))) (ht : ∀ r, letTemporaryGo value (.ref l) r = pure ()) (hz : vs.toArray.size ≤ sizeLine) :
    wpAny (model Pr w) A (subscriptTail value slice (.ref l) (.ref s.heap.objs.size)) Q E { s with heap := s.heap.push { cls := .type "slice", data := .fields #[vl, vu, vk] } } :=
  kmk_slice3_lit F N hl pl pu pk h0 rfl (fun D h' F' N' l1 => h D _ h' F' N' l1 hx) hs ht hz
theorem News.fresh {h : Heap} {news : List (Addr × Obj)} {D : Addr} {o : Obj} (F : Fr h₀ L s.heap m) (N : News h₀ L s.heap news) (hk : ∀ b o, s.heap.get? b = some o → h.get? b = some o) (hn : s.heap.get? D = none) (hd : h.get? D = some o) :
    News h₀ L h ((D, o) :: news) ∧ ∀ p ∈ news, p.1 ≠ D := by
  have hne : ∀ p ∈ news, p.1 ≠ D := fun p hp e => by rw [← e, (N p hp).1] at hn; cases hn
  refine ⟨fun p hp => ?_, hne⟩
  rcases List.mem_cons.mp hp with rfl | hp
  · refine ⟨hd, fun e => ?_, ?_⟩
    · obtain ⟨oL, _, _, hL, _⟩ := F.ns
      have e' : D = L := e
      rw [e', hL] at hn
      cases hn
    · cases e : h₀.get? D with
      | none => rfl
      | some o' => rw [F.keep _ _ e] at hn; cases hn
  · exact ⟨hk _ _ (N p hp).1, (N p hp).2⟩
theorem law_E {oc od osl} {fd : FuncData} {rest : List Stmt} {sc : Scope} (ho : (Mine.hd.heap_1 w.params).lookup 166 = some ⟨oc, od, .func fd, osl⟩) (hb : bodyFrom 11 fd.body = rest) (hsc : fd.scope = sc) {fa : Addr} {cd : Value} {Q : Flow → Shared → Prop}
    (K' : Below callerA h₀ [] h₀) (F : Fr h₀ L s.heap m) (X' : (Mine.hd.heap_1 w.params).In h₀) (T' : Top p loose mean mg mb h₀)
    {rd lr : Addr} {krd kr : Nat} {vrd vr : List Value} {c1 c2 c3 c4 : Obj} {rs : List Int} {sg : Str} {tsg : Tok} {w1 w2 : Value} {ps7 : Array Value}
    (N : News h₀ L s.heap [(rd, W.listOf vrd.toArray krd), (lr, W.listOf vr.toArray kr), (L + 1 + 1 + 1 + 1, c4), (L + 1 + 1 + 1, c3), (L + 1 + 1, c2), (L + 1, c1), (117, tabObj ps7)])
    (lt2 : @LT.lt Nat _ (L + 1 + 1 + 1 + 1) lr) (lt3 : @Ne Nat rd lr) (ne4 : @Ne Nat rd (L + 1 + 1 + 1 + 1)) (ne3 : @Ne Nat rd (L + 1 + 1 + 1)) (ne2 : @Ne Nat rd (L + 1 + 1)) (ne1 : @Ne Nat rd (L + 1)) (ne0 : @Ne Nat rd 117) (l0 : @LT.lt Nat _ 117 L)
    (d4 : c4.data = .cell none) (d3 : c3.data = .cell none) (d2 : c2.data = .cell (some w2)) (d1 : c1.data = .cell (some w1))
    (m1 : m (Str.ofString "read") = some (.ref rd)) (m3 : m (Str.ofString "row") = some (.ref lr)) (m4 : m (Str.ofString "sign") = some (.str sg tsg))
    (iw : StrsAre vrd (wordsF sg rs)) (ir : IntsAre vr rs) (hsg : IsSign sg) (hn3 : 3 ≤ rs.length) (hn6 : rs.length ≤ 6) (hrs : ∀ r ∈ rs, 0 ≤ r ∧ r < 10 ^ 10) (law : LawOk sg rs)
    (ret : ∀ h' tk' m', Fr h₀ L h' m' → GrownAt 117 h' → Q (.ret (.bool true)) { s with heap := h', toks := tk' }) :
    wpAny (model Pr w) (callerA.deeper (envOfC (Str.ofString "law") sc L fa cd)) (execs rest (envOfC (Str.ofString "law") sc L fa cd)) Q E s := by
  revert rest sc
  refine rest_of (fd' := fd) (P := fun fd => ∀ {rest : List Stmt} {sc : Scope}, bodyFrom 11 fd.body = rest → fd.scope = sc → wpAny (model Pr w) (callerA.deeper (envOfC (Str.ofString "law") sc L fa cd)) (execs rest (envOfC (Str.ofString "law") sc L fa cd)) Q E s) rfl ?_ ho
  intro rest sc hb hsc
  subst hb
  dsimp only [bodyFrom, List.drop]
  dsimp only at hsc
  subst hsc
  walk_at "mine fill"
  have hvw := strs_length iw
  have hwl : (wordsF sg rs).length ≤ 20 := by rw [words_len]; omega
  obtain ⟨hpk1, hpk2⟩ := pick_parts hn3 hn6 iw
  (try k_fold)
  k_steps
  unfold Stop
  k_dflt (refine' Mine.slice3_strs ?g1 ?g2 ?g3 ?g4 ?g5 ?g6 ?g7 hpk1 ?_ ?g8 ?g9 ?g10)
  case g1 => k_asm
  case g2 => k_asm
  case g3 => kmk_list
  case g4 => kmk_part
  case g5 => kmk_part
  case g6 => kmk_part
  case g7 => decide
  case g8 => with_unfolding_all rfl
  case g9 => kmk_pure
  case g10 => rw [sizeLine_eq, List.size_toArray, hvw]; omega
  intro D1 zs1 h1 F1 N1 l1 i1
  (try k_lt l1)
  k_steps
  unfold Stop
  refine LCg.CompSrc.ledger rfl (by assumption) (by assumption) (.head _) (by rw [List.size_toArray, strs_length i1, List.length_replicate, sizeLine_eq]; omega) ?_
  intro g
  refine compRest_m (fun i zs => IntsAre zs (List.replicate i (kindOf sg))) (.inr ⟨_, .head _, rfl, _, rfl⟩) ?_ ?_ .nil
  · intro j zs u I oI C oC Dc m₂ h₂ tk₂ E₂ hj hJ2 hu hC hx₂ F₂ N₂ off ne
    refine Classical.byContradiction fun hG => ?_
    obtain ⟨y, t, hy, rfl⟩ := strs_at i1 (by simpa using hu)
    obtain rfl : y = sg := by
      have := List.mem_of_getElem? hy
      exact (List.mem_replicate.mp this).2
    refine hG ?_
    clear hG
    (try k_fold)
    k_steps
    unfold Stop
    rcases hsg with rfl | rfl | rfl | rfl
    all_goals
      refine' topItem_K ?F ?X ?l ?k ?e ?_
      case F => k_asm
      case X => k_asm
      case l => k_is
      case k => k_keys
      case e => k_is
      exact EltEnd.mk (by assumption) (by assumption) (by rw [List.replicate_succ']; exact ints_snoc hJ2)
  · intro zs hzs
    rw [List.size_toArray, strs_length i1, List.length_replicate] at hzs
    intro D₃ h₃ tk₃ F₃ N₃ o₃
    simp only [LCg.Off1, and_true] at o₃
    dsimp only
    (try k_fold)
    k_steps
    unfold Stop
    k_dflt (refine' Mine.slice3_strs ?g1 ?g2 ?g3 ?g4 ?g5 ?g6 ?g7 hpk2 ?_ ?g8 ?g9 ?g10)
    case g1 => k_asm
    case g2 => k_asm
    case g3 => kmk_list
    case g4 => kmk_part
    case g5 => kmk_part
    case g6 => kmk_part
    case g7 => decide
    case g8 => with_unfolding_all rfl
    case g9 => kmk_pure
    case g10 => rw [sizeLine_eq, List.size_toArray, hvw]; omega
    intro D2 zs2 h2 F2 N2 l2 i2
    (try k_lt l2)
    k_steps
    unfold Stop
    refine LCg.CompSrc.ledger rfl (by assumption) (by assumption) (.head _) (by rw [List.size_toArray, strs_length i2, List.length_map, sizeLine_eq]; omega) ?_
    intro g
    refine compRest_m (fun i ys => IntsAre ys (rs.take i)) (.inr ⟨_, .head _, rfl, _, rfl⟩) ?_ ?_ .nil
    · intro j ys u I oI C oC Dc m₂ h₂ tk₂ E₂ hj hJ2 hu hC hx₂ F₂ N₂ off ne
      refine Classical.byContradiction fun hG => ?_
      obtain ⟨y, t, hy, rfl⟩ := strs_at i2 (by simpa using hu)
      rw [List.getElem?_map] at hy
      obtain ⟨r, hr, rfl⟩ := Option.map_eq_some_iff.mp hy
      obtain ⟨hr0, hr1⟩ := hrs r (List.mem_of_getElem? hr)
      rw [numF] at hx₂
      refine hG ?_
      clear hG
      (try k_fold)
      k_steps
      exact EltEnd.mk (by assumption) (by assumption) (by rw [List.take_add_one, hr]; exact ints_snoc hJ2)
    · intro ys hys
      rw [List.size_toArray, strs_length i2, List.length_map, List.take_length] at hys
      intro D₄ h₄ tk₄ F₄ N₄ o₄
      simp only [LCg.Off1, and_true] at o₄
      dsimp only
      (try k_fold)
      k_steps
      unfold Stop
      have hzl := hzs.length
      rw [List.length_replicate] at hzl
      rename_i N5 _
      k_dflt (refine' Mine.results_spec (dp := callerA.depth + 1) (kind := kindOf sg) (ns := rs) ?k1 ?k2 ?k3 ?k4 rfl (by decide) ?k5 ?k6 hzs hys (by omega) hn6 law.fit ?_)
      case k1 => k_asm
      case k2 => k_asm
      case k3 => k_asm
      case k4 => k_asm
      case k5 => is_list
      case k6 => is_list
      intro D5 ys5 k5 h5 tk5 i5 kp5 hn5 hd5
      have F5 := Fr.keeps (by k_asm) kp5
      obtain ⟨N6, ne6⟩ := News.fresh (by assumption) N5 kp5 hn5 hd5
      simp only [List.forall_mem_cons, List.not_mem_nil, false_imp_iff, forall_const, and_true] at ne6
      k_steps
      unfold Stop
      have hsz5 := law.size
      have hyl5 := i5.length
      obtain ⟨tk0, hk0⟩ := hzs.get 0 (kindOf sg) (by rw [List.getElem?_replicate]; simp; omega)
      refine LCg.CompSrc.ledger rfl (by assumption) (by assumption) (.head _) (by rw [List.size_toArray, hyl5, sizeLine_eq]; omega) ?_
      intro g
      refine compRest_m (fun i us => StrsAre us (((resF (kindOf sg) rs).take i).map fun v => signsT (kindOf sg) v rs)) (.inr ⟨_, .head _, rfl, _, rfl⟩) ?_ ?_ .nil
      · intro j us u I oI C oC Dc m₂ h₂ tk₂ E₂ hj hJ2 hu hC hx₂ F₂ N₂ off ne
        refine Classical.byContradiction fun hG => ?_
        obtain ⟨v, t, hv, rfl⟩ := IntsAre.at' i5 (by simpa using hu)
        refine hG ?_
        clear hG
        (try k_fold)
        k_steps
        unfold Stop
        refine tail_list (by is_list) (by decide) (by decide) hk0 ?_
        k_steps
        unfold Stop
        k_dflt (refine' Mine.signs_spec (dp := callerA.depth + 1) (ns := rs) ?k1 ?k2 ?k3 ?k4 rfl (by decide) ?k5 hys (by omega) ?_)
        case k1 => k_asm
        case k2 => k_asm
        case k3 => k_asm
        case k4 => k_asm
        case k5 => is_list
        intro x9 t9 h9 tk9 e9 kp9
        have F9 := Fr.keeps (by k_asm) kp9
        have N9 := News.grown N₂ kp9
        exact EltEnd.mk F9 N9 (by rw [List.take_add_one, hv, List.map_append, e9]; exact hJ2.append' (.cons _ _ .nil))
      · intro us hus
        rw [List.size_toArray, hyl5, List.take_length] at hus
        intro D7 h7 tk7 F7 N7 o7
        simp only [LCg.Off1, and_true] at o7
        dsimp only
        (try k_fold)
        k_steps
        unfold Stop
        k_dflt (refine' Mine.told_spec (dp := callerA.depth + 1) ?k1 ?k2 ?k3 ?k4 rfl (by decide) hn6 ?_)
        case k1 => k_asm
        case k2 => k_asm
        case k3 => k_asm
        case k4 => k_asm
        intro D8 ys8 k8 h8 tk8 i8 kp8 hn8 hd8
        have F8' := Fr.keeps F7 kp8
        obtain ⟨N8, ne8⟩ := News.fresh F7 N7 kp8 hn8 hd8
        simp only [List.forall_mem_cons, List.not_mem_nil, false_imp_iff, forall_const, and_true] at ne8
        k_steps
        unfold Stop
        have hsame := law.same
        k_dflt (refine' Mine.placed_spec (dp := callerA.depth + 1) (rs := resF (kindOf sg) rs) (ts := (resF (kindOf sg) rs).map fun v => signsT (kindOf sg) v rs) (td := toldF sg rs.length) ?k1 ?k2 ?k3 ?k4 rfl (by decide) ?k5 ?k6 ?k7 i5 hus i8 hsame (by rw [← hsame, List.length_map]; exact hsz5) hsz5 law.ok ?_)
        case k1 => k_asm
        case k2 => k_asm
        case k3 => k_asm
        case k4 => k_asm
        case k5 => is_list
        case k6 => is_list
        case k7 => is_list
        intro h9 tk9 kp9
        exact ret _ _ _ (Fr.keeps F8' kp9) ⟨ps7, kp9 _ _ (N8 (117, tabObj ps7) (by simp)).1⟩
end
end
section -- Ld
open PySem PySem.W PyProof.Rows PySem.Calls PySem.Spec
set_option maxRecDepth 100000
set_option maxHeartbeats 8000000
set_option rowWalk.seconds 0

section
variable {w : World} {p : Program} {loose : List Str} {mean : ExcName → Option Value} {mg mb : Str → Option Value} {dp un : Nat} {gd : Option (List Code)} {cn : Str} {cs : Scope} {a : Addr} {ccd : Value} {cl : List (Str × Addr)} {outer : List Env} {A₀ : Around} {base h₀ : Heap} {L : Addr} {m : Str → Option Value} {s : Shared} {Q E : Value → Shared → Prop}
local macro_rules | `(tactic| walk_at "mine pad") => `(tactic| skip)
local macro_rules | `(tactic| walk_at "loadName") => `(tactic| (k_here; k_dflt (refine' Mine.loadX_L ?F ?v ?a ?b ?_; (case F => k_asm); (case a => rfl); (case b => rfl); (case v => assumption); k_whole)))
local macro_rules | `(tactic| k_all) => `(tactic| assumption)
local macro_rules | `(tactic| walk_at "call ref") => `(tactic| (k_here; (with_reducible show wpAny _ _ (call (Value.ref 98) _) _ _ _); refine Mine.Stop.mk ?_))
local macro_rules | `(tactic| walk_at "compareOp NotEq ref ref") => `(tactic| (k_here; refine Mine.Stop.mk ?_))
local macro_rules | `(tactic| walk_at "execs cons") => `(tactic| (k_here; (with_reducible show wpAny _ _ (execs [_, _, _, _, _] _) _ _ _); refine Mine.Stop.mk ?_))
theorem off_low {l : Addr} {lw ld lr cl d : Nat} {o1 o2 o3 o4 o5 o6 o7 o8 : Obj} (l0 : @LT.lt Nat _ 117 l) (lt1 : @LT.lt Nat _ (l + 1 + 1 + 1 + 1) ld) (lt2 : ld < lr) (lt3 : lr < lw) (lt4 : lw < cl) (hd : cl ≤ d) :
    ∀ p ∈ [(lw, o1), (lr, o2), (ld, o3), (l + 1 + 1 + 1 + 1, o4), (l + 1 + 1 + 1, o5), (l + 1 + 1, o6), (l + 1, o7), (117, o8)], @Ne Nat p.1 d := by
  have r1 : lw < d := Nat.lt_of_lt_of_le lt4 hd
  have r2 := Nat.lt_trans lt3 r1
  have r3 := Nat.lt_trans lt2 r2
  have r4 := Nat.lt_trans lt1 r3
  have r5 := Nat.lt_trans (Nat.lt_add_one _) r4
  have r6 := Nat.lt_trans (Nat.lt_add_one _) r5
  have r7 := Nat.lt_trans (Nat.lt_add_one _) r6
  have r8 := Nat.lt_trans l0 (Nat.lt_trans (Nat.lt_add_one _) r7)
  exact List.forall_mem_cons.mpr ⟨Nat.ne_of_lt r1, List.forall_mem_cons.mpr ⟨Nat.ne_of_lt r2, List.forall_mem_cons.mpr ⟨Nat.ne_of_lt r3, List.forall_mem_cons.mpr ⟨Nat.ne_of_lt r4, List.forall_mem_cons.mpr ⟨Nat.ne_of_lt r5, List.forall_mem_cons.mpr ⟨Nat.ne_of_lt r6, List.forall_mem_cons.mpr ⟨Nat.ne_of_lt r7, List.forall_mem_cons.mpr ⟨Nat.ne_of_lt r8, List.forall_mem_nil _⟩⟩⟩⟩⟩⟩⟩⟩
theorem law_D {oc od osl} {fd : FuncData} {rest : List Stmt} {sc : Scope} (ho : (Mine.hd.heap_1 w.params).lookup 166 = some ⟨oc, od, .func fd, osl⟩) (hb : bodyFrom 9 fd.body = rest) (hsc : fd.scope = sc) {fa : Addr} {cd : Value} {Q : Flow → Shared → Prop}
    (K' : Below callerA h₀ [] h₀) (F : Fr h₀ L s.heap m) (X' : (Mine.hd.heap_1 w.params).In h₀) (T' : Top p loose mean mg mb h₀) (codeHd : CodeHd h₀ 121 117) (l0 : @LT.lt Nat _ 117 L)
    {lw ld lr : Addr} {kw kr kd : Nat} {vw vd vr : List Value} {c1 c2 c3 c4 : Obj} {ws : List Str} {ds rs : List Int} {sg : Str} {tsg tt : Tok} {w1 : Value} {ps7 : Array Value}
    {PB Xl D FN CO PY Y DY S CL : Addr} {qual : Str} {doc ct : Value} {oc' co : Obj} {vs : Array Value} {tq : Tok} {ks : Nat} {t1 t2 t3 t4 t5 t6 t7 t8 t9 u1 u2 u3 u4 u5 : Tok} {zs : List Value}
    (N : News h₀ L s.heap (lexL w.params PB Xl D FN CO PY Y DY S CL (pieceObj w.params CL CO qual doc ((mg (Str.ofString "__name__")).getD .none) ct) oc' co ks t1 t2 t3 t4 t5 t6 t7 t8 t9 u1 u2 u3 u4 u5 1 zs
      [(lw, W.listOf vw.toArray kw), (lr, W.listOf vr.toArray kr), (ld, W.listOf vd.toArray kd), (L + 1 + 1 + 1 + 1, c4), (L + 1 + 1 + 1, c3), (L + 1 + 1, c2), (L + 1, c1), (117, tabObj ps7)]))
    (hz : CharsAre zs (restF ds 0 ws).reverse)
    (hap : LexApart PB Xl D FN CO PY Y DY S CL) (hoc : oc'.data = .fields vs) (hvs : vs[1]? = some (.str qual tq)) (hco : co.data = .cell (some (.ref S)))
    (lt1 : @LT.lt Nat _ (L + 1 + 1 + 1 + 1) ld) (lt2 : @LT.lt Nat _ ld lr) (lt3 : @LT.lt Nat _ lr lw) (lt4 : @LT.lt Nat _ lw CL)
    (d4 : c4.data = .cell none) (d3 : c3.data = .cell none) (d2 : c2.data = .cell (some (.ref Xl))) (d1 : c1.data = .cell (some w1))
    (m1 : m (Str.ofString "words") = some (.ref lw)) (m3 : m (Str.ofString "row") = some (.ref lr)) (m4 : m (Str.ofString "sign") = some (.str sg tsg)) (m5 : m (Str.ofString "text") = some (.str (writtenF ds ws ws.length) tt))
    (iw : StrsAre vw ws) (idd : IntsAre vd ds) (ir : IntsAre vr rs)
    (hww : ws = wordsF sg rs) (hsg : IsSign sg) (hn3 : 3 ≤ rs.length) (hn6 : rs.length ≤ 6) (hrs : ∀ r ∈ rs, 0 ≤ r ∧ r < 10 ^ 10) (law : LawOk sg rs)
    (hlw : ws.length ≤ 20) (hld : ds.length = 6) (hpos : ∀ d ∈ ds, 0 ≤ d) (hws : ∀ x ∈ ws, x.length ≤ 50) (hok : ∀ x ∈ ws, PyData.strOk x = true) (hpl : ∀ x ∈ ws, x.cps.toList ≠ [] ∧ ∀ c ∈ x.cps.toList, PlainCh c)
    (ret : ∀ h' tk' m', Fr h₀ L h' m' → GrownAt 117 h' → Q (.ret (.bool true)) { s with heap := h', toks := tk' }) :
    wpAny (model Pr w) (callerA.deeper (envOfC (Str.ofString "law") sc L fa cd)) (execs rest (envOfC (Str.ofString "law") sc L fa cd)) Q E s := by
  revert rest sc
  refine rest_of (fd' := fd) (P := fun fd => ∀ {rest : List Stmt} {sc : Scope}, bodyFrom 9 fd.body = rest → fd.scope = sc → wpAny (model Pr w) (callerA.deeper (envOfC (Str.ofString "law") sc L fa cd)) (execs rest (envOfC (Str.ofString "law") sc L fa cd)) Q E s) rfl ?_ ho
  intro rest sc hb hsc
  subst hb
  dsimp only [bodyFrom, List.drop]
  dsimp only at hsc
  subst hsc
  walk_at "mine fill"
  have hvw := strs_length iw
  refine (fun N0 => ?_ : News h₀ L s.heap _ → _) N
  dsimp only [lexL, entE] at N
  (try k_fold)
  k_steps
  unfold Stop
  have hap0 := hap
  refine Classical.byContradiction fun hG => ?_
  obtain ⟨q1, q2, q3, q4, q5, q6, q7, q8, q9⟩ := hap0
  have hCD : @LT.lt Nat _ CL D := Nat.lt_trans q1 (Nat.lt_trans q2 (Nat.lt_trans q3 (Nat.lt_trans q4 (Nat.lt_trans q5 (Nat.lt_trans q6 q7)))))
  refine hG ?_
  clear hG
  refine LCg.CompSrc.ledger rfl (by assumption) N0 (ax := lw) (its := vw.toArray) (k := kw) (by simp) (by rw [List.size_toArray, hvw, sizeLine_eq]; exact Nat.le_trans hlw (by decide)) ?_
  intro g
  refine compRest_v (fun i ys nw => ∃ ks u1 zs ln, nw = lexL w.params PB Xl D FN CO PY Y DY S CL (pieceObj w.params CL CO qual doc ((mg (Str.ofString "__name__")).getD .none) ct) oc' co ks t1 t2 t3 t4 t5 t6 t7 t8 t9 u1 u2 u3 u4 u5 ln zs [(lw, W.listOf vw.toArray kw), (lr, W.listOf vr.toArray kr), (ld, W.listOf vd.toArray kd), (L + 1 + 1 + 1 + 1, c4), (L + 1 + 1 + 1, c3), (L + 1 + 1, c2), (L + 1, c1), (117, tabObj ps7)] ∧ CharsAre zs (restF ds i (ws.drop i)).reverse ∧ ln + nlF ds i (ws.drop i) = 1 + nlF ds 0 ws ∧ StrsAre ys (ws.take i)) ?_ ?_ ?_ ⟨ks, u1, zs, 1, rfl, hz, rfl, .nil⟩
  · rintro i ys nw ⟨ks, u1, zs, ln, rfl, _⟩
    exact .inr ⟨_, show (lw, W.listOf vw.toArray kw) ∈ _ by simp, rfl, _, rfl⟩
  · intro i ys nw v I oI C oC Dc m₂ h tk E₂ hi hI9 hv hC hx₂ F₂ N₂ off ne
    refine Classical.byContradiction fun hG => ?_
    obtain ⟨ks, u1, zs, ln, rfl, hz, hln, hys⟩ := hI9
    refine hG ?_
    clear hG
    refine Classical.byContradiction fun hG => ?_
    obtain ⟨x, tx, hx, rfl⟩ := strs_at iw (by simpa using hv)
    have offm := off.mem
    have N₃ : News h₀ L h (lexL w.params PB Xl D FN CO PY Y DY S CL (pieceObj w.params CL CO qual doc ((mg (Str.ofString "__name__")).getD .none) ct) oc' co ks t1 t2 t3 t4 t5 t6 t7 t8 t9 u1 u2 u3 u4 u5 ln zs ((I, oI) :: (C, oC) :: (Dc, LCg.lst ys) :: [(lw, W.listOf vw.toArray kw), (lr, W.listOf vr.toArray kr), (ld, W.listOf vd.toArray kd), (L + 1 + 1 + 1 + 1, c4), (L + 1 + 1 + 1, c3), (L + 1 + 1, c2), (L + 1, c1), (117, tabObj ps7)])) := News.sub N₂ lexL_up
    refine hG ?_
    clear hG
    (try k_fold)
    k_steps
    unfold Stop
    have hi' : i < ws.length := (List.getElem?_eq_some_iff.mp hx).1
    have hdrop : ws.drop i = x :: ws.drop (i + 1) := by
      rw [List.drop_eq_getElem_cons hi']
      rw [List.getElem?_eq_getElem hi'] at hx
      injection hx with hx
      rw [hx]
    rw [hdrop] at hz hln
    have hxm := List.mem_of_getElem? hx
    have offT : ∀ {d : Addr}, @LE.le Nat _ CL d → ∀ p ∈ [(lw, W.listOf vw.toArray kw), (lr, W.listOf vr.toArray kr), (ld, W.listOf vd.toArray kd), (L + 1 + 1 + 1 + 1, c4), (L + 1 + 1 + 1, c3), (L + 1 + 1, c2), (L + 1, c1), (117, tabObj ps7)], @Ne Nat p.1 d := fun {d} hd => off_low l0 lt1 lt2 lt3 lt4 hd
    have offL : ∀ {d : Addr} {o : Obj}, @LT.lt Nat _ CL d → (d, o) ∈ lexL w.params PB Xl D FN CO PY Y DY S CL (pieceObj w.params CL CO qual doc ((mg (Str.ofString "__name__")).getD .none) ct) oc' co ks t1 t2 t3 t4 t5 t6 t7 t8 t9 u1 u2 u3 u4 u5 ln zs [(lw, W.listOf vw.toArray kw), (lr, W.listOf vr.toArray kr), (ld, W.listOf vd.toArray kd), (L + 1 + 1 + 1 + 1, c4), (L + 1 + 1 + 1, c3), (L + 1 + 1, c2), (L + 1, c1), (117, tabObj ps7)] → ∀ p ∈ (I, oI) :: (C, oC) :: (Dc, LCg.lst ys) :: [(lw, W.listOf vw.toArray kw), (lr, W.listOf vr.toArray kr), (ld, W.listOf vd.toArray kd), (L + 1 + 1 + 1 + 1, c4), (L + 1 + 1 + 1, c3), (L + 1 + 1, c2), (L + 1, c1), (117, tabObj ps7)], p.1 ≠ d := fun {d} {o} hd hm p hp => by
      have hh := offm _ hm
      rcases List.mem_cons.mp hp with rfl | hp
      · exact Ne.symm hh.1
      rcases List.mem_cons.mp hp with rfl | hp
      · exact Ne.symm hh.2.1
      rcases List.mem_cons.mp hp with rfl | hp
      · exact Ne.symm hh.2.2
      · exact offT (Nat.le_of_lt hd) p hp
    show wpAny _ _ (call (.ref 98) [.ref Xl]) _ _ _
    k_dflt (refine' token_spec (u5 := u5) (dp := callerA.depth + 1) (cs' := (pieceF (manF ds i) x).cps.toList ++ restF ds (i + 1) (ws.drop (i + 1))) ?k1 ?k2 ?k3 ?k4 rfl (by decide) N₃ hap hoc hvs hco (offL (d := D) hCD (.tail _ (.tail _ (.head _)))) (offL (d := S) q1 (.tail _ (.tail _ (.tail _ (.tail _ (.tail _ (.tail _ (.tail _ (.tail _ (.head _)))))))))) codeHd ?hf hz (piece_tok (hpl x hxm) (hws x hxm)) ?_)
    case k1 => k_asm
    case k2 => k_asm
    case k3 => k_asm
    case k4 => k_asm
    case hf =>
      rw [chars_length hz, ← hdrop]
      refine Nat.lt_of_le_of_lt (restF_len (ds := ds) (ws.drop i) i fun y hy => hws y (List.mem_of_mem_drop hy)) ?_
      rw [List.length_drop]
      exact Nat.lt_of_le_of_lt (Nat.mul_le_mul_left 150 (Nat.le_trans (Nat.sub_le _ _) hlw)) (by decide)
    rintro t9' h9 tk9 F9 ⟨ks9, u9, zs9, N9, hz9⟩
    rw [str_of_list]
    k_steps
    exact EltEndV.mk _ F9 (News.sub N9 lexL_dn) (off3_map rfl off) ⟨ks9, u9, zs9, _, rfl, hz9, by rw [nlF, ← Int.add_assoc] at hln; exact hln, by rw [List.take_add_one, hx]; exact hys.append' strs_one⟩
  · intro ys nw hI9
    refine Classical.byContradiction fun hG => ?_
    obtain ⟨ks', u1', zs', ln', rfl, hz', hln', hys'⟩ := hI9
    refine hG ?_
    clear hG
    rw [List.size_toArray, hvw, List.drop_length] at hz' hln'
    rw [List.size_toArray, hvw, List.take_length] at hys'
    intro D₃ h₃ tk₃ F₃ N₃ o₃
    have N₃' : News h₀ L h₃ (lexL w.params PB Xl D FN CO PY Y DY S CL (pieceObj w.params CL CO qual doc ((mg (Str.ofString "__name__")).getD .none) ct) oc' co ks' t1 t2 t3 t4 t5 t6 t7 t8 t9 u1' u2 u3 u4 u5 ln' zs' [(D₃, LCg.lst ys), (lw, W.listOf vw.toArray kw), (lr, W.listOf vr.toArray kr), (ld, W.listOf vd.toArray kd), (L + 1 + 1 + 1 + 1, c4), (L + 1 + 1 + 1, c3), (L + 1 + 1, c2), (L + 1, c1), (117, tabObj ps7)]) := News.sub N₃ lexL_up1
    have offD3 := off1_mem o₃
    simp only [lexL, entE, LCg.Off1, and_true] at o₃
    dsimp only [lexL, entE] at N₃ ⊢
    (try k_fold)
    k_steps
    unfold Stop
    k_dflt (refine Mine.kes_ne (list_in (k := ys.length) N₃' (by simp)) (list_in (k := kw) N₃' (by simp)) hys' iw hok (by ke_room) ?_)
    k_steps
    unfold Stop
    have offL : ∀ {d : Addr} {o : Obj}, @LT.lt Nat _ CL d → (d, o) ∈ lexL w.params PB Xl D FN CO PY Y DY S CL (pieceObj w.params CL CO qual doc ((mg (Str.ofString "__name__")).getD .none) ct) oc' co ks' t1 t2 t3 t4 t5 t6 t7 t8 t9 u1' u2 u3 u4 u5 ln' zs' [(lw, W.listOf vw.toArray kw), (lr, W.listOf vr.toArray kr), (ld, W.listOf vd.toArray kd), (L + 1 + 1 + 1 + 1, c4), (L + 1 + 1 + 1, c3), (L + 1 + 1, c2), (L + 1, c1), (117, tabObj ps7)] → ∀ p ∈ [(D₃, LCg.lst ys), (lw, W.listOf vw.toArray kw), (lr, W.listOf vr.toArray kr), (ld, W.listOf vd.toArray kd), (L + 1 + 1 + 1 + 1, c4), (L + 1 + 1 + 1, c3), (L + 1 + 1, c2), (L + 1, c1), (117, tabObj ps7)], p.1 ≠ d := fun {d} {o} hd hm p hp => by
      rcases List.mem_cons.mp hp with rfl | hp
      · exact Ne.symm (offD3 _ hm)
      · exact off_low l0 lt1 lt2 lt3 lt4 (Nat.le_of_lt hd) p hp
    show wpAny _ _ (call (.ref 98) [.ref Xl]) _ _ _
    k_dflt (refine' token_spec (u5 := u5) (dp := callerA.depth + 1) (cs' := []) ?k1 ?k2 ?k3 ?k4 rfl (by decide) N₃' hap hoc hvs hco (offL (d := D) hCD (.tail _ (.tail _ (.head _)))) (offL (d := S) q1 (.tail _ (.tail _ (.tail _ (.tail _ (.tail _ (.tail _ (.tail _ (.tail _ (.head _)))))))))) codeHd ?hf hz' (.inl ⟨rfl, rfl, rfl, rfl⟩) ?_)
    case k1 => k_asm
    case k2 => k_asm
    case k3 => k_asm
    case k4 => k_asm
    case hf =>
      rw [chars_length hz']
      exact (by decide : 0 < 2 ^ 20)
    rintro t9' h9 tk9 F9 ⟨ks9, u9, zs9, N9, hz9⟩
    rw [Int.add_zero] at N9
    have hcnt := written_count (ds := ds) (ws := ws) fun x hx => (hpl x hx).2
    have hln9 : ln' = 1 + Txt.count (writtenF ds ws ws.length) (Str.ofString "\n") := by
      rw [nlF, Int.add_zero] at hln'
      rw [hcnt]
      exact hln'
    dsimp only [lexL, entE] at N9
    k_steps
    · exact absurd hln9 ‹_›
    unfold Stop
    refine Classical.byContradiction fun hG => ?_
    obtain ⟨z1, z2, z3, z4, z5, z6, z7, z8, z9, z10, z11, z12, z13, z14, z15, z16, z17, z18⟩ := o₃
    refine hG ?_
    clear hG
    refine' law_E (ps7 := ps7) (rd := D₃) (lr := lr) (vrd := ys) (vr := vr) (krd := ys.length) (kr := kr) (rs := rs) (sg := sg) (tsg := tsg) rfl rfl rfl K' ?kF X' T' (News.sub ?kN ?kS) (Nat.lt_trans lt1 lt2) (Ne.symm z12) (Ne.symm z14) (Ne.symm z15) (Ne.symm z16) (Ne.symm z17) (Ne.symm z18) l0 d4 d3 d2 d1 ?km ?km3 ?km4 (hww ▸ hys') ir hsg hn3 hn6 hrs law ret
    case kF => k_asm
    case kN => k_asm
    case km => rfl
    case km3 => exact m3
    case km4 => exact m4
    case kS => walk_at "mine subs"
end
end
section -- Lc
open PySem PySem.W PyProof.Rows PySem.Calls PySem.Spec
set_option maxRecDepth 100000
set_option maxHeartbeats 8000000
set_option rowWalk.seconds 0

section
variable {w : World} {p : Program} {loose : List Str} {mean : ExcName → Option Value} {mg mb : Str → Option Value} {dp un : Nat} {gd : Option (List Code)} {cn : Str} {cs : Scope} {a : Addr} {ccd : Value} {cl : List (Str × Addr)} {outer : List Env} {A₀ : Around} {base h₀ : Heap} {L : Addr} {m : Str → Option Value} {s : Shared} {Q E : Value → Shared → Prop}
local macro_rules | `(tactic| walk_at "mine pad") => `(tactic| skip)
local macro_rules | `(tactic| walk_at "loadName") => `(tactic| (k_here; k_dflt (refine' Mine.loadX_L ?F ?v ?a ?b ?_; (case F => k_asm); (case a => rfl); (case b => rfl); (case v => assumption); k_whole)))
local macro_rules | `(tactic| walk_at "call ref") => `(tactic| (k_here; (with_reducible show wpAny _ _ (call (Value.ref 127) _) _ _ _); refine Mine.Stop.mk ?_))
local macro_rules | `(tactic| walk_at "call type:list") => `(tactic| (k_here; (with_reducible show wpAny _ _ (call (Value.type _) [Value.str _ _]) _ _ _); refine Mine.Stop.mk ?_))
local macro_rules | `(tactic| walk_at "subscriptTail") => `(tactic| (k_here; (with_reducible show wpAny _ _ (subscriptTail (PySem.Expr.Call _ _ _ _) _ _ _) _ _ _); refine Mine.Stop.mk ?_))
theorem written_len {ds : List Int} {ws : List Str} (hws : ∀ x ∈ ws, x.length ≤ 50) : ∀ i, (writtenF ds ws i).length ≤ 200 * i
  | 0 => Nat.le_refl 0
  | i + 1 => by
    have ih := written_len (ds := ds) hws i
    have hx : (ws.getD i (Str.ofString "")).length ≤ 50 := by
      rw [List.getD_eq_getElem?_getD]
      cases e : ws[i]? with
      | none => show 0 ≤ 50; omega
      | some x => exact hws x (List.mem_of_getElem? e)
    rw [writtenF, PySem.Str.length_append]
    have : (pieceF (manF ds i) (ws.getD i (Str.ofString ""))).length ≤ 150 := by
      unfold pieceF
      split
      · rw [PySem.Str.length_append, len_sp]; omega
      · split
        · rw [PySem.Str.length_append, PySem.Str.length_append, len_qt]; omega
        · rw [PySem.Str.length_append, len_nl, bsAll_len]; omega
    omega
local macro_rules | `(tactic| walk_at "execs cons") => `(tactic| (k_here; (with_reducible show wpAny _ _ (execs [_, _, _, _, _, _, _] _) _ _ _); refine Mine.Stop.mk ?_))
theorem law_D2 {oc od osl} {fd : FuncData} {rest : List Stmt} {sc : Scope} (ho : (Mine.hd.heap_1 w.params).lookup 166 = some ⟨oc, od, .func fd, osl⟩) (hb : bodyFrom 9 fd.body = rest) (hsc : fd.scope = sc) {fa : Addr} {cd : Value} {Q : Flow → Shared → Prop}
    (K' : Below callerA h₀ [] h₀) (F : Fr h₀ L s.heap m) (X' : (Mine.hd.heap_1 w.params).In h₀) (T' : Top p loose mean mg mb h₀) (codeHd : CodeHd h₀ 121 117) (l0 : @LT.lt Nat _ 117 L)
    {lw ld lr : Addr} {kw kr kd : Nat} {vw vd vr : List Value} {c1 c2 c3 c4 : Obj} {ws : List Str} {ds rs : List Int} {sg : Str} {tsg tt : Tok} {w1 : Value} {ps7 : Array Value}
    {PB Xl D FN CO PY Y DY S CL : Addr} {qual : Str} {doc ct : Value} {oc' co : Obj} {vs : Array Value} {tq : Tok} {ks : Nat} {t1 t2 t3 t4 t5 t6 t7 t8 t9 u1 u2 u3 u4 : Tok} {zs : List Value}
    {D1 : Addr} {o1 : Obj} (N : News h₀ L s.heap ((PB, W.listOf #[] 0) :: (Xl, instObj 108 D) :: (D, dictOf [{ hash := PyData.keyHash w.params (Str.ofString "lineno"), key := .str (Str.ofString "lineno") t1, val := .int 1 u1 }, { hash := PyData.keyHash w.params (Str.ofString "instream"), key := .str (Str.ofString "instream") t2, val := .ref Y }, { hash := PyData.keyHash w.params (Str.ofString "whitespace"), key := .str (Str.ofString "whitespace") t3, val := .str (Str.ofString "\n\t\x0d ") u2 }, { hash := PyData.keyHash w.params (Str.ofString "pushback"), key := .str (Str.ofString "pushback") t4, val := .ref PB }] 4) ::
      (FN, pieceObj w.params CL CO qual doc ((mg (Str.ofString "__name__")).getD .none) ct) :: (CO, oc') :: (PY, W.listOf #[] 0) :: (Y, instObj 108 DY) ::
      (DY, dictOf [{ hash := PyData.keyHash w.params (Str.ofString "lineno"), key := .str (Str.ofString "lineno") t5, val := .int 1 u3 }, { hash := PyData.keyHash w.params (Str.ofString "instream"), key := .str (Str.ofString "instream") t6, val := .none }, { hash := PyData.keyHash w.params (Str.ofString "whitespace"), key := .str (Str.ofString "whitespace") t7, val := .str (Str.ofString "\n\t\x0d ") u4 }, { hash := PyData.keyHash w.params (Str.ofString "pushback"), key := .str (Str.ofString "pushback") t8, val := .ref PY }, { hash := PyData.keyHash w.params (Str.ofString "read"), key := .str (Str.ofString "read") t9, val := .ref FN }] 5) ::
      (S, W.listOf zs.toArray ks) :: (D1, o1) :: (CL, co) :: [(lw, W.listOf vw.toArray kw), (lr, W.listOf vr.toArray kr), (ld, W.listOf vd.toArray kd), (L + 1 + 1 + 1 + 1, c4), (L + 1 + 1 + 1, c3), (L + 1 + 1, c2), (L + 1, c1), (117, tabObj ps7)]))
    (hz : CharsAre zs (restF ds 0 ws).reverse)
    (hap : LexApart PB Xl D FN CO PY Y DY S CL) (hoc : oc'.data = .fields vs) (hvs : vs[1]? = some (.str qual tq)) (hco : co.data = .cell (some (.ref S)))
    (lt1 : @LT.lt Nat _ (L + 1 + 1 + 1 + 1) ld) (lt2 : @LT.lt Nat _ ld lr) (lt3 : @LT.lt Nat _ lr lw) (lt4 : @LT.lt Nat _ lw CL)
    (d4 : c4.data = .cell none) (d3 : c3.data = .cell none) (d2 : c2.data = .cell (some (.ref Xl))) (d1 : c1.data = .cell (some w1))
    (m1 : m (Str.ofString "words") = some (.ref lw)) (m3 : m (Str.ofString "row") = some (.ref lr)) (m4 : m (Str.ofString "sign") = some (.str sg tsg)) (m5 : m (Str.ofString "text") = some (.str (writtenF ds ws ws.length) tt))
    (iw : StrsAre vw ws) (idd : IntsAre vd ds) (ir : IntsAre vr rs)
    (hww : ws = wordsF sg rs) (hsg : IsSign sg) (hn3 : 3 ≤ rs.length) (hn6 : rs.length ≤ 6) (hrs : ∀ r ∈ rs, 0 ≤ r ∧ r < 10 ^ 10) (law : LawOk sg rs)
    (hlw : ws.length ≤ 20) (hld : ds.length = 6) (hpos : ∀ d ∈ ds, 0 ≤ d) (hws : ∀ x ∈ ws, x.length ≤ 50) (hok : ∀ x ∈ ws, PyData.strOk x = true) (hpl : ∀ x ∈ ws, x.cps.toList ≠ [] ∧ ∀ c ∈ x.cps.toList, PlainCh c)
    (ret : ∀ h' tk' m', Fr h₀ L h' m' → GrownAt 117 h' → Q (.ret (.bool true)) { s with heap := h', toks := tk' }) :
    wpAny (model Pr w) (callerA.deeper (envOfC (Str.ofString "law") sc L fa cd)) (execs rest (envOfC (Str.ofString "law") sc L fa cd)) Q E s := by
  have N' : News h₀ L s.heap (lexL w.params PB Xl D FN CO PY Y DY S CL (pieceObj w.params CL CO qual doc ((mg (Str.ofString "__name__")).getD .none) ct) oc' co ks t1 t2 t3 t4 t5 t6 t7 t8 t9 u1 u2 u3 u4 0 1 zs [(lw, W.listOf vw.toArray kw), (lr, W.listOf vr.toArray kr), (ld, W.listOf vd.toArray kd), (L + 1 + 1 + 1 + 1, c4), (L + 1 + 1 + 1, c3), (L + 1 + 1, c2), (L + 1, c1), (117, tabObj ps7)]) := by
    refine News.sub N ?_
    walk_at "mine subs"
  exact law_D (u5 := 0) ho hb hsc K' F X' T' codeHd l0 N' hz hap hoc hvs hco lt1 lt2 lt3 lt4 d4 d3 d2 d1 m1 m3 m4 m5 iw idd ir hww hsg hn3 hn6 hrs law hlw hld hpos hws hok hpl ret
theorem law_C {oc od osl} {fd : FuncData} {rest : List Stmt} {sc : Scope} (ho : (Mine.hd.heap_1 w.params).lookup 166 = some ⟨oc, od, .func fd, osl⟩) (hb : bodyFrom 7 fd.body = rest) (hsc : fd.scope = sc) {fa : Addr} {cd : Value} {Q : Flow → Shared → Prop}
    (K' : Below callerA h₀ [] h₀) (F : Fr h₀ L s.heap m) (X' : (Mine.hd.heap_1 w.params).In h₀) (T' : Top p loose mean mg mb h₀) (codeHd : CodeHd h₀ 121 117) (l0 : @LT.lt Nat _ 117 L)
        {lw ld lr : Addr} {kw kr kd : Nat} {vw vd vr : List Value} {c1 c2 c3 c4 : Obj} {ws : List Str} {ds rs : List Int} {sg : Str} {tsg : Tok} {w1 : Value}
    (N : News h₀ L s.heap [(lw, W.listOf vw.toArray kw), (lr, W.listOf vr.toArray kr), (ld, W.listOf vd.toArray kd), (L + 1 + 1 + 1 + 1, c4), (L + 1 + 1 + 1, c3), (L + 1 + 1, c2), (L + 1, c1), (117, tabObj #[])])
    (lt1 : @LT.lt Nat _ (L + 1 + 1 + 1 + 1) ld) (lt2 : @LT.lt Nat _ ld lr) (lt3 : @LT.lt Nat _ lr lw)
    (d4 : c4.data = .cell none) (d3 : c3.data = .cell none) (d2 : c2.data = .cell none) (d1 : c1.data = .cell (some w1))
    (m1 : m (Str.ofString "words") = some (.ref lw)) (m2 : m (Str.ofString "draws") = some (.ref ld)) (m3 : m (Str.ofString "row") = some (.ref lr)) (m4 : m (Str.ofString "sign") = some (.str sg tsg))
    (iw : StrsAre vw ws) (idd : IntsAre vd ds) (ir : IntsAre vr rs)
    (hww : ws = wordsF sg rs) (hsg : IsSign sg) (hn3 : 3 ≤ rs.length) (hn6 : rs.length ≤ 6) (hrs : ∀ r ∈ rs, 0 ≤ r ∧ r < 10 ^ 10) (law : LawOk sg rs)
    (hlw : ws.length ≤ 20) (hld : ds.length = 6) (hpos : ∀ d ∈ ds, 0 ≤ d) (hws : ∀ x ∈ ws, x.length ≤ 50) (hok : ∀ x ∈ ws, PyData.strOk x = true) (hpl : ∀ x ∈ ws, x.cps.toList ≠ [] ∧ ∀ c ∈ x.cps.toList, PlainCh c)
    (ret : ∀ h' tk' m', Fr h₀ L h' m' → GrownAt 117 h' → Q (.ret (.bool true)) { s with heap := h', toks := tk' }) :
    wpAny (model Pr w) (callerA.deeper (envOfC (Str.ofString "law") sc L fa cd)) (execs rest (envOfC (Str.ofString "law") sc L fa cd)) Q E s := by
  revert rest sc
  refine rest_of (fd' := fd) (P := fun fd => ∀ {rest : List Stmt} {sc : Scope}, bodyFrom 7 fd.body = rest → fd.scope = sc → wpAny (model Pr w) (callerA.deeper (envOfC (Str.ofString "law") sc L fa cd)) (execs rest (envOfC (Str.ofString "law") sc L fa cd)) Q E s) rfl ?_ ho
  intro rest sc hb hsc
  subst hb
  dsimp only [bodyFrom, List.drop]
  dsimp only at hsc
  subst hsc
  walk_at "mine fill"
  have la1 : @LT.lt Nat _ 117 ld := Nat.lt_trans (Nat.lt_add_one_of_lt (Nat.lt_add_one_of_lt (Nat.lt_add_one_of_lt (Nat.lt_add_one_of_lt l0)))) lt1
  have lb1 : @LT.lt Nat _ (L + 1 + 1) ld := Nat.lt_trans (Nat.lt_add_one_of_lt (Nat.lt_add_one _)) lt1
  have la2 : @LT.lt Nat _ 117 lr := Nat.lt_trans la1 lt2
  have lb2 : @LT.lt Nat _ (L + 1 + 1) lr := Nat.lt_trans lb1 lt2
  have la3 : @LT.lt Nat _ 117 lw := Nat.lt_trans la2 lt3
  have lb3 : @LT.lt Nat _ (L + 1 + 1) lw := Nat.lt_trans lb2 lt3
  (try k_fold)
  k_steps
  unfold Stop
  k_dflt (refine' Mine.written_spec (ds := ds) (ws := ws) (dp := callerA.depth + 1) ?k1 ?k2 ?k3 ?k4 ?k5 ?k6 ?h1 ?h2 iw idd hlw hld hpos hws ?_)
  case k1 => k_asm
  case k2 => k_asm
  case k3 => k_asm
  case k4 => k_asm
  case k5 => rfl
  case k6 => decide
  case h1 => is_list
  case h2 => is_list
  intro t9 h9 tk9 k9
  have F9 := Fr.keeps (by k_asm) k9
  have N9 := News.grown (by k_asm) k9
  have hwl : (writtenF ds ws ws.length).length ≤ 16777216 := Nat.le_trans (written_len (ds := ds) hws ws.length) (Nat.le_trans (Nat.mul_le_mul_left 200 hlw) (by decide))
  k_steps
  unfold Stop
  k_dflt (refine Mine.list_str_M rfl (by k_asm) (by k_asm) (by rw [sizeLine_eq]; exact hwl) ?_)
  intro D1 ys1 k1 h1 tk1 F1 N1 l1 c1
  (try k_lt l1)
  k_steps
  unfold Stop
  k_dflt (refine Mine.slice_rev_raw (by k_asm) (by k_asm) (by kmk_list) (.int _ _) ?hz ?_)
  case hz => rw [sizeLine_eq, List.size_toArray, strs_length c1, List.length_map, Array.length_toList]; exact hwl
  intro D2 h2 F2 N2 l2
  (try k_lt l2)
  k_steps
  unfold Stop
  refine' law_D2 (lw := lw) (ld := ld) (lr := lr) (vw := vw) (vd := vd) (vr := vr) (tt := t9) rfl rfl rfl K' (by k_asm) X' T' codeHd l0 (by assumption) ?hz ?hap (by assumption) (by assumption) (by assumption) lt1 lt2 lt3 ?lt4 d4 d3 (by assumption) (by assumption) (by exact m1) (by exact m3) (by exact m4) (by rfl) iw idd ir hww hsg hn3 hn6 hrs law hlw hld hpos hws hok hpl ret
  case hz => rw [← written_all]; exact chars_reverse c1
  case hap => refine ⟨?_, ?_, ?_, ?_, ?_, ?_, ?_, ?_, ?_⟩ <;> walk_at "mine lt"
  case lt4 => walk_at "mine lt"
end
end
section -- Lb
open PySem PySem.W PyProof.Rows PySem.Calls PySem.Spec
set_option maxRecDepth 100000
set_option maxHeartbeats 8000000
set_option rowWalk.seconds 0

section
variable {w : World} {p : Program} {loose : List Str} {mean : ExcName → Option Value} {mg mb : Str → Option Value} {dp un : Nat} {gd : Option (List Code)} {cn : Str} {cs : Scope} {a : Addr} {ccd : Value} {cl : List (Str × Addr)} {outer : List Env} {A₀ : Around} {base h₀ : Heap} {L : Addr} {m : Str → Option Value} {s : Shared} {Q E : Value → Shared → Prop}
local macro_rules | `(tactic| walk_at "loadName") => `(tactic| (k_here; k_dflt (refine' Mine.loadX_L ?F ?v ?a ?b ?_; (case F => k_asm); (case a => rfl); (case b => rfl); (case v => assumption); k_whole)))
local macro_rules | `(tactic| walk_at "subscriptTail") => `(tactic| (k_here; refine Mine.Stop.mk ?_))
local macro_rules | `(tactic| walk_at "subscriptTail Name Slice ref ref") => `(tactic| (k_here; refine Mine.Stop.mk ?_))
local macro_rules | `(tactic| walk_at "inplaceOp Add ref ref") => `(tactic| (k_here; refine Mine.Stop.mk ?_))
local macro_rules | `(tactic| walk_at "inplaceOp Add ref") => `(tactic| (k_here; refine Mine.Stop.mk ?_))
theorem slice_from {A : Around} {news : List (Addr × Obj)} {value slice : Expr} {l : Addr} {vs : List Value} {ns : List Int} {vu : Value} {ops : List Value} {Q : Value → Shared → Prop} (F : Fr h₀ L s.heap m) (N : News h₀ L s.heap news) (hl : s.heap.IsList l vs.toArray) (hi : IntsAre vs ns) (pl : IsPart vu (some 1))
    (h : ∀ D zs h', Fr h₀ L h' m → News h₀ L h' ((D, listOf zs.toArray 0) :: news) → (∀ p ∈ news, p.1 < D) → IntsAre zs (ns.drop 1) → Q (.ref D) { s with heap := h' })
    (hs : subscripted slice false (.ref l) (.ref s.heap.objs.size) = operate ops (getItem (.ref l) (.ref s.heap.objs.size))) (ht : ∀ r, letTemporaryGo value (.ref l) r = pure ()) (hz : vs.toArray.size ≤ sizeLine) :
    wpAny (model Pr w) A (subscriptTail value slice (.ref l) (.ref s.heap.objs.size)) Q E { s with heap := s.heap.push { cls := .type "slice", data := .fields #[vu, .none, .none] } } := by
  have hx : IntsAre (slicePick vs.toArray (some 1) none none).toList (ns.drop 1) := by
    have e := slicePick_from' vs.toArray 1
    rw [show (some (1 : Int)) = some ((1 : Nat) : Int) from rfl, e]
    cases hi with
    | nil => exact .nil
    | cons a t h9 => exact h9
  exact kmk_slice3_lit F N hl pl .none .none (by simp) rfl (fun D h' F' N' l1 => h D _ h' F' N' l1 hx) hs ht hz
theorem law_B {oc od osl} {fd : FuncData} {rest : List Stmt} {sc : Scope} (ho : (Mine.hd.heap_1 w.params).lookup 166 = some ⟨oc, od, .func fd, osl⟩) (hb : bodyFrom 5 fd.body = rest) (hsc : fd.scope = sc) {fa : Addr} {cd : Value} {Q : Flow → Shared → Prop}
    (K' : Below callerA h₀ [] h₀) (F : Fr h₀ L s.heap m) (X' : (Mine.hd.heap_1 w.params).In h₀) (T' : Top p loose mean mg mb h₀) (codeHd : CodeHd h₀ 121 117) (l0 : @LT.lt Nat _ 117 L)
    {ld lr : Addr} {kr kd : Nat} {vd vr : List Value} {c1 c2 c3 c4 : Obj} {ds rs : List Int} {sg : Str} {tsg : Tok} {w1 : Value}
    (N : News h₀ L s.heap [(lr, W.listOf vr.toArray kr), (ld, W.listOf vd.toArray kd), (L + 1 + 1 + 1 + 1, c4), (L + 1 + 1 + 1, c3), (L + 1 + 1, c2), (L + 1, c1), (117, tabObj #[])])
    (lt1 : @LT.lt Nat _ (L + 1 + 1 + 1 + 1) ld) (lt2 : @LT.lt Nat _ ld lr)
    (d4 : c4.data = .cell none) (d3 : c3.data = .cell none) (d2 : c2.data = .cell none) (d1 : c1.data = .cell (some w1))
    (m2 : m (Str.ofString "draws") = some (.ref ld)) (m3 : m (Str.ofString "row") = some (.ref lr)) (m4 : m (Str.ofString "sign") = some (.str sg tsg))
    (idd : IntsAre vd ds) (ir : IntsAre vr rs) (hsg : IsSign sg) (hn3 : 3 ≤ rs.length) (hn6 : rs.length ≤ 6) (hrs : ∀ r ∈ rs, 0 ≤ r ∧ r < 10 ^ 10) (law : LawOk sg rs)
    (hld : ds.length = 6) (hpos : ∀ d ∈ ds, 0 ≤ d)
    (ret : ∀ h' tk' m', Fr h₀ L h' m' → GrownAt 117 h' → Q (.ret (.bool true)) { s with heap := h', toks := tk' }) :
    wpAny (model Pr w) (callerA.deeper (envOfC (Str.ofString "law") sc L fa cd)) (execs rest (envOfC (Str.ofString "law") sc L fa cd)) Q E s := by
  revert rest sc
  refine rest_of (fd' := fd) (P := fun fd => ∀ {rest : List Stmt} {sc : Scope}, bodyFrom 5 fd.body = rest → fd.scope = sc → wpAny (model Pr w) (callerA.deeper (envOfC (Str.ofString "law") sc L fa cd)) (execs rest (envOfC (Str.ofString "law") sc L fa cd)) Q E s) rfl ?_ ho
  intro rest sc hb hsc
  subst hb
  dsimp only [bodyFrom, List.drop]
  dsimp only at hsc
  subst hsc
  walk_at "mine fill"
  refine Classical.byContradiction fun hG => ?_
  obtain ⟨r0, rt, rfl⟩ : ∃ r0 rt, rs = r0 :: rt := by
    cases rs with
    | nil => simp at hn3
    | cons r0 rt => exact ⟨r0, rt, rfl⟩
  obtain ⟨tr0, htr⟩ := ir.get 0 r0 rfl
  obtain ⟨hr0, hr1⟩ := hrs r0 (.head _)
  refine hG ?_
  clear hG
  (try k_fold)
  k_steps
  rw [show (r0 :: rt).getD (Int.toNat 0) 0 = r0 from rfl]
  k_steps
  unfold Stop
  k_dflt (refine' Mine.slice_from ?g1 ?g2 ?g3 ir ?g4 ?_ ?g5 ?g6 ?g7)
  case g1 => k_asm
  case g2 => k_asm
  case g3 => kmk_list
  case g4 => kmk_part
  case g5 => with_unfolding_all rfl
  case g6 => kmk_pure
  case g7 => rw [sizeLine_eq, List.size_toArray, ir.length]; omega
  intro D2 zs2 h2 F2 N2 l2 i2
  (try k_lt l2)
  k_steps
  rename_i tk0 LW _ lLW _ FW NW
  have q1 : @Ne Nat LW D2 := Nat.ne_of_lt l2.1
  refine Classical.byContradiction fun hG => ?_
  obtain ⟨b1, b2, b3, b4, b5, b6, b7⟩ := lLW
  have hI : ∀ (i : Nat) (m' : Str → Option Value) (nw : List (Addr × Obj)), True := fun _ _ _ => trivial
  refine hG ?_
  clear hG
  refine iter_list (fun i m' nw => ∃ vw kw, nw = (LW, W.listOf vw.toArray kw) :: (D2, W.listOf zs2.toArray 0) :: (lr, W.listOf vr.toArray kr) :: (ld, W.listOf vd.toArray kd) :: (L + 1 + 1 + 1 + 1, c4) :: (L + 1 + 1 + 1, c3) :: (L + 1 + 1, c2) :: (L + 1, c1) :: [(117, tabObj #[])] ∧ m' (Str.ofString "words") = some (.ref LW) ∧ m' (Str.ofString "draws") = some (.ref ld) ∧ m' (Str.ofString "row") = some (.ref lr) ∧ m' (Str.ofString "sign") = some (.str sg tsg) ∧ vw.length = 2 * i + 1 ∧ StrsAre vw (wordsF sg (r0 :: rt.take i))) rfl (by k_asm) (News.sub (b := (LW, W.listOf [Value.str (Str.ofString (toString r0)) (s.toks + 1)].toArray 0) :: (D2, W.listOf zs2.toArray 0) :: (lr, W.listOf vr.toArray kr) :: (ld, W.listOf vd.toArray kd) :: (L + 1 + 1 + 1 + 1, c4) :: (L + 1 + 1 + 1, c3) :: (L + 1 + 1, c2) :: (L + 1, c1) :: [(117, tabObj #[])]) N2 ?hsub) (.inr ⟨_, .tail _ (.head _), rfl, _, rfl⟩) ⟨[.str (Str.ofString (toString r0)) (s.toks + 1)], 0, rfl, rfl, by exact m2, by exact m3, by exact m4, rfl, .cons _ _ .nil⟩ ?hS ?_ ?_
  case hsub =>
    walk_at "mine subs"
  case hS =>
    rintro i m' nw ⟨vw, kw, rfl, _⟩
    exact .inr ⟨_, .tail _ (.head _), rfl, _, rfl⟩
  · intro i v m₁ nw₁ h tk I oI hv hJ off F₁ N₁
    refine Classical.byContradiction fun hG => ?_
    obtain ⟨vw, kw, rfl, e1, e2, e3, e4, e5, e6⟩ := hJ
    obtain ⟨r, t, hr, rfl⟩ := IntsAre.at' i2 (by simpa using hv)
    obtain ⟨hr0', hr1'⟩ := hrs r (List.mem_of_mem_drop (List.mem_of_getElem? hr))
    refine hG ?_
    clear hG
    (try k_fold)
    k_steps
    have hne : @Ne Nat LW I := off (LW, W.listOf vw.toArray kw) (.head _)
    have hrl : i < rt.length := by
      have := (List.getElem?_eq_some_iff.mp hr).1
      simpa using this
    k_dflt (refine' Mine.iadd_K ?g1 ?g2 ?g3 ?g4 ?g5 ?g6 ?_)
    case g1 => k_asm
    case g2 => k_asm
    case g3 => k_upd
    case g4 => k_mem
    case g5 => simp only [List.size_toArray, e5, List.length_cons] at hn6 ⊢; simp; omega
    case g6 => simp
    intro h' F' N'
    k_steps
    rename_i N9
    rw [List.append_toArray] at N9
    have hr' : rt[i]? = some r := hr
    refine MTurnEnd.mk ((LW, W.listOf (vw ++ [Value.str sg tsg, Value.str (Str.ofString (toString r)) _]).toArray (kw + 1)) :: (D2, W.listOf zs2.toArray 0) :: (lr, W.listOf vr.toArray kr) :: (ld, W.listOf vd.toArray kd) :: (L + 1 + 1 + 1 + 1, c4) :: (L + 1 + 1 + 1, c3) :: (L + 1 + 1, c2) :: (L + 1, c1) :: [(117, tabObj #[])]) (by k_asm) (News.sub N9 fun p hp => .tail _ hp) (fun p hp => ?_) ⟨_, kw + 1, rfl, rfl, by k_asm, by k_asm, by k_asm, by rw [List.length_append, e5]; rfl, by rw [words_snoc hr']; exact e6.append' (.cons _ _ (.cons _ _ .nil))⟩
    rcases List.mem_cons.mp hp with rfl | hp
    · exact hne
    · exact off p (.tail _ hp)
  · intro m₁ nw₁ h tk hJ F₁ N₁
    refine Classical.byContradiction fun hG => ?_
    obtain ⟨vw, kw, rfl, e1, e2, e3, e4, e5, e6⟩ := hJ
    have hz2 := i2.length
    rw [List.size_toArray, hz2, show (r0 :: rt).drop 1 = rt from rfl, List.take_length] at e6
    have hwok := words_ok hsg hrs
    have hwl : (wordsF sg (r0 :: rt)).length ≤ 20 := by rw [words_len]; omega
    refine hG ?_
    clear hG
    refine law_C (lw := LW) (ld := ld) (lr := lr) (kw := kw) (kr := kr) (kd := kd) rfl rfl rfl K' F₁ X' T' codeHd l0 (News.sub N₁ ?hs) lt1 lt2 ?lt3 d4 d3 d2 d1 e1 e2 e3 e4 e6 idd ir rfl hsg hn3 hn6 hrs law hwl hld hpos (fun x hx => (hwok x hx).1) (fun x hx => (hwok x hx).2.1) (fun x hx => (hwok x hx).2.2) ret
    case hs =>
      walk_at "mine subs"
    case lt3 => exact b1
end
end
section -- La
open PySem PySem.W PyProof.Rows PySem.Calls PySem.Spec
set_option maxRecDepth 100000
set_option maxHeartbeats 8000000
set_option rowWalk.seconds 0

section
variable {w : World} {p : Program} {loose : List Str} {mean : ExcName → Option Value} {mg mb : Str → Option Value} {dp un : Nat} {gd : Option (List Code)} {cn : Str} {cs : Scope} {a : Addr} {ccd : Value} {cl : List (Str × Addr)} {outer : List Env} {A₀ : Around} {base h₀ : Heap} {L : Addr} {m : Str → Option Value} {s : Shared} {Q E : Value → Shared → Prop}
local macro_rules | `(tactic| walk_at "loadName") => `(tactic| (k_here; k_dflt (refine' Mine.loadX_L ?F ?v ?a ?b ?_; (case F => k_asm); (case a => rfl); (case b => rfl); (case v => assumption); k_whole)))
local macro_rules | `(tactic| walk_at "subscriptTail") => `(tactic| (k_here; (with_reducible show wpAny _ _ (subscriptTail (PySem.Expr.Name _ _) (PySem.Expr.Slice none (some (PySem.Expr.BinOp _ _ _ _)) none _) _ _) _ _ _); refine Mine.Stop.mk ?_))
local macro_rules | `(tactic| walk_at "subscriptTail Name Slice ref ref") => `(tactic| (k_here; (with_reducible show wpAny _ _ (subscriptTail (PySem.Expr.Name _ _) (PySem.Expr.Slice none (some (PySem.Expr.BinOp _ _ _ _)) none _) _ _) _ _ _); refine Mine.Stop.mk ?_))
local macro_rules | `(tactic| walk_at "subscriptTail") => `(tactic| (k_here; (with_reducible show wpAny _ _ (subscriptTail (PySem.Expr.Subscript _ _ _) (PySem.Expr.Slice none none (some _) _) _ _) _ _ _); refine Mine.Stop.mk ?_))
theorem n_bd {n : Nat} {d : Int} (h : (n : Int) = 3 + d % 4) : 3 ≤ n ∧ n ≤ 6 := by omega
def rowStep (r : List Int) (d : Int) : List Int := (r.sum + r.length + 1 + d) :: r
def rowF (ds : List Int) : List Int := ds.foldl rowStep []
theorem row_len : ∀ ds : List Int, (rowF ds).length = ds.length := fun ds => by
  have gen : ∀ (ds : List Int) (r : List Int), (ds.foldl rowStep r).length = r.length + ds.length := by
    intro ds
    induction ds with
    | nil => intro r; rfl
    | cons d ds ih => intro r; rw [List.foldl_cons, ih, rowStep, List.length_cons, List.length_cons]; omega
  rw [rowF, gen]
  simp
theorem row_snoc {ds : List Int} {i : Nat} {d : Int} (h : ds[i]? = some d) : rowF (ds.take (i + 1)) = rowStep (rowF (ds.take i)) d := foldl_take_succ h
theorem law_A {oc od osl} {fd : FuncData} {rest : List Stmt} {sc : Scope} (ho : (Mine.hd.heap_1 w.params).lookup 166 = some ⟨oc, od, .func fd, osl⟩) (hb : bodyFrom 4 fd.body = rest) (hsc : fd.scope = sc) {fa : Addr} {cd : Value} {Q : Flow → Shared → Prop}
    (K' : Below callerA h₀ [] h₀) (F : Fr h₀ L s.heap m) (X' : (Mine.hd.heap_1 w.params).In h₀) (T' : Top p loose mean mg mb h₀) (codeHd : CodeHd h₀ 121 117) (l0 : @LT.lt Nat _ 117 L)
    {ld lr : Addr} {kd : Nat} {vd : List Value} {c1 c2 c3 c4 : Obj} {d0 d1 d2 d3 d4 d5 : Int} {sg : Str} {tsg : Tok} {w1 : Value}
    (N : News h₀ L s.heap [(lr, W.listOf #[] 0), (ld, W.listOf vd.toArray kd), (L + 1 + 1 + 1 + 1, c4), (L + 1 + 1 + 1, c3), (L + 1 + 1, c2), (L + 1, c1), (117, tabObj #[])])
    (lt1 : @LT.lt Nat _ (L + 1 + 1 + 1 + 1) ld) (lt2 : @LT.lt Nat _ ld lr)
    (dd4 : c4.data = .cell none) (dd3 : c3.data = .cell none) (dd2 : c2.data = .cell none) (dd1 : c1.data = .cell (some w1))
    (m2 : m (Str.ofString "draws") = some (.ref ld)) (m3 : m (Str.ofString "row") = some (.ref lr)) (m4 : m (Str.ofString "sign") = some (.str sg tsg))
    (idd : IntsAre vd [d0, d1, d2, d3, d4, d5]) (hsg : IsSign sg) {n : Nat} (hn : (n : Int) = 3 + d1 % 4)
    (hrs : ∀ r ∈ rowF ([d0, d1, d2, d3, d4, d5].take n).reverse, 0 ≤ r ∧ r < 10 ^ 10) (law : LawOk sg (rowF ([d0, d1, d2, d3, d4, d5].take n).reverse))
    (hpos : ∀ d ∈ [d0, d1, d2, d3, d4, d5], 0 ≤ d)
    (ret : ∀ h' tk' m', Fr h₀ L h' m' → GrownAt 117 h' → Q (.ret (.bool true)) { s with heap := h', toks := tk' }) :
    wpAny (model Pr w) (callerA.deeper (envOfC (Str.ofString "law") sc L fa cd)) (execs rest (envOfC (Str.ofString "law") sc L fa cd)) Q E s := by
  revert rest sc
  refine rest_of (fd' := fd) (P := fun fd => ∀ {rest : List Stmt} {sc : Scope}, bodyFrom 4 fd.body = rest → fd.scope = sc → wpAny (model Pr w) (callerA.deeper (envOfC (Str.ofString "law") sc L fa cd)) (execs rest (envOfC (Str.ofString "law") sc L fa cd)) Q E s) rfl ?_ ho
  intro rest sc hb hsc
  subst hb
  dsimp only [bodyFrom, List.drop]
  dsimp only at hsc
  subst hsc
  walk_at "mine fill"
  have hd1e : Int.fmod ([d0, d1, d2, d3, d4, d5].getD (Int.toNat 1) 0) 4 = d1 % 4 := Int.fmod_eq_emod_of_nonneg _ (by decide)
  have hn36 : 3 ≤ n ∧ n ≤ 6 := n_bd hn
  have hn3 := hn36.1
  have hn6 := hn36.2
  replace hn : Stop ((n : Int) = 3 + d1 % 4) := hn
  replace hd1e : Stop (Int.fmod ([d0, d1, d2, d3, d4, d5].getD (Int.toNat 1) 0) 4 = d1 % 4) := hd1e
  have hvd := idd.length
  (try k_fold)
  k_steps
  unfold Stop
  k_dflt (refine Mine.slice_upto (by k_asm) (by k_asm) (by kmk_list) idd (.int _ _) (b := n) (by rw [show Int.fmod ([d0, d1, d2, d3, d4, d5].getD (Int.toNat 1) 0) 4 = d1 % 4 from hd1e]; exact Eq.symm hn) (by show n ≤ 6; exact hn6) ?_ (by with_unfolding_all rfl) (by kmk_pure) (by rw [sizeLine_eq, List.size_toArray, hvd]; show 6 ≤ _; omega))
  intro DA zA hA FA NA lA iA
  (try k_lt lA)
  k_steps
  unfold Stop
  have hAl : zA.length ≤ 6 := iA.length ▸ (by rw [List.length_take]; exact Nat.min_le_right _ _)
  k_dflt (refine Mine.slice_rev_tmp (by k_asm) (by k_asm) (by kmk_list) iA (.int _ _) ?_ (by (rw [sizeLine_eq]; simp only [List.size_toArray]; omega)))
  intro DB zB hB FB NB lB iB
  (try k_lt lB)
  k_steps
  refine Classical.byContradiction fun hG => ?_
  obtain ⟨x1, x2, x3, x4, x5, x6, x7, x8⟩ := lB
  have hBl := iB.length
  rw [List.length_reverse, List.length_take] at hBl
  have hrow6 : ∀ i, (rowF (([d0, d1, d2, d3, d4, d5].take n).reverse.take i)).length ≤ 6 := fun i => by
    rw [row_len, List.length_take, List.length_reverse, List.length_take]
    exact Nat.le_trans (Nat.min_le_right _ _) (Nat.min_le_right _ _)
  refine hG ?_
  clear hG
  refine iter_list (fun i m' nw => ∃ LR vr kr, nw = (LR, W.listOf vr.toArray kr) :: (DB, W.listOf zB.toArray 0) :: (ld, W.listOf vd.toArray kd) :: (L + 1 + 1 + 1 + 1, c4) :: (L + 1 + 1 + 1, c3) :: (L + 1 + 1, c2) :: (L + 1, c1) :: [(117, tabObj #[])] ∧ m' (Str.ofString "draws") = some (.ref ld) ∧ m' (Str.ofString "row") = some (.ref LR) ∧ m' (Str.ofString "sign") = some (.str sg tsg) ∧ @LT.lt Nat _ ld LR ∧ @Ne Nat LR DB ∧ IntsAre vr (rowF (([d0, d1, d2, d3, d4, d5].take n).reverse.take i))) rfl (by k_asm) (News.sub (b := (lr, W.listOf ([] : List Value).toArray 0) :: (DB, W.listOf zB.toArray 0) :: (ld, W.listOf vd.toArray kd) :: (L + 1 + 1 + 1 + 1, c4) :: (L + 1 + 1 + 1, c3) :: (L + 1 + 1, c2) :: (L + 1, c1) :: [(117, tabObj #[])]) NB ?hsub) (.inr ⟨_, .tail _ (.head _), rfl, _, rfl⟩) ⟨lr, [], 0, rfl, by exact m2, by exact m3, by exact m4, lt2, Nat.ne_of_lt x2, .nil⟩ ?hS ?_ ?_
  case hsub =>
    walk_at "mine subs"
  case hS =>
    rintro i m' nw ⟨LR, vr, kr, rfl, _⟩
    exact .inr ⟨_, .tail _ (.head _), rfl, _, rfl⟩
  · intro i v m₁ nw₁ h tk I oI hv hJ off F₁ N₁
    refine Classical.byContradiction fun hG => ?_
    obtain ⟨LR, vr, kr, rfl, e1, e2, e3, e4, e5, e6⟩ := hJ
    obtain ⟨r, t, hr, rfl⟩ := IntsAre.at' iB (by simpa using hv)
    have hvl : Stop (vr.length = _) := e6.length
    have hr6 := hrow6 i
    have hvr6 : vr.length ≤ 6 := (show vr.length = _ from hvl) ▸ hrow6 i
    refine hG ?_
    clear hG
    (try k_fold)
    k_steps
    rename_i D9 W9 _ _ _ hI9 l9 _ F9 N9
    refine Classical.byContradiction fun hG => ?_
    obtain ⟨y1, y2, y3, y4, y5, y6, y7, y8, y9, y10⟩ := l9
    refine hG ?_
    clear hG
    refine MTurnEnd.mk ((D9, W.listOf W9.toArray 0) :: (DB, W.listOf zB.toArray 0) :: (ld, W.listOf vd.toArray kd) :: (L + 1 + 1 + 1 + 1, c4) :: (L + 1 + 1 + 1, c3) :: (L + 1 + 1, c2) :: (L + 1, c1) :: [(117, tabObj #[])]) F9 (News.sub N9 fun p hp => ?_) (fun p hp => ?_) ⟨D9, W9, 0, rfl, by k_asm, rfl, by k_asm, y5, Ne.symm (Nat.ne_of_lt y4), by rw [row_snoc hr, rowStep, ← (show vr.length = _ from hvl), ← List.size_toArray]; exact hI9⟩
    · revert p
      walk_at "mine subs"
    · rcases List.mem_cons.mp hp with rfl | hp
      · exact Ne.symm (Nat.ne_of_lt y2)
      · exact off p (.tail _ hp)
  · intro m₁ nw₁ h tk hJ F₁ N₁
    refine Classical.byContradiction fun hG => ?_
    obtain ⟨LR, vr, kr, rfl, e1, e2, e3, e4, e5, e6⟩ := hJ
    rw [List.size_toArray, hBl, ← List.length_take, ← List.length_reverse, List.take_length] at e6
    have hlr : (rowF ([d0, d1, d2, d3, d4, d5].take n).reverse).length = n := by
      rw [row_len, List.length_reverse, List.length_take]
      exact Nat.min_eq_left hn6
    refine hG ?_
    clear hG
    refine law_B (ld := ld) (lr := LR) (kr := kr) (kd := kd) rfl rfl rfl K' F₁ X' T' codeHd l0 (News.sub N₁ ?hs) lt1 e4 dd4 dd3 dd2 dd1 e1 e2 e3 idd e6 hsg (by rw [hlr]; exact hn3) (by rw [hlr]; exact hn6) hrs law rfl hpos ret
    case hs =>
      walk_at "mine subs"
theorem law_A2 {oc od osl} {fd : FuncData} {rest : List Stmt} {sc : Scope} (ho : (Mine.hd.heap_1 w.params).lookup 166 = some ⟨oc, od, .func fd, osl⟩) (hb : bodyFrom 4 fd.body = rest) (hsc : fd.scope = sc) {fa : Addr} {cd : Value} {Q : Flow → Shared → Prop}
    (K' : Below callerA h₀ [] h₀) (F : Fr h₀ L s.heap m) (X' : (Mine.hd.heap_1 w.params).In h₀) (T' : Top p loose mean mg mb h₀) (codeHd : CodeHd h₀ 121 117) (l0 : @LT.lt Nat _ 117 L)
    {ld lr : Addr} {kd : Nat} {vd : List Value} {c1 c2 c3 c4 : Obj} {d0 d1 d2 d3 d4 d5 : Int} {sg : Str} {tsg : Tok} {w1 : Value}
    {z1 z2 z3 z4 : Addr} {y1 y2 y3 y4 : Obj} (N : News h₀ L s.heap [(lr, W.listOf #[] 0), (z1, y1), (ld, W.listOf vd.toArray kd), (z2, y2), (z3, y3), (z4, y4), (L + 1 + 1 + 1 + 1, c4), (L + 1 + 1 + 1, c3), (L + 1 + 1, c2), (L + 1, c1), (117, tabObj #[])])
    (lt1 : @LT.lt Nat _ (L + 1 + 1 + 1 + 1) ld) (lt2 : @LT.lt Nat _ ld lr)
    (dd4 : c4.data = .cell none) (dd3 : c3.data = .cell none) (dd2 : c2.data = .cell none) (dd1 : c1.data = .cell (some w1))
    (m2 : m (Str.ofString "draws") = some (.ref ld)) (m3 : m (Str.ofString "row") = some (.ref lr)) (m4 : m (Str.ofString "sign") = some (.str sg tsg))
    (idd : IntsAre vd [d0, d1, d2, d3, d4, d5]) (hsg : IsSign sg) {n : Nat} (hn : (n : Int) = 3 + d1 % 4)
    (hrs : ∀ r ∈ rowF ([d0, d1, d2, d3, d4, d5].take n).reverse, 0 ≤ r ∧ r < 10 ^ 10) (law : LawOk sg (rowF ([d0, d1, d2, d3, d4, d5].take n).reverse))
    (hpos : ∀ d ∈ [d0, d1, d2, d3, d4, d5], 0 ≤ d)
    (ret : ∀ h' tk' m', Fr h₀ L h' m' → GrownAt 117 h' → Q (.ret (.bool true)) { s with heap := h', toks := tk' }) :
    wpAny (model Pr w) (callerA.deeper (envOfC (Str.ofString "law") sc L fa cd)) (execs rest (envOfC (Str.ofString "law") sc L fa cd)) Q E s := by
  refine law_A (kd := kd) ho hb hsc K' F X' T' codeHd l0 (News.sub N fun p hp => ?_) lt1 lt2 dd4 dd3 dd2 dd1 m2 m3 m4 idd hsg hn hrs law hpos ret
  revert p
  walk_at "mine subs"
end
end
section -- Gr
open PySem PySem.W PyProof.Rows PySem.Calls PySem.Spec
set_option maxRecDepth 100000
set_option maxHeartbeats 8000000
inductive F2 {α β : Type} (R : α → β → Prop) : List α → List β → Prop
  | nil : F2 R [] []
  | cons {a : α} {b : β} {l : List α} {m : List β} : R a b → F2 R l m → F2 R (a :: l) (b :: m)
section
variable {α β : Type} {R : α → β → Prop}
theorem F2.append {l l' : List α} {m m' : List β} (h : F2 R l m) (h' : F2 R l' m') : F2 R (l ++ l') (m ++ m') := by
  induction h with
  | nil => exact h'
  | cons h1 _ ih => exact .cons h1 ih
theorem F2.len {l : List α} {m : List β} (h : F2 R l m) : l.length = m.length := by
  induction h with
  | nil => rfl
  | cons _ _ ih => rw [List.length_cons, List.length_cons, ih]
theorem F2.mem {l : List α} {m : List β} {a : α} {b : β} (heq : ∀ a' b', R a' b' → (a = a' ↔ b = b')) (h : F2 R l m) : a ∈ l ↔ b ∈ m := by
  induction h with
  | nil => simp
  | cons h1 _ ih => rw [List.mem_cons, List.mem_cons, ih, heq _ _ h1]
theorem F2.get {l : List α} {m : List β} (h : F2 R l m) : ∀ {i : Nat} {a : α}, l[i]? = some a → ∃ b, m[i]? = some b ∧ R a b := by
  induction h with
  | nil => intro i a h; simp at h
  | cons h1 _ ih =>
    intro i a h
    cases i with
    | zero => cases h; exact ⟨_, rfl, h1⟩
    | succ i => exact ih h
theorem F2.map {γ : Type} {f : α → γ} {g : β → γ} {l : List α} {m : List β} (h : F2 R l m) (hfg : ∀ a b, R a b → f a = g b) : l.map f = m.map g := by
  induction h with
  | nil => rfl
  | cons h1 _ ih => rw [List.map_cons, List.map_cons, ih, hfg _ _ h1]
theorem F2.countP {f : α → Bool} {g : β → Bool} {l : List α} {m : List β} (h : F2 R l m) (hfg : ∀ a b, R a b → f a = g b) : l.countP f = m.countP g := by
  induction h with
  | nil => rfl
  | cons h1 _ ih => rw [List.countP_cons, List.countP_cons, ih, hfg _ _ h1]
end

def sval : List Int → List Bool → Int
  | y :: ys, b :: bs => (if b = true then y else -y) + sval ys bs
  | [], _ => 0
  | _ :: _, [] => 0
def lexB : List Bool → List Bool → Bool
  | b :: bs, c :: cs => if b == c then lexB bs cs else c
  | _, _ => false
def Sup : List Int → Prop
  | [] => True
  | y :: r => r.sum < y ∧ Sup r
theorem sup_nonneg : ∀ {ys : List Int}, Sup ys → 0 ≤ ys.sum
  | [], _ => by simp
  | y :: r, h => by
    have := sup_nonneg h.2
    have h1 := h.1
    rw [List.sum_cons]; omega
theorem sup_drop : ∀ {ys : List Int} {i : Nat}, Sup ys → Sup (ys.drop i)
  | ys, 0, h => h
  | [], i + 1, h => h
  | y :: r, i + 1, h => sup_drop (ys := r) (i := i) h.2
theorem sval_bd : ∀ (ys : List Int) (bs : List Bool), Sup ys → -ys.sum ≤ sval ys bs ∧ sval ys bs ≤ ys.sum
  | [], _, _ => by simp [sval]
  | y :: r, [], h => by
    have := sup_nonneg h
    simp only [sval]; omega
  | y :: r, b :: bs, h => by
    have h1 := h.1
    have h2 := sup_nonneg h.2
    obtain ⟨h3, h4⟩ := sval_bd r bs h.2
    rw [List.sum_cons, sval]
    cases b <;> simp <;> omega
theorem sval_lex : ∀ (ys : List Int) (bs cs : List Bool), Sup ys → bs.length = cs.length → bs.length ≤ ys.length → (sval ys bs < sval ys cs ↔ lexB bs cs = true)
  | ys, [], [], _, _, _ => by cases ys <;> simp [sval, lexB]
  | _, [], _ :: _, _, h, _ => by simp at h
  | _, _ :: _, [], _, h, _ => by simp at h
  | [], _ :: _, _ :: _, _, _, h => by simp at h
  | y :: ys, b :: bs, c :: cs, hs, hl, hy => by
    have ih := sval_lex ys bs cs hs.2 (by simpa using hl) (by simpa using hy)
    have h1 := hs.1
    obtain ⟨h3, h4⟩ := sval_bd ys bs hs.2
    obtain ⟨h5, h6⟩ := sval_bd ys cs hs.2
    rw [sval, sval, lexB]
    cases b <;> cases c <;> simp <;> first | (rw [← ih]; omega) | omega
theorem lexB_total : ∀ (bs cs : List Bool), bs.length = cs.length → lexB bs cs = false → lexB cs bs = false → bs = cs
  | [], [], _, _, _ => rfl
  | [], _ :: _, h, _, _ => by simp at h
  | _ :: _, [], h, _, _ => by simp at h
  | b :: bs, c :: cs, hl, h1, h2 => by
    rw [lexB] at h1 h2
    cases b <;> cases c <;> simp at h1 h2
    · rw [lexB_total bs cs (by simpa using hl) h1 h2]
    · rw [lexB_total bs cs (by simpa using hl) h1 h2]
theorem sval_inj {ys : List Int} {bs cs : List Bool} (hs : Sup ys) (hl : bs.length = cs.length) (hy : bs.length ≤ ys.length) (h : sval ys bs = sval ys cs) : bs = cs := by
  refine lexB_total bs cs hl ?_ ?_
  · cases e : lexB bs cs with
    | false => rfl
    | true => have := (sval_lex ys bs cs hs hl hy).mpr e; omega
  · cases e : lexB cs bs with
    | false => rfl
    | true => have := (sval_lex ys cs bs hs hl.symm (hl ▸ hy)).mpr e; omega
theorem sval_nil (bs : List Bool) : sval [] bs = 0 := by cases bs <;> rfl
theorem sval_flip : ∀ (ys : List Int) (bs : List Bool), sval ys (bs.map fun b => !b) = -sval ys bs
  | [], bs => by rw [sval_nil, sval_nil]; rfl
  | y :: ys, [] => rfl
  | y :: ys, b :: bs => by
    rw [List.map_cons, sval, sval, sval_flip ys bs]
    cases b <;> simp <;> omega
theorem sval_append : ∀ (ys : List Int) (a b : List Bool), sval ys (a ++ b) = sval ys a + sval (ys.drop a.length) b
  | ys, [], b => by cases ys <;> simp [sval]
  | [], a :: as, b => by simp [sval_nil]
  | y :: ys, a :: as, b => by
    rw [List.cons_append, sval, sval, sval_append ys as b, List.length_cons, List.drop_succ_cons]; omega

def KOk (k : Int) : Prop := k = 14 ∨ k = 15 ∨ k = 51 ∨ k = 31
def wv (k v : Int) : Int := if k = 31 then 3 * v + 1 else v
def wys (k : Int) (ns : List Int) : List Int := if k = 31 then ns.map (fun a => 3 * a + 1) else ns
def s1 (k : Int) : Bool := k == 14 || k == 15
def s2 (k : Int) : Bool := k == 14 || k == 51
def flipB (s : Bool) (bs : List Bool) : List Bool := if s = true then bs else bs.map fun b => !b
def deedB (k : Int) (a b : List Bool) : List Bool := flipB (s1 k) a ++ flipB (s2 k) b
theorem wv_inj {k v v' : Int} : wv k v = wv k v' ↔ v = v' := by unfold wv; split <;> omega
theorem wv_lt {k v v' : Int} : wv k v < wv k v' ↔ v < v' := by unfold wv; split <;> omega
theorem deed_w {k a b : Int} (hk : KOk k) : wv k (deedF k a b) = (if s1 k = true then wv k a else -wv k a) + (if s2 k = true then wv k b else -wv k b) := by
  rcases hk with rfl | rfl | rfl | rfl <;> simp [deedF, wv, s1, s2] <;> omega
theorem flip_len {s : Bool} {bs : List Bool} : (flipB s bs).length = bs.length := by unfold flipB; split <;> simp
theorem flip_val {s : Bool} {ys : List Int} {bs : List Bool} : sval ys (flipB s bs) = if s = true then sval ys bs else -sval ys bs := by
  unfold flipB; split
  · rfl
  · rw [sval_flip]
def Rv (k : Int) (ys : List Int) (start len : Nat) (v : Int) (bs : List Bool) : Prop := wv k v = sval (ys.drop start) bs ∧ bs.length = len
theorem Rv_eq {k : Int} {ys : List Int} {start len : Nat} {v v' : Int} {b b' : List Bool} (hs : Sup ys) (hl : start + len ≤ ys.length) (h : Rv k ys start len v b) (h' : Rv k ys start len v' b') : v = v' ↔ b = b' := by
  constructor
  · rintro rfl
    exact sval_inj (sup_drop hs) (h.2.trans h'.2.symm) (by rw [List.length_drop, h.2]; omega) (h.1.symm.trans h'.1)
  · rintro rfl
    exact wv_inj.mp (h.1.trans h'.1.symm)
theorem Rv_deed {k : Int} {ys : List Int} {start l1 l2 : Nat} {v v' : Int} {b b' : List Bool} (hk : KOk k) (h : Rv k ys start l1 v b) (h' : Rv k ys (start + l1) l2 v' b') : Rv k ys start (l1 + l2) (deedF k v v') (deedB k b b') := by
  refine ⟨?_, by unfold deedB; rw [List.length_append, flip_len, flip_len, h.2, h'.2]⟩
  unfold deedB
  rw [deed_w hk, sval_append, flip_val, flip_val, flip_len, h.2, List.drop_drop, h.1, h'.1]

def addNewB (f : List (List Bool)) (v : List Bool) : List (List Bool) := if v ∈ f then f else f ++ [v]
def twoLoopB (k : Int) (one : List Bool) (twos f : List (List Bool)) : List (List Bool) := twos.foldl (fun f two => addNewB f (deedB k one two)) f
def oneLoopB (k : Int) (ones twos f : List (List Bool)) : List (List Bool) := ones.foldl (fun f one => twoLoopB k one twos f) f
def cellAtB (tab : List (List (List (List Bool)))) (i j : Nat) : List (List Bool) := (tab.getD i []).getD j []
def sizeLoopB (k : Int) (tab : List (List (List (List Bool)))) (start n : Nat) : List (List Bool) :=
  (List.range n).foldl (fun f size => oneLoopB k (cellAtB tab size start) (cellAtB tab (tab.length - size - 1) (start + size + 1)) f) []
def newLineB (k : Int) (tab : List (List (List (List Bool)))) (n : Nat) : List (List (List Bool)) := (List.range (n - tab.length)).map fun start => sizeLoopB k tab start tab.length
def tabB (k : Int) (n : Nat) : Nat → List (List (List (List Bool)))
  | 0 => [List.replicate n [[true]]]
  | j + 1 => tabB k n j ++ [newLineB k (tabB k n j) n]
def resB (k : Int) (n : Nat) : List (List Bool) := cellAtB (tabB k n (n - 1)) (n - 1) 0
section
variable {k : Int} {ys : List Int} {start l1 l2 : Nat}
theorem add_rel {R : Int → List Bool → Prop} {f : List Int} {g : List (List Bool)} {v : Int} {b : List Bool} (heq : ∀ a' b', R a' b' → (v = a' ↔ b = b')) (hf : F2 R f g) (h : R v b) : F2 R (addNew f v) (addNewB g b) := by
  unfold addNew addNewB
  have hm := hf.mem heq
  by_cases hv : v ∈ f
  · rw [if_pos hv, if_pos (hm.mp hv)]; exact hf
  · rw [if_neg hv, if_neg fun q => hv (hm.mpr q)]; exact hf.append (.cons h .nil)
theorem two_rel (hk : KOk k) (hs : Sup ys) (hl : start + (l1 + l2) ≤ ys.length) {one : Int} {b : List Bool} (h1 : Rv k ys start l1 one b) {twos : List Int} {gt : List (List Bool)} (h2 : F2 (Rv k ys (start + l1) l2) twos gt) :
    ∀ {f : List Int} {g : List (List Bool)}, F2 (Rv k ys start (l1 + l2)) f g → F2 (Rv k ys start (l1 + l2)) (twoLoop k one twos f) (twoLoopB k b gt g) := by
  induction h2 with
  | nil => intro f g h; exact h
  | cons h3 _ ih =>
    intro f g h
    have hd := Rv_deed hk h1 h3
    exact ih (add_rel (fun a' b' hr => Rv_eq hs hl hd hr) h hd)
theorem one_rel (hk : KOk k) (hs : Sup ys) (hl : start + (l1 + l2) ≤ ys.length) {ones twos : List Int} {go gt : List (List Bool)} (h1 : F2 (Rv k ys start l1) ones go) (h2 : F2 (Rv k ys (start + l1) l2) twos gt) :
    ∀ {f : List Int} {g : List (List Bool)}, F2 (Rv k ys start (l1 + l2)) f g → F2 (Rv k ys start (l1 + l2)) (oneLoop k ones twos f) (oneLoopB k go gt g) := by
  induction h1 with
  | nil => intro f g h; exact h
  | cons h3 _ ih =>
    intro f g h
    exact ih (two_rel hk hs hl h3 h2 h)
def TabRel (k : Int) (ys : List Int) (n j : Nat) (tab : List (List (List Int))) (tB : List (List (List (List Bool)))) : Prop :=
  tab.length = j + 1 ∧ tB.length = j + 1 ∧ ∀ j' i, j' ≤ j → i + j' < n → F2 (Rv k ys i (j' + 1)) (cellAt tab j' i) (cellAtB tB j' i)
theorem size_rel {n j : Nat} {tab : List (List (List Int))} {tB : List (List (List (List Bool)))} (hk : KOk k) (hs : Sup ys) (hn : ys.length = n) (hT : TabRel k ys n j tab tB) {i : Nat} (hi : i + (j + 1) < n) :
    ∀ q, q ≤ j + 1 → F2 (Rv k ys i (j + 1 + 1)) (sizeLoop k tab i q) (sizeLoopB k tB i q) := by
  intro q
  induction q with
  | zero => intro _; exact .nil
  | succ q ih =>
    intro hq
    unfold sizeLoop sizeLoopB
    rw [List.range_succ, List.foldl_append, List.foldl_append]
    have h0 := ih (by omega)
    have h1 := hT.2.2 q i (by omega) (by omega)
    have h2 := hT.2.2 (tab.length - q - 1) (i + q + 1) (by rw [hT.1]; omega) (by rw [hT.1]; omega)
    have e : q + 1 + (tab.length - q - 1 + 1) = j + 1 + 1 := by rw [hT.1]; omega
    have h3 := one_rel (start := i) (l1 := q + 1) (l2 := tab.length - q - 1 + 1) hk hs (by rw [e]; omega) h1 h2 (f := sizeLoop k tab i q) (g := sizeLoopB k tB i q) (by rw [e]; exact h0)
    rw [e] at h3
    rw [List.foldl_cons, List.foldl_nil, List.foldl_cons, List.foldl_nil, show tB.length - q - 1 = tab.length - q - 1 by rw [hT.1, hT.2.1]]
    exact h3
theorem cell_old {tab : List (List (List Int))} {l : List (List Int)} {j i : Nat} (h : j < tab.length) : cellAt (tab ++ [l]) j i = cellAt tab j i := by
  have e : (tab ++ [l]).getD j [] = tab.getD j [] := by
    rw [List.getD_eq_getElem?_getD, List.getElem?_append_left h, ← List.getD_eq_getElem?_getD]
  unfold cellAt
  rw [e]
theorem cell_oldB {tab : List (List (List (List Bool)))} {l : List (List (List Bool))} {j i : Nat} (h : j < tab.length) : cellAtB (tab ++ [l]) j i = cellAtB tab j i := by
  have e : (tab ++ [l]).getD j [] = tab.getD j [] := by
    rw [List.getD_eq_getElem?_getD, List.getElem?_append_left h, ← List.getD_eq_getElem?_getD]
  unfold cellAtB
  rw [e]
theorem cell_new {tab : List (List (List Int))} {n i : Nat} (h : i < n - tab.length) : cellAt (tab ++ [newLine k tab n]) tab.length i = sizeLoop k tab i tab.length := by
  have e : (tab ++ [newLine k tab n]).getD tab.length [] = newLine k tab n := by
    rw [List.getD_eq_getElem?_getD, List.getElem?_append_right (Nat.le_refl _), Nat.sub_self]; rfl
  unfold cellAt
  rw [e, List.getD_eq_getElem?_getD, newLine_get h]; rfl
theorem cell_newB {tab : List (List (List (List Bool)))} {n i : Nat} (h : i < n - tab.length) : cellAtB (tab ++ [newLineB k tab n]) tab.length i = sizeLoopB k tab i tab.length := by
  have e : (tab ++ [newLineB k tab n]).getD tab.length [] = newLineB k tab n := by
    rw [List.getD_eq_getElem?_getD, List.getElem?_append_right (Nat.le_refl _), Nat.sub_self]; rfl
  unfold cellAtB
  rw [e, List.getD_eq_getElem?_getD]
  unfold newLineB
  rw [List.getElem?_map, List.getElem?_range h]; rfl
theorem tab_rel {ns : List Int} (hk : KOk k) (hs : Sup (wys k ns)) (hn : (wys k ns).length = ns.length) (hw : ∀ (i : Nat) (a : Int), ns[i]? = some a → (wys k ns)[i]? = some (wv k a)) : ∀ j, j < ns.length → TabRel k (wys k ns) ns.length j (tabF k ns j) (tabB k ns.length j) := by
  intro j
  induction j with
  | zero =>
    intro h0
    refine ⟨rfl, rfl, fun j' i hj hi => ?_⟩
    obtain rfl : j' = 0 := by omega
    have hi' : i < ns.length := by omega
    have e1 : cellAt (tabF k ns 0) 0 i = [ns[i]] := by
      show (ns.map fun a => [a]).getD i [] = _
      rw [List.getD_eq_getElem?_getD, List.getElem?_map, List.getElem?_eq_getElem hi']; rfl
    have e2 : cellAtB (tabB k ns.length 0) 0 i = [[true]] := by
      show (List.replicate ns.length [[true]]).getD i [] = _
      rw [List.getD_eq_getElem?_getD, List.getElem?_replicate, if_pos hi']; rfl
    rw [e1, e2]
    have hg := hw i ns[i] (List.getElem?_eq_getElem hi')
    have hd : (wys k ns).drop i = wv k ns[i] :: (wys k ns).drop (i + 1) := by
      have hl : i < (wys k ns).length := by omega
      rw [List.drop_eq_getElem_cons hl]
      rw [List.getElem?_eq_getElem hl] at hg
      injection hg with hg
      rw [hg]
    refine .cons ⟨?_, rfl⟩ .nil
    rw [hd, sval]
    cases (wys k ns).drop (i + 1) <;> simp [sval]
  | succ j ih =>
    intro hj
    have hT := ih (by omega)
    obtain ⟨t1, t2, t3⟩ := hT
    refine ⟨by rw [tabF, List.length_append, t1]; rfl, by rw [tabB, List.length_append, t2]; rfl, fun j' i hj' hi => ?_⟩
    by_cases h : j' ≤ j
    · rw [tabF, tabB, cell_old (by omega), cell_oldB (by omega)]
      exact t3 j' i h hi
    · obtain rfl : j' = j + 1 := by omega
      have e1 := cell_new (k := k) (tab := tabF k ns j) (n := ns.length) (i := i) (by omega)
      have e2 := cell_newB (k := k) (tab := tabB k ns.length j) (n := ns.length) (i := i) (by omega)
      rw [t1] at e1
      rw [t2] at e2
      rw [tabF, tabB, e1, e2]
      exact size_rel hk hs hn ⟨t1, t2, t3⟩ hi (j + 1) (Nat.le_refl _)
end
end
section -- Gs
open PySem PySem.W PyProof.Rows PySem.Calls PySem.Spec
set_option maxRecDepth 100000
set_option maxHeartbeats 8000000
def strB : List Bool → Str
  | [] => Str.ofString ""
  | b :: bs => (if b = true then Str.ofString "+" else Str.ofString "-") ++ strB bs
theorem emp_cps : (Str.ofString "").cps = #[] := by decide +kernel
theorem app_emp (x : Str) : x ++ Str.ofString "" = x := Str.ext' (by rw [Str.cps_append, emp_cps]; simp)
theorem emp_app (x : Str) : Str.ofString "" ++ x = x := Str.ext' (by rw [Str.cps_append, emp_cps]; simp)
theorem sg_fold : ∀ (ys : List Int) (bs : List Bool) (tx : Str), Sup ys → bs.length = ys.length → ys.foldl sgStep (tx, sval ys bs) = (tx ++ strB bs, 0)
  | [], [], tx, _, _ => by
    show (tx, (0 : Int)) = _
    rw [strB, app_emp]
  | [], _ :: _, _, _, h => by simp at h
  | _ :: _, [], _, _, h => by simp at h
  | y :: ys, b :: bs, tx, hs, hl => by
    have ih := fun tx => sg_fold ys bs tx hs.2 (by simpa using hl)
    have h1 := hs.1
    obtain ⟨h3, h4⟩ := sval_bd ys bs hs.2
    have h5 := sup_nonneg hs.2
    rw [List.foldl_cons, sval, strB, ← Str.append_assoc]
    cases b with
    | true =>
      simp only [if_true]
      rw [sgStep, if_pos (by show 0 < y + sval ys bs; omega), ← ih]
      show ys.foldl sgStep (tx ++ Str.ofString "+", y + sval ys bs - y) = _
      rw [show y + sval ys bs - y = sval ys bs by omega]
    | false =>
      simp only [Bool.false_eq_true, if_false]
      rw [sgStep, if_neg (by show ¬0 < -y + sval ys bs; omega), ← ih]
      show ys.foldl sgStep (tx ++ Str.ofString "-", -y + sval ys bs + y) = _
      rw [show -y + sval ys bs + y = sval ys bs by omega]
theorem signs_rel {k v : Int} {ns : List Int} {bs : List Bool} (hs : Sup (wys k ns)) (hn : (wys k ns).length = ns.length) (h : Rv k (wys k ns) 0 ns.length v bs) : signsT k v ns = strB bs := by
  have e := sg_fold (wys k ns) bs (Str.ofString "") hs (by rw [h.2, hn])
  have h1 := h.1
  rw [List.drop_zero] at h1
  rw [← h1] at e
  unfold signsT
  show (if ((wys k ns).foldl sgStep (Str.ofString "", wv k v)).2 = 0 then ((wys k ns).foldl sgStep (Str.ofString "", wv k v)).1 else Str.ofString "") = _
  rw [e, if_pos rfl]
  exact emp_app _
def chk (k : Int) (R : List (List Bool)) (D : List Str) : Bool :=
  decide (R.length < 1000) && ((R.map strB).length == D.length) &&
  R.all fun b => decide ((((R.map strB).map fun o => collF o (strB b)).count 1 : Int) = ((R.map strB).length : Int) - 1 - (((R.map strB).map fun o => collF o (strB b)).count (-1) : Nat)) &&
    (D[((R.map strB).map fun o => collF o (strB b)).count (-1)]? == some (strB b)) && (R.countP (fun o => lexB b o) == ((R.map strB).map fun o => collF o (strB b)).count (-1))
def fitB (k : Int) (n : Nat) : Bool := (List.range (n - 1)).all fun j => (newLineB k (tabB k n j) n).all fun c => decide (c.length < 1000)

theorem chk_14_3 : chk 14 (resB 14 3) (toldF (Str.ofString "+") 3) = true := by decide +kernel
theorem fit_14_3 : fitB 14 3 = true := by decide +kernel
theorem chk_15_3 : chk 15 (resB 15 3) (toldF (Str.ofString "-") 3) = true := by decide +kernel
theorem fit_15_3 : fitB 15 3 = true := by decide +kernel
theorem chk_51_3 : chk 51 (resB 51 3) (toldF (Str.ofString "->") 3) = true := by decide +kernel
theorem fit_51_3 : fitB 51 3 = true := by decide +kernel
theorem chk_31_3 : chk 31 (resB 31 3) (toldF (Str.ofString "~") 3) = true := by decide +kernel
theorem fit_31_3 : fitB 31 3 = true := by decide +kernel
theorem chk_14_4 : chk 14 (resB 14 4) (toldF (Str.ofString "+") 4) = true := by decide +kernel
theorem fit_14_4 : fitB 14 4 = true := by decide +kernel
theorem chk_15_4 : chk 15 (resB 15 4) (toldF (Str.ofString "-") 4) = true := by decide +kernel
theorem fit_15_4 : fitB 15 4 = true := by decide +kernel
theorem chk_51_4 : chk 51 (resB 51 4) (toldF (Str.ofString "->") 4) = true := by decide +kernel
theorem fit_51_4 : fitB 51 4 = true := by decide +kernel
theorem chk_31_4 : chk 31 (resB 31 4) (toldF (Str.ofString "~") 4) = true := by decide +kernel
theorem fit_31_4 : fitB 31 4 = true := by decide +kernel
theorem chk_14_5 : chk 14 (resB 14 5) (toldF (Str.ofString "+") 5) = true := by decide +kernel
theorem fit_14_5 : fitB 14 5 = true := by decide +kernel
theorem chk_15_5 : chk 15 (resB 15 5) (toldF (Str.ofString "-") 5) = true := by decide +kernel
theorem fit_15_5 : fitB 15 5 = true := by decide +kernel
theorem chk_51_5 : chk 51 (resB 51 5) (toldF (Str.ofString "->") 5) = true := by decide +kernel
theorem fit_51_5 : fitB 51 5 = true := by decide +kernel
theorem chk_31_5 : chk 31 (resB 31 5) (toldF (Str.ofString "~") 5) = true := by decide +kernel
theorem fit_31_5 : fitB 31 5 = true := by decide +kernel
theorem chk_14_6 : chk 14 (resB 14 6) (toldF (Str.ofString "+") 6) = true := by decide +kernel
theorem fit_14_6 : fitB 14 6 = true := by decide +kernel
theorem chk_15_6 : chk 15 (resB 15 6) (toldF (Str.ofString "-") 6) = true := by decide +kernel
theorem fit_15_6 : fitB 15 6 = true := by decide +kernel
theorem chk_51_6 : chk 51 (resB 51 6) (toldF (Str.ofString "->") 6) = true := by decide +kernel
theorem fit_51_6 : fitB 51 6 = true := by decide +kernel
theorem chk_31_6 : chk 31 (resB 31 6) (toldF (Str.ofString "~") 6) = true := by decide +kernel
theorem fit_31_6 : fitB 31 6 = true := by decide +kernel
theorem kind_ok {sg : Str} (h : IsSign sg) : KOk (kindOf sg) := by
  rcases h with rfl | rfl | rfl | rfl
  · exact .inl (by decide +kernel)
  · exact .inr (.inl (by decide +kernel))
  · exact .inr (.inr (.inl (by decide +kernel)))
  · exact .inr (.inr (.inr (by decide +kernel)))
theorem ground {sg : Str} (h : IsSign sg) {n : Nat} (h3 : 3 ≤ n) (h6 : n ≤ 6) : chk (kindOf sg) (resB (kindOf sg) n) (toldF sg n) = true ∧ fitB (kindOf sg) n = true := by
  have hn : n = 3 ∨ n = 4 ∨ n = 5 ∨ n = 6 := by omega
  rcases h with rfl | rfl | rfl | rfl
  · rw [show kindOf (Str.ofString "+") = 14 by decide +kernel]
    rcases hn with rfl | rfl | rfl | rfl
    · exact ⟨chk_14_3, fit_14_3⟩
    · exact ⟨chk_14_4, fit_14_4⟩
    · exact ⟨chk_14_5, fit_14_5⟩
    · exact ⟨chk_14_6, fit_14_6⟩
  · rw [show kindOf (Str.ofString "-") = 15 by decide +kernel]
    rcases hn with rfl | rfl | rfl | rfl
    · exact ⟨chk_15_3, fit_15_3⟩
    · exact ⟨chk_15_4, fit_15_4⟩
    · exact ⟨chk_15_5, fit_15_5⟩
    · exact ⟨chk_15_6, fit_15_6⟩
  · rw [show kindOf (Str.ofString "->") = 51 by decide +kernel]
    rcases hn with rfl | rfl | rfl | rfl
    · exact ⟨chk_51_3, fit_51_3⟩
    · exact ⟨chk_51_4, fit_51_4⟩
    · exact ⟨chk_51_5, fit_51_5⟩
    · exact ⟨chk_51_6, fit_51_6⟩
  · rw [show kindOf (Str.ofString "~") = 31 by decide +kernel]
    rcases hn with rfl | rfl | rfl | rfl
    · exact ⟨chk_31_3, fit_31_3⟩
    · exact ⟨chk_31_4, fit_31_4⟩
    · exact ⟨chk_31_5, fit_31_5⟩
    · exact ⟨chk_31_6, fit_31_6⟩
theorem wys_len {k : Int} {ns : List Int} : (wys k ns).length = ns.length := by unfold wys; split <;> simp
theorem wys_get {k : Int} {ns : List Int} (i : Nat) (a : Int) (h : ns[i]? = some a) : (wys k ns)[i]? = some (wv k a) := by
  unfold wys wv; split
  · rw [List.getElem?_map, h]; rfl
  · exact h
theorem law_of {sg : Str} {rs : List Int} (hsg : IsSign sg) (h3 : 3 ≤ rs.length) (h6 : rs.length ≤ 6) (hs : Sup (wys (kindOf sg) rs)) : LawOk sg rs := by
  have hk := kind_ok hsg
  obtain ⟨hc, hf⟩ := ground hsg h3 h6
  obtain ⟨k, hk0⟩ : ∃ k, kindOf sg = k := ⟨_, rfl⟩
  rw [hk0] at hk hc hf hs
  have hT := fun j hj => tab_rel (k := k) (ns := rs) hk hs wys_len wys_get j hj
  have hR : F2 (Rv k (wys k rs) 0 rs.length) (resF k rs) (resB k rs.length) := by
    have h := (hT (rs.length - 1) (by omega)).2.2 (rs.length - 1) 0 (Nat.le_refl _) (by omega)
    rw [show rs.length - 1 + 1 = rs.length by omega] at h
    exact h
  have hX : ((resF k rs).map fun v => signsT k v rs) = (resB k rs.length).map strB := hR.map fun v b h => signs_rel hs wys_len h
  unfold chk at hc
  simp only [Bool.and_eq_true, decide_eq_true_eq, beq_iff_eq, List.all_eq_true] at hc
  obtain ⟨⟨c1, c2⟩, c3⟩ := hc
  constructor
  · rw [hk0]
    intro j hj c hm
    obtain ⟨i, hi, rfl⟩ := List.mem_map.mp hm
    rw [List.mem_range, tabF_length] at hi
    have hT' := hT j (by omega)
    have h := size_rel hk hs wys_len hT' (i := i) (by omega) (j + 1) (Nat.le_refl _)
    rw [tabF_length, h.len]
    unfold fitB at hf
    have h1 := List.all_eq_true.mp hf j (List.mem_range.mpr (by omega))
    have h2 := List.all_eq_true.mp h1 (sizeLoopB k (tabB k rs.length j) i (tabB k rs.length j).length) (List.mem_map.mpr ⟨i, List.mem_range.mpr (by rw [hT'.2.1]; omega), rfl⟩)
    rw [hT'.2.1] at h2
    have := of_decide_eq_true h2
    omega
  · rw [hk0, hR.len]; exact c1
  · rw [hk0, hX]; exact c2
  · rw [hk0, hX]
    intro i v x hv hx
    obtain ⟨b, hb, hr⟩ := hR.get hv
    rw [List.getElem?_map, hb] at hx
    injection hx with hx
    subst hx
    obtain ⟨⟨e1, e2⟩, e3⟩ := c3 b (List.mem_of_getElem? hb)
    refine ⟨e1, e2, ?_⟩
    rw [← e3]
    refine hR.countP fun o c ho => ?_
    have h1 := hr.1
    have h2 := ho.1
    rw [List.drop_zero] at h1 h2
    have h3 := sval_lex (wys k rs) b c hs (hr.2.trans ho.2.symm) (by rw [hr.2, wys_len]; exact Nat.le_refl _)
    rw [← h1, ← h2, wv_lt] at h3
    cases e : lexB b c with
    | true => exact decide_eq_true (h3.mpr e)
    | false => exact decide_eq_false fun q => by rw [h3.mp q] at e; cases e
def DrawsOk (ds : List Int) : Prop := ∀ d ∈ ds, 0 ≤ d ∧ d ≤ 12000010
theorem row_bd : ∀ (ds r : List Int) (p : Int), (∀ d ∈ ds, 0 ≤ d ∧ d ≤ 12000010) → (∀ x ∈ r, 0 ≤ x ∧ x ≤ r.sum) → 0 ≤ r.sum → r.sum ≤ (p - 1) * 12000017 → r.length + ds.length ≤ 6 →
    ∀ x ∈ ds.foldl rowStep r, 0 ≤ x ∧ x ≤ (2 ^ ds.length * p - 1) * 12000017
  | [], r, p, _, hr, _, hp, _ => fun x hx => by
    show 0 ≤ x ∧ x ≤ (1 * p - 1) * 12000017
    rw [Int.one_mul]
    exact ⟨(hr x hx).1, Int.le_trans (hr x hx).2 hp⟩
  | d :: ds, r, p, hd, hr, h0, hp, hl => by
    rw [List.length_cons] at hl ⊢
    have h1 := hd d (.head _)
    have hs : (rowStep r d).sum = r.sum + r.length + 1 + d + r.sum := List.sum_cons
    have h6 : (r.length : Int) ≤ 6 := by omega
    have ih := row_bd ds (rowStep r d) (2 * p) (fun x hx => hd x (.tail _ hx)) (List.forall_mem_cons.mpr ⟨by rw [hs]; omega, fun x hx => by have := hr x hx; rw [hs]; omega⟩) (by rw [hs]; omega) (by rw [hs]; omega) (by rw [rowStep, List.length_cons]; omega)
    rw [Int.pow_succ, Int.mul_assoc]
    exact ih
theorem row_hrs {ds : List Int} (hd : DrawsOk ds) {n : Nat} (hn6 : n ≤ 6) : ∀ r ∈ rowF (ds.take n).reverse, 0 ≤ r ∧ r < 10 ^ 10 := fun r hr => by
  have hl : (ds.take n).reverse.length ≤ 6 := by rw [List.length_reverse, List.length_take]; exact Nat.le_trans (Nat.min_le_left _ _) hn6
  have h := row_bd (ds.take n).reverse [] 1 (fun d hx => hd d (List.mem_of_mem_take (List.mem_reverse.mp hx))) (fun x hx => nomatch hx) (Int.le_refl 0) (Int.le_refl 0) (by rw [List.length_nil, Nat.zero_add]; exact hl) r hr
  refine ⟨h.1, Int.lt_of_le_of_lt h.2 ?_⟩
  have hp : (2 : Int) ^ (ds.take n).reverse.length ≤ 2 ^ 6 := by
    have := Nat.pow_le_pow_right (show 0 < 2 by decide) hl
    exact_mod_cast this
  have h2 : (2 : Int) ^ 6 = 64 := rfl
  omega
theorem sup_step {r : List Int} {d : Int} (h : Sup r) (hd : 0 ≤ d) : Sup (rowStep r d) := ⟨by omega, h⟩
theorem sum_three : ∀ r : List Int, (r.map fun a => 3 * a + 1).sum = 3 * r.sum + r.length
  | [] => rfl
  | a :: r => by rw [List.map_cons, List.sum_cons, sum_three r, List.sum_cons, List.length_cons]; omega
theorem sup_step3 {r : List Int} {d : Int} (h : Sup (r.map fun a => 3 * a + 1)) (hd : 0 ≤ d) : Sup ((rowStep r d).map fun a => 3 * a + 1) := ⟨by rw [sum_three]; show _ < 3 * (r.sum + r.length + 1 + d) + 1; omega, h⟩
theorem row_sup {k : Int} {ds : List Int} (hd : ∀ d ∈ ds, 0 ≤ d) : Sup (wys k (rowF ds)) := by
  have g1 : ∀ (ds r : List Int), (∀ d ∈ ds, 0 ≤ d) → Sup r → Sup (ds.foldl rowStep r) := by
    intro ds
    induction ds with
    | nil => intro r _ h; exact h
    | cons d ds ih => intro r hd h; exact ih _ (fun x hx => hd x (.tail _ hx)) (sup_step h (hd d (.head _)))
  have g3 : ∀ (ds r : List Int), (∀ d ∈ ds, 0 ≤ d) → Sup (r.map fun a => 3 * a + 1) → Sup ((ds.foldl rowStep r).map fun a => 3 * a + 1) := by
    intro ds
    induction ds with
    | nil => intro r _ h; exact h
    | cons d ds ih => intro r hd h; exact ih _ (fun x hx => hd x (.tail _ hx)) (sup_step3 h (hd d (.head _)))
  unfold wys
  split
  · exact g3 ds [] hd trivial
  · exact g1 ds [] hd trivial
end
section -- Lw
open PySem PySem.W PyProof.Rows PySem.Calls PySem.Spec
set_option maxRecDepth 100000
set_option maxHeartbeats 8000000
set_option rowWalk.seconds 0

section
variable {w : World} {p : Program} {loose : List Str} {mean : ExcName → Option Value} {mg mb : Str → Option Value} {dp un : Nat} {gd : Option (List Code)} {cn : Str} {cs : Scope} {a : Addr} {ccd : Value} {cl : List (Str × Addr)} {outer : List Env} {A₀ : Around} {base h₀ : Heap} {L : Addr} {m : Str → Option Value} {s : Shared} {Q E : Value → Shared → Prop}
local macro_rules | `(tactic| walk_at "exec Assign cons ListComp") => `(tactic| (k_here; lcp_look; refine Mine.Stop.mk ?_))
theorem fm (c : Int) : c.fmod (10 ^ Int.toNat 6) = c % 1000000 := by
  rw [show (10 : Int) ^ Int.toNat 6 = 1000000 by rfl]; exact Int.fmod_eq_emod_of_nonneg _ (by decide)
local macro_rules | `(tactic| walk_at "subscriptTail Name Slice ref ref") => `(tactic| (k_here; (with_reducible show wpAny _ _ (subscriptTail _ (PySem.Expr.Slice _ _ (some _) _) (Value.ref _) (Value.ref _)) _ _ _); k_dflt (refine' Mine.slice3_ints ?F ?N ?l ?i ?p ?q ?k ?o ?_ ?s ?t ?z; (case F => k_asm); (case N => k_asm); (case l => kmk_list); (case i => assumption); (case p => kmk_part); (case q => kmk_part); (case k => kmk_part); (case o => decide); (case s => with_unfolding_all rfl); (case t => kmk_pure); (case z => ((rw [PySem.sizeLine_eq]); (simp only [List.size_toArray]); omega))); intro D' zs' ns' h' F' N' l1 hI' hM' hL'; (try k_lt l1); (try k_sweep)))
local macro_rules | `(tactic| walk_at "subscriptTail") => `(tactic| (k_here; (with_reducible show wpAny _ _ (subscriptTail (PySem.Expr.List _ _) _ _ _) _ _ _); refine Mine.Stop.mk ?_))
local macro_rules | `(tactic| walk_at "execs cons") => `(tactic| (k_here; (with_reducible show wpAny _ _ (execs [_, _, _, _, _, _, _, _, _, _, _, _] _) _ _ _); refine Mine.Stop.mk ?_))
def signOf (d : Int) : Str := if d % 4 = 0 then Str.ofString "+" else if d % 4 = 1 then Str.ofString "-" else if d % 4 = 2 then Str.ofString "->" else Str.ofString "~"
local macro_rules | `(tactic| walk_at "subscriptTail") => `(tactic| (k_here; (with_reducible show wpAny _ _ (subscriptTail (PySem.Expr.Name _ _) (PySem.Expr.Slice none (some (PySem.Expr.BinOp _ _ _ _)) none _) _ _) _ _ _); refine Mine.Stop.mk ?_))
local macro_rules | `(tactic| walk_at "subscriptTail Name Slice ref ref") => `(tactic| (k_here; (with_reducible show wpAny _ _ (subscriptTail (PySem.Expr.Name _ _) (PySem.Expr.Slice none (some (PySem.Expr.BinOp _ _ _ _)) none _) _ _) _ _ _); refine Mine.Stop.mk ?_))
local macro_rules | `(tactic| walk_at "subscriptTail") => `(tactic| (k_here; (with_reducible show wpAny _ _ (subscriptTail (PySem.Expr.Subscript _ _ _) (PySem.Expr.Slice none none (some _) _) _ _) _ _ _); refine Mine.Stop.mk ?_))
theorem sign_is (d : Int) : IsSign (signOf d) := by
  unfold signOf
  split
  · exact .inl rfl
  · split
    · exact .inr (.inl rfl)
    · split
      · exact .inr (.inr (.inl rfl))
      · exact .inr (.inr (.inr rfl))
theorem sign_pick {d : Int} {t0 t1 t2 t3 : Tok} : ∃ t, [Value.str (Str.ofString "+") t0, .str (Str.ofString "-") t1, .str (Str.ofString "->") t2, .str (Str.ofString "~") t3][(d % 4).toNat]? = some (.str (signOf d) t) := by
  have h : d % 4 = 0 ∨ d % 4 = 1 ∨ d % 4 = 2 ∨ d % 4 = 3 := by omega
  unfold signOf
  rcases h with h | h | h | h <;> rw [h] <;> exact ⟨_, rfl⟩
theorem sum_bd {M : Int} (hM : 0 ≤ M) : ∀ (zs : List Int), (∀ z ∈ zs, 0 ≤ z ∧ z ≤ M) → 0 ≤ zs.sum ∧ zs.sum ≤ zs.length * M
  | [], _ => by simp
  | z :: r, h => by
    obtain ⟨h1, h2⟩ := sum_bd hM r fun y hy => h y (.tail _ hy)
    obtain ⟨h3, h4⟩ := h z (.head _)
    rw [List.sum_cons, List.length_cons]
    refine ⟨by omega, ?_⟩
    rw [Int.natCast_add, Int.add_mul]
    omega
theorem ints_cons {ys : List Value} {d : Int} {ds : List Int} (h : IntsAre ys (d :: ds)) : ∃ t ys', ys = .int d t :: ys' ∧ IntsAre ys' ds := by
  cases h with | cons _ t h => exact ⟨t, _, rfl, h⟩
theorem six_of {ys : List Value} {ds : List Int} (h : IntsAre ys ds) (hl : ds.length = 6) : ∃ d0 d1 d2 d3 d4 d5 t0 t1 t2 t3 t4 t5, ds = [d0, d1, d2, d3, d4, d5] ∧ ys = [.int d0 t0, .int d1 t1, .int d2 t2, .int d3 t3, .int d4 t4, .int d5 t5] := by
  match ds, hl with
  | [d0, d1, d2, d3, d4, d5], _ =>
    refine Classical.byContradiction fun hG => ?_
    obtain ⟨t0, y0, e0, h⟩ := ints_cons h
    obtain ⟨t1, y1, e1, h⟩ := ints_cons h
    obtain ⟨t2, y2, e2, h⟩ := ints_cons h
    obtain ⟨t3, y3, e3, h⟩ := ints_cons h
    obtain ⟨t4, y4, e4, h⟩ := ints_cons h
    obtain ⟨t5, y5, e5, h⟩ := ints_cons h
    have e6 : y5 = [] := by cases h; rfl
    exact hG ⟨d0, d1, d2, d3, d4, d5, t0, t1, t2, t3, t4, t5, rfl, by rw [e0, e1, e2, e3, e4, e5, e6]⟩
theorem n_of (d : Int) : ∃ n : Nat, (n : Int) = 3 + d % 4 ∧ 3 ≤ n ∧ n ≤ 6 := ⟨(3 + d % 4).toNat, by omega, by omega, by omega⟩
theorem mod4_lt (d : Int) : d % 4 < 2 ^ 63 := Int.lt_trans (Int.emod_lt_of_pos d (by decide)) (by decide)
theorem million (c : Int) : 0 ≤ c % 1000000 ∧ c % 1000000 ≤ 999999 := by omega
theorem draw_bd {f z : Int} {n : Nat} (h0 : 0 ≤ f) (h1 : f ≤ 10) (hb : 0 ≤ z ∧ z ≤ n * 999999) (hn : n ≤ 12) : 0 ≤ f + z ∧ f + z ≤ 12000010 := by omega
theorem law_holds.tw10007947361888340627 : True := .intro
theorem law_holds.tw10028117763298573888 : True := .intro
theorem law_holds.tw10188763426450519768 : True := .intro
theorem law_holds.tw10242277825702978295 : True := .intro
theorem law_holds.tw10486713781251687710 : True := .intro
theorem law_holds.tw10566571302883470556 : True := .intro
theorem law_holds.tw10666784280354678857 : True := .intro
theorem law_holds.tw10841264019214440115 : True := .intro
theorem law_holds.tw11100686419730198450 : True := .intro
theorem law_holds.tw11310715605152030493 : True := .intro
theorem law_holds.tw11347954631545130290 : True := .intro
theorem law_holds.tw11484002064277903863 : True := .intro
theorem law_holds.tw11609493526922420660 : True := .intro
theorem law_holds.tw11615390640924946992 : True := .intro
theorem law_holds.tw11625900857008200698 : True := .intro
theorem law_holds.tw11764581739189218997 : True := .intro
theorem law_holds.tw11846676642670509255 : True := .intro
theorem law_holds.tw12115171985352901274 : True := .intro
theorem law_holds.tw12116493165278983582 : True := .intro
theorem law_holds.tw12303009252429188658 : True := .intro
theorem law_holds.tw123295346585929383 : True := .intro
theorem law_holds.tw12732824653754844360 : True := .intro
theorem law_holds.tw12780804625047726367 : True := .intro
theorem law_holds.tw13182730311906835528 : True := .intro
theorem law_holds.tw13392613628428298086 : True := .intro
theorem law_holds.tw13397297893571687751 : True := .intro
theorem law_holds.tw13431030151845061361 : True := .intro
theorem law_holds.tw13536078969547264968 : True := .intro
theorem law_holds.tw13709617746848070560 : True := .intro
theorem law_holds.tw1372012742513953645 : True := .intro
theorem law_holds.tw13766487248619392586 : True := .intro
theorem law_holds.tw1377309892636839040 : True := .intro
theorem law_holds.tw1385162719727133579 : True := .intro
theorem law_holds.tw13956741780833797525 : True := .intro
theorem law_holds.tw14160533322030094474 : True := .intro
theorem law_holds.tw14289194402921355359 : True := .intro
theorem law_holds.tw14498155544194170393 : True := .intro
theorem law_holds.tw14571795756577361901 : True := .intro
theorem law_holds.tw14774650325386425613 : True := .intro
theorem law_holds.tw14822640431511872941 : True := .intro
theorem law_holds.tw14826091818025786295 : True := .intro
theorem law_holds.tw14925382992726071281 : True := .intro
theorem law_holds.tw14983226153234331074 : True := .intro
theorem law_holds.tw14997073306097389879 : True := .intro
theorem law_holds.tw15005287543988543360 : True := .intro
theorem law_holds.tw15014403891855920072 : True := .intro
theorem law_holds.tw15191720212996534143 : True := .intro
theorem law_holds.tw15223225931038727273 : True := .intro
theorem law_holds.tw15274831704391544125 : True := .intro
theorem law_holds.tw15452448965706171373 : True := .intro
theorem law_holds.tw15607887362523206001 : True := .intro
theorem law_holds.tw15661869461025623997 : True := .intro
theorem law_holds.tw15802469936163623734 : True := .intro
theorem law_holds.tw15806970514647361693 : True := .intro
theorem law_holds.tw16098122237329998606 : True := .intro
theorem law_holds.tw16099233806120587224 : True := .intro
theorem law_holds.tw16273140198857503625 : True := .intro
theorem law_holds.tw16461882675039125421 : True := .intro
theorem law_holds.tw16614716721108272449 : True := .intro
theorem law_holds.tw1670043908289496885 : True := .intro
theorem law_holds.tw16720094985154256693 : True := .intro
theorem law_holds.tw16805829885119392726 : True := .intro
theorem law_holds.tw16836969012518115619 : True := .intro
theorem law_holds.tw16883458599210261866 : True := .intro
theorem law_holds.tw16893121556090616931 : True := .intro
theorem law_holds.tw1689763614830377041 : True := .intro
theorem law_holds.tw17027635718292003107 : True := .intro
theorem law_holds.tw1724926542741425601 : True := .intro
theorem law_holds.tw17255088995462705879 : True := .intro
theorem law_holds.tw17670325067046158467 : True := .intro
theorem law_holds.tw17713402740875732926 : True := .intro
theorem law_holds.tw17911580528928914924 : True := .intro
theorem law_holds.tw179590077315354965 : True := .intro
theorem law_holds.tw18090433342136740992 : True := .intro
theorem law_holds.tw18234560199702728603 : True := .intro
theorem law_holds.tw18269650602155537469 : True := .intro
theorem law_holds.tw18326849912455186884 : True := .intro
theorem law_holds.tw1905533677188600702 : True := .intro
theorem law_holds.tw2043166853727251185 : True := .intro
theorem law_holds.tw2136269947727277649 : True := .intro
theorem law_holds.tw2143268655074302082 : True := .intro
theorem law_holds.tw2387193687640843687 : True := .intro
theorem law_holds.tw2446358144275080391 : True := .intro
theorem law_holds.tw2503670479209048990 : True := .intro
theorem law_holds.tw2643271747718453845 : True := .intro
theorem law_holds.tw2644310842459337959 : True := .intro
theorem law_holds.tw3035144380315620824 : True := .intro
theorem law_holds.tw3186734533307500241 : True := .intro
theorem law_holds.tw3253568177066640346 : True := .intro
theorem law_holds.tw3366817510852727610 : True := .intro
theorem law_holds.tw3426384778480675251 : True := .intro
theorem law_holds.tw3438298445031660282 : True := .intro
theorem law_holds.tw3910120701321347557 : True := .intro
theorem law_holds.tw3956099054510807996 : True := .intro
theorem law_holds.tw4037582482628031876 : True := .intro
theorem law_holds.tw4273555757443719353 : True := .intro
theorem law_holds.tw4323815956820902445 : True := .intro
theorem law_holds.tw4441770287765753910 : True := .intro
theorem law_holds.tw4464252984393422682 : True := .intro
theorem law_holds.tw447027507633508388 : True := .intro
theorem law_holds.tw4581845663705801772 : True := .intro
theorem law_holds.tw4724682499426930962 : True := .intro
theorem law_holds.tw4818577856007422655 : True := .intro
theorem law_holds.tw4889031023730116350 : True := .intro
theorem law_holds.tw4916342969005030805 : True := .intro
theorem law_holds.tw498061464947678834 : True := .intro
theorem law_holds.tw5112083995522966620 : True := .intro
theorem law_holds.tw519298541982818421 : True := .intro
theorem law_holds.tw5212653520564569363 : True := .intro
theorem law_holds.tw545109181885906688 : True := .intro
theorem law_holds.tw5506821171919863439 : True := .intro
theorem law_holds.tw5640673133297012132 : True := .intro
theorem law_holds.tw575232530192455986 : True := .intro
theorem law_holds.tw576407869801174206 : True := .intro
theorem law_holds.tw6010987050077198686 : True := .intro
theorem law_holds.tw602461330855297101 : True := .intro
theorem law_holds.tw6159533029260741167 : True := .intro
theorem law_holds.tw6499956759230125245 : True := .intro
theorem law_holds.tw6507877686720480950 : True := .intro
theorem law_holds.tw653560878884961445 : True := .intro
theorem law_holds.tw6568228946969608854 : True := .intro
theorem law_holds.tw6776455111828631412 : True := .intro
theorem law_holds.tw6860709855171689206 : True := .intro
theorem law_holds.tw6896717019858035522 : True := .intro
theorem law_holds.tw7019463264422422977 : True := .intro
theorem law_holds.tw7085388766408611112 : True := .intro
theorem law_holds.tw7120836010843673076 : True := .intro
theorem law_holds.tw7185456241796803578 : True := .intro
theorem law_holds.tw7221428835167493151 : True := .intro
theorem law_holds.tw724200737284857819 : True := .intro
theorem law_holds.tw7304591109411159013 : True := .intro
theorem law_holds.tw7408322871517469003 : True := .intro
theorem law_holds.tw7497986649931050792 : True := .intro
theorem law_holds.tw7820799176418779761 : True := .intro
theorem law_holds.tw784011647948385275 : True := .intro
theorem law_holds.tw7910590604623066228 : True := .intro
theorem law_holds.tw8266603773606604290 : True := .intro
theorem law_holds.tw8285764192309689115 : True := .intro
theorem law_holds.tw8652346329174877282 : True := .intro
theorem law_holds.tw8835965917227929528 : True := .intro
theorem law_holds.tw8957123355933967898 : True := .intro
theorem law_holds.tw8970147916757833333 : True := .intro
theorem law_holds.tw8984712037535005518 : True := .intro
theorem law_holds.tw9013377322688217293 : True := .intro
theorem law_holds.tw9207643191828677137 : True := .intro
theorem law_holds.tw926570990666696690 : True := .intro
theorem law_holds.tw9423440377400516374 : True := .intro
theorem law_holds.tw9499421288289455938 : True := .intro
theorem law_holds.tw9529696498207198238 : True := .intro
theorem law_holds.tw9552830710289189752 : True := .intro
theorem law_holds.tw9606376775287448836 : True := .intro
theorem law_holds.tw9682718004065560343 : True := .intro
theorem law_holds.tw9779807473162285230 : True := .intro
theorem law_holds.tw9849722394096787677 : True := .intro
theorem law_holds.tw9992725586745946429 : True := .intro
set_option Elab.async true in
theorem law_holds : PySem.Challenge.rw_tp0017_01.Holds := by
  w_on
  o_law
  o_head (kmHook Mine.hd.heap_1 [2, 3, 15, 17, 18, 20, 21, 22, 24, 25, 27, 28, 29, 31, 32, 34, 35, 36, 38, 39, 41, 42, 43, 45, 46, 48, 49, 50, 52, 53, 55, 56, 57, 59, 60, 62, 63, 64, 66, 67, 69, 70, 78, 80, 81, 83, 84, 85, 87, 88, 90, 91, 92, 94, 95, 97, 98, 99, 101, 102, 104, 105, 106, 107, 108, 109, 110, 113, 116, 118, 119, 121, 122, 123, 126, 127, 128, 130, 131, 133, 134, 135, 138, 139, 140, 143, 144, 145, 147, 148, 150, 151, 152, 155, 156, 157, 160, 161, 162, 165, 166] (fun _ => by kernel_rfl) [117])
  (case hw => w_witness2)
  k_go0
  (try k_fold)
  k_steps
  unfold Stop
  rename_i D' ws' _ FW NW hI' _ _ _
  have hlen := hI'.length
  rw [List.length_take] at hlen
  have h12 : ws'.length ≤ 12 := by omega
  obtain ⟨sc, hsc⟩ : ∃ sc, IntsAre ws' sc := ⟨_, hI'⟩
  refine LCg.CompSrc.ledger rfl (by assumption) (by assumption) (.head _) (by rw [List.size_toArray, sizeLine_eq]; omega) ?_
  intro g
  refine compRest_m (fun i zs => IntsAre zs ((sc.take i).map fun c => c % 1000000)) (.inr ⟨_, .head _, rfl, _, rfl⟩) ?_ ?_ .nil
  · intro j zs u I oI C oC D₂ m₂ h₂ tk₂ E₂ hj hJ2 hu hC hx₂ F₂ N₂ off ne
    refine Classical.byContradiction fun hG => ?_
    obtain ⟨y, t, hy, rfl⟩ := IntsAre.at' hsc (by simpa using hu)
    refine hG ?_
    clear hG
    (try k_fold)
    k_steps
    exact EltEnd.mk (by assumption) (by assumption) (by rw [List.take_add_one, hy, List.map_append, fm]; exact ints_snoc hJ2)
  · intro zs hzs
    intro D₃ h₃ tk₃ F₃ N₃ o₃
    rw [List.size_toArray, hsc.length, List.take_length] at hzs
    simp only [LCg.Off1, and_true] at o₃
    dsimp only
    (try k_fold)
    k_steps
    unfold Stop
    k_dflt (refine Mine.Assign_compE (by k_asm) rfl (by with_unfolding_all rfl) (by with_unfolding_all rfl) (by decide) rfl (by decide) rfl rfl (by decide) rfl rfl ?_)
    k_steps
    have hzl : zs.length ≤ 12 := by rw [hzs.length, List.length_map, ← hsc.length]; exact h12
    rename_i hC1 hF1 o9 d9 D9 hp9 FD ND lD9
    have hD9 := (ND _ (.head _)).1
    refine call_enumerate_1 hD9 fun hq he hi hsz hk0 => ?_
    have FQ := Fr.keeps FD hk0
    have NQ := News.grown ND hk0
    have hfresh : ∀ x : Nat, @LE.le Nat _ hp9.objs.size x → ∀ o, hp9.get? x ≠ some o := fun x hx o e => absurd (Heap.lt_size e) (Nat.not_lt.mpr hx)
    have hltD : @LT.lt Nat _ D9 hp9.objs.size := Heap.lt_size hD9
    have hltL := FD.ns.lt
    have hf0 : ∀ x : Nat, @LE.le Nat _ hp9.objs.size x → (ghostOf _ [(121, 117)]).get? x = none := fun x hx => by
      cases e : (ghostOf _ [(121, 117)]).get? x with
      | none => rfl
      | some o => exact absurd (FD.keep x o e) (hfresh x hx o)
    refine ⟨_, _, D9, _, _, fun i ys => ∃ ds, IntsAre ys ds ∧ ds.length = i ∧ DrawsOk ds, rfl, rfl, he, hi, .inr ⟨_, .head _, rfl, _, rfl⟩, (by rw [sizeLine_eq]; show 6 ≤ _; omega), ⟨?_, ?_, ?_⟩, FQ, NQ, ⟨?_, ?_, hf0 _ (Nat.le_succ _), hf0 _ (Nat.le_refl _)⟩, fun p hp => ?_, ?_, ⟨[], .nil, rfl, fun _ h => nomatch h⟩, ?_⟩
    · exact Nat.ne_of_gt (Nat.lt_succ_self _)
    · exact Nat.ne_of_lt (Nat.lt_succ_of_lt hltD)
    · exact Nat.ne_of_lt hltD
    · exact Nat.ne_of_lt (Nat.lt_succ_of_lt hltL)
    · exact Nat.ne_of_lt hltL
    · have hpl := Heap.lt_size (ND p hp).1
      exact ⟨Nat.ne_of_lt (Nat.lt_succ_of_lt hpl), Nat.ne_of_lt hpl⟩
    · intro i ys v t C oC D oe oit m₂ h tk hv hJ hC hma hmb F₅ N₅ ne off
      have hi6 : i < 6 := (Array.getElem?_eq_some_iff.mp hv).1
      refine Classical.byContradiction fun hG => ?_
      obtain ⟨f, tf, hf0, hf1, rfl⟩ : ∃ f tf, 0 ≤ f ∧ f ≤ 10 ∧ v = .int f tf := by
        have hm := Array.mem_toList_iff.mpr (Array.mem_of_getElem? hv)
        refine (fun (H : ∀ v ∈ _, ∃ f tf, 0 ≤ f ∧ f ≤ 10 ∧ v = Value.int f tf) => H v hm) ?_
        refine List.forall_mem_cons.mpr ⟨⟨_, _, by decide, by decide, rfl⟩, List.forall_mem_cons.mpr ⟨⟨_, _, by decide, by decide, rfl⟩, List.forall_mem_cons.mpr ⟨⟨_, _, by decide, by decide, rfl⟩, List.forall_mem_cons.mpr ⟨⟨_, _, by decide, by decide, rfl⟩, List.forall_mem_cons.mpr ⟨⟨_, _, by decide, by decide, rfl⟩, List.forall_mem_cons.mpr ⟨⟨_, _, by decide, by decide, rfl⟩, List.forall_mem_nil _⟩⟩⟩⟩⟩⟩
      obtain ⟨ds, hd1, hd2, hd3⟩ := hJ
      refine hG ?_
      clear hG
      (try k_fold)
      k_steps
      rename_i hM' hL' _ _ _ _ _ _
      refine EltEnd.mk (by assumption) (News.sub (by assumption) (by lcg_sub)) ⟨_, ints_snoc hd1, by simp [hd2], fun d hd => ?_⟩
      rcases List.mem_append.mp hd with hd | hd
      · exact hd3 d hd
      · rw [List.mem_singleton.mp hd]
        have hb := sum_bd (M := 999999) (by decide) _ fun z hz => by
          obtain ⟨c, _, rfl⟩ := List.mem_map.mp (hM' z hz)
          exact million c
        rw [List.length_map, ← hsc.length] at hL'
        exact draw_bd hf0 hf1 hb (Nat.le_trans hL' h12)
    · intro ys hys
      refine Classical.byContradiction fun hG => ?_
      obtain ⟨ds, hd1, hd2, hd3⟩ := hys
      obtain ⟨d0, d1, d2, d3, d4, d5, t0, t1, t2, t3, t4, t5, rfl, rfl⟩ := six_of hd1 hd2
      refine hG ?_
      clear hG
      intro D₄ h₄ tk₄ F₄ N₄ o₄ l₄
      simp only [LCg.Off1, and_true] at o₄
      dsimp only
      (try k_fold)
      k_steps
      unfold Stop
      have hd0e : Int.fmod ([d0, d1, d2, d3, d4, d5].getD (Int.toNat 0) 0) 4 = d0 % 4 := Int.fmod_eq_emod_of_nonneg _ (by decide)
      have hd1e : Int.fmod ([d0, d1, d2, d3, d4, d5].getD (Int.toNat 1) 0) 4 = d1 % 4 := Int.fmod_eq_emod_of_nonneg _ (by decide)
      have hd0b := Int.emod_nonneg d0 (show (4 : Int) ≠ 0 by decide)
      refine tail_list (by is_list) (by rw [hd0e]; exact hd0b) (by rw [hd0e]; exact mod4_lt d0) (by rw [hd0e]; exact (Classical.choose_spec (sign_pick (d := d0)))) ?_
      generalize hts : Classical.choose _ = tsg
      k_steps
      unfold Stop
      obtain ⟨n, hn, hn3, hn6⟩ := n_of d1
      rename_i LS _ _ _ _ _ _ _ LR _ lR _ FR NR
      have hlR : @LT.lt Nat _ D₄ LR := lR.2.1
      have hrl : (rowF ([d0, d1, d2, d3, d4, d5].take n).reverse).length = n := by
        rw [row_len, List.length_reverse, List.length_take]
        exact Nat.min_eq_left hn6
      have hpos : ∀ d ∈ [d0, d1, d2, d3, d4, d5], 0 ≤ d := fun d hd => (hd3 d hd).1
      refine law_A2 (ld := D₄) (lr := LR) (kd := 6) (vd := [.int d0 t0, .int d1 t1, .int d2 t2, .int d3 t3, .int d4 t4, .int d5 t5]) (sg := signOf d0) (n := n) rfl rfl rfl (by assumption) FR (by assumption) (by assumption) (by assumption) (by assumption) NR ?lt1 hlR (by assumption) (by assumption) (by assumption) (by assumption) rfl rfl rfl hd1 (sign_is d0) hn ?hrs ?law hpos ?ret
      case lt1 => exact l₄ _ (.tail _ (.tail _ (.tail _ (.head _))))
      case hrs => exact row_hrs hd3 hn6
      case law => exact law_of (sign_is d0) (by rw [hrl]; exact hn3) (by rw [hrl]; exact hn6) (row_sup fun d hd => hpos d (List.mem_of_mem_take (List.mem_reverse.mp hd)))
      case ret =>
        intro h' tk' m' F' g'
        dsimp only
        refine ⟨goodW_bool F' ?hg ?hn ?hp, g', trivial⟩
        case hg => assumption
        case hn => exact raisesW_false (by wrow_none_raised)
        case hp => exact postW_of rfl rfl (by decide +kernel)
end
end
end
end Mine
theorem PySem.Challenge.cw_tp0017_01_holds : PySem.Challenge.rw_tp0017_01.Holds :=
  Mine.law_holds
