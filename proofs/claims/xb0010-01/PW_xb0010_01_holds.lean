import PyProof.Rows.All
import Wide.All
import OpenK.AllK
import Wide.FinOn
import PySem.Challenge.RW_xb0010_01

set_option Elab.async false

-- Hd
namespace Mine
open PySem PySem.W PyProof.Rows
set_option maxRecDepth 100000
set_option maxHeartbeats 8000000
open_top hd for PySem.Challenge.rw_xb0010_01
end Mine

-- C0
namespace Mine
open PySem PySem.W PyProof.Rows PySem.Calls
set_option maxRecDepth 100000
set_option maxHeartbeats 4000000
theorem offC0 : True := by (w_top off; trivial)

/-- the caller's frame as it lies under a callee -/
structure Callr (base : Heap) (L : Addr) (m : Str → Option Value) (oL : Obj) : Prop where
  ns : ∀ (h : Heap) sl, h.get? L = some { oL with slots := sl } → h.Ns L m
  dict : ∃ es ep, oL.data = .dict es ep
  above : base.objs.size ≤ L

theorem call_def {prog : Program} {w : World} {A : Around} {s : Shared} {base : Heap} {L : Addr} {m : Str → Option Value} {news : List (Addr × Obj)} {K : Frag} {p : Program} {loose : List Str} {mean : ExcName → Option Value} {mg mb : Str → Option Value}
    {Q E : Value → Shared → Prop} {name qual : Str} {params : Arguments} {body : List Stmt} {scope : Scope} {dV kV doc pm cdv ct oc : Value} {an od : Option Addr} {osl : Array (Option Value)} {f : Addr} {args : List Value} {binds : List (Str × Value)}
    (F : Fr base L s.heap m) (X : K.In base) (N : News base L s.heap news) (T : Top p loose mean mg mb base)
    (hroom : A.depth < recursionLimit)
    (ho : K.lookup f = some ⟨oc, od, .func (fnOf name qual params body scope dV kV doc pm an cdv ct), osl⟩) (hcd : codeIn K cdv qual = true)
    (hbind : BindsTo s (fnOf name qual params body scope dV kV doc pm an cdv ct) ⟨args, []⟩ binds) (hloc : ∀ y ∈ binds, scope.names.lookup y.1 = some .local)
    (h : ∀ oL L' h₁, Callr base L m oL → L < L' → (∀ q ∈ news, q.1 ≠ L) → Fr base L' h₁ (fun y => binds.reverse.lookup y) → News base L' h₁ ((L, oL) :: news) →
      wpAny (model prog w) (A.deeper (envOf qual scope L' f cdv)) (execs body (envOf qual scope L' f cdv))
        (fun fl s' => Q (match fl with | .ret v => v | _ => .none) s')
        (fun e s' => wpAny (model prog w) (A.deeper (envOf qual scope L' f cdv)) (leaving (envOf qual scope L' f cdv) e) (fun _ s'' => E e s'') (fun e' s'' => E e' s'') s')
        { s with heap := h₁, toks := s.toks + binds.length })
    (hco : scope.isCoroutine = false := by rfl) (hgen : scope.isGenerator = false := by rfl) (hk : scope.kind = .function := by rfl)
    (hcell : ∀ x ∈ scope.names, x.2 ≠ .cell := by decide) : wpAny (model prog w) A (call (.ref f) args) Q E s := by
  have Xs := X.keeps F.keep
  obtain ⟨oL, es, ep, hL, hLd, hLk, hLf⟩ := F.ns
  have hLt := Heap.lt_size hL
  refine wpAny_call ?_
  refine codeAny_call_def (fd := fnOf name qual params body scope dV kV doc pm an cdv ct) (body := body) (binds := binds) hroom (Xs _ _ ho) rfl (T.nolimit.keeps F.keep) (codeRec_of Xs hcd) rfl hbind hcell hloc (fun h₁ hns hk₁ => ?_) hco hgen hk
  refine wpAny_mono (h oL s.heap.objs.size h₁ ⟨fun h' sl e => ⟨_, es, ep, e, hLd, hLk, hLf⟩, ⟨es, ep, hLd⟩, F.above⟩ hLt (fun q hq => (N q hq).2.1)
    ⟨hns, fun b o e => hk₁ b o (F.keep b o e), Nat.le_trans F.above (Nat.le_of_lt hLt)⟩ (fun q hq => ?_)) (fun _ _ x => x) fun _ _ x => wpAny_mono x (fun _ _ y => y) fun _ _ y => y
  rcases List.mem_cons.mp hq with rfl | hq
  · exact ⟨hk₁ _ _ hL, Nat.ne_of_lt hLt, Heap.get?_none_of_le F.above⟩
  · obtain ⟨h1, h2, h3⟩ := N q hq
    exact ⟨hk₁ _ _ h1, Nat.ne_of_lt (Heap.lt_size h1), h3⟩

/-- back in the caller -/
theorem back {base h : Heap} {L L' : Addr} {m m' : Str → Option Value} {oL : Obj} {sl : Array (Option Value)} {news : List (Addr × Obj)} (C : Callr base L m oL) (F' : Fr base L' h m') (N' : News base L' h ((L, { oL with slots := sl }) :: news)) (hne : ∀ p ∈ news, p.1 ≠ L) :
    Fr base L h m ∧ News base L h news :=
  ⟨⟨C.ns _ sl (N' _ (.head _)).1, F'.keep, C.above⟩, fun p hp => ⟨(N' p (.tail _ hp)).1, hne p hp, (N' p (.tail _ hp)).2.2⟩⟩

section
variable {h₀ h : Heap} {L : Addr} {m : Str → Option Value} {x₁ x₂ x₃ x₄ x₅ x₆ : Str} {v₁ v₂ v₃ v₄ v₅ v₆ : Value}
theorem pin1 (F : Fr h₀ L h m) (h1 : m x₁ = some v₁) : Fr h₀ L h (fun y => if y = x₁ then some v₁ else m y) := by
  have e : (fun y => if y = x₁ then some v₁ else m y) = m := by
    funext y
    by_cases h : y = x₁
    · rw [if_pos h, h, h1]
    · rw [if_neg h]
  rw [e]; exact F
theorem pin2 (F : Fr h₀ L h m) (h1 : m x₁ = some v₁) (h2 : m x₂ = some v₂) : Fr h₀ L h (fun y => if y = x₁ then some v₁ else if y = x₂ then some v₂ else m y) := by
  have e : (fun y => if y = x₁ then some v₁ else if y = x₂ then some v₂ else m y) = m := by funext y; (repeat' split) <;> simp_all
  rw [e]; exact F
theorem pin3 (F : Fr h₀ L h m) (h1 : m x₁ = some v₁) (h2 : m x₂ = some v₂) (h3 : m x₃ = some v₃) : Fr h₀ L h (fun y => if y = x₁ then some v₁ else if y = x₂ then some v₂ else if y = x₃ then some v₃ else m y) := by
  have e : (fun y => if y = x₁ then some v₁ else if y = x₂ then some v₂ else if y = x₃ then some v₃ else m y) = m := by funext y; (repeat' split) <;> simp_all
  rw [e]; exact F
theorem pin4 (F : Fr h₀ L h m) (h1 : m x₁ = some v₁) (h2 : m x₂ = some v₂) (h3 : m x₃ = some v₃) (h4 : m x₄ = some v₄) : Fr h₀ L h (fun y => if y = x₁ then some v₁ else if y = x₂ then some v₂ else if y = x₃ then some v₃ else if y = x₄ then some v₄ else m y) := by
  have e : (fun y => if y = x₁ then some v₁ else if y = x₂ then some v₂ else if y = x₃ then some v₃ else if y = x₄ then some v₄ else m y) = m := by funext y; (repeat' split) <;> simp_all
  rw [e]; exact F
theorem pin6 (F : Fr h₀ L h m) (h1 : m x₁ = some v₁) (h2 : m x₂ = some v₂) (h3 : m x₃ = some v₃) (h4 : m x₄ = some v₄) (h5 : m x₅ = some v₅) (h6 : m x₆ = some v₆) :
    Fr h₀ L h (fun y => if y = x₁ then some v₁ else if y = x₂ then some v₂ else if y = x₃ then some v₃ else if y = x₄ then some v₄ else if y = x₅ then some v₅ else if y = x₆ then some v₆ else m y) := by
  have e : (fun y => if y = x₁ then some v₁ else if y = x₂ then some v₂ else if y = x₃ then some v₃ else if y = x₄ then some v₄ else if y = x₅ then some v₅ else if y = x₆ then some v₆ else m y) = m := by funext y; (repeat' split) <;> simp_all
  rw [e]; exact F
end
end Mine

-- F35
namespace Mine
open PySem PySem.W PyProof.Rows PySem.Calls
set_option maxRecDepth 100000
set_option maxHeartbeats 4000000
theorem offF35 : True := by (w_top off; trivial)
def cmp3 (x y : Int) : Int := b2i (decide (y < x)) - b2i (decide (x < y))

theorem call35 {w : World} {mean : ExcName → Option Value} {mg mb : Str → Option Value} {dp un : Nat} {gd : Option (List Code)} {cn : Str} {cs : Scope} {a : Addr} {ccd : Value} {cl : List (Str × Addr)} {outer : List Env} {A₀ : Around} {base h₀ : Heap} {L : Addr} {m : Str → Option Value} {s : Shared} {Q E : Value → Shared → Prop} {news : List (Addr × Obj)}
    {x y : Int} {tx ty : Tok}
    (B : Below A₀ base outer h₀) (F : Fr h₀ L s.heap m) (X : (hd.heap_39 w.params).In h₀) (N : News h₀ L s.heap news) (T : Top hd.view_39 (looseW hd.view_39 []) mean mg mb h₀) (hk : cs.kind = .function)
    (hdp : dp + 1 < recursionLimit) (hu : un + 8 < cLine)
    (hret : ∀ t h' tk', Fr h₀ L h' m → News h₀ L h' news → Q (.int (cmp3 x y) t) { s with heap := h', toks := tk' }) :
    wpAny (model PySem.Challenge.rw_xb0010_01.row.prog w) (ktrTop dp un gd cn cs L a ccd cl outer) (call (.ref 35) [.int x tx, .int y ty]) Q E s := by
  revert X; k_fill; intro X
  refine wpAny_call ?_
  k_dflt cell_enter
  k_steps
  exact hret _ _ _ (by assumption) (by assumption)
end Mine

-- P1
namespace Mine
open PySem PySem.W PyProof.Rows PySem.Calls
set_option maxRecDepth 100000
set_option maxHeartbeats 4000000
theorem offP1 : True := by (w_top off; trivial)
/-- the items whose place a test takes -/
def pickAt (p : Nat → Bool) : Nat → List Value → List Value
  | _, [] => []
  | i, v :: r => if p i then v :: pickAt p (i + 1) r else pickAt p (i + 1) r
theorem pickAt_step (p : Nat → Bool) {l : List Value} {i : Nat} {x : Value} (h : l[i]? = some x) (k : Nat) :
    pickAt p k (l.drop i) = if p k then x :: pickAt p (k + 1) (l.drop (i + 1)) else pickAt p (k + 1) (l.drop (i + 1)) := by
  obtain ⟨hi, he⟩ := List.getElem?_eq_some_iff.mp h
  rw [List.drop_eq_getElem_cons hi, he]
  rfl
theorem pickAt_end (p : Nat → Bool) {l : List Value} (k : Nat) : pickAt p k (l.drop l.length) = [] := by rw [List.drop_length]; rfl

section
variable {prog : Program} {w : World} {A : Around} {E : Value → Shared → Prop} {R : Result → Shared → Prop} {s : Shared}
theorem loop_pairs {elt iter c : Expr} {a b : Str} {pa pb tp : Pos} {kk : Nat} {scope : Scope} {pos : Pos} {I D : Addr} {fp wr : List Addr} {items : List Value} {St : Nat → Heap → Prop} {Mid : Nat → Addr → Heap → Prop}
    {cenv : Env} {m : Str → Option Value} (hh : A.handled = none)
    (W : WalksT prog w A I fp wr items.length (fun i vals => ∃ t x, items[i]? = some x ∧ vals = #[.int i t, x]) St Mid) (p : Nat → Bool)
    (ha : cenv.kindOf a = some .local) (hb : cenv.kindOf b = some .local) (hab : ¬ a = b) (hp : (cenv.scope.kind == .class || (cenv.scope.kind == .module && cenv.locals != cenv.globals)) = false)
    (hDC : D ≠ cenv.locals) (hDf : D ∉ fp) (hCf : cenv.locals ∉ fp)
    (hst : St 0 s.heap) (hacc : s.heap.PlainList D #[]) (hn : s.heap.Ns cenv.locals m)
    (htest : ∀ (i : Nat) x t s₂ m₂ E', items[i]? = some x → s₂.heap.Ns cenv.locals m₂ → m₂ a = some (.int i t) → m₂ b = some x → (∀ q o, q ≠ cenv.locals → q ∉ wr → q ≠ D → s.heap.get? q = some o → s₂.heap.get? q = some o) →
      wpAny (model prog w) A (isTrue c cenv (eval c cenv)) (fun ok s₃ => ok = p i ∧ Keeps s₂ s₃) E' s₂)
    (helt : ∀ (i : Nat) x t s₂ m₂ E', items[i]? = some x → s₂.heap.Ns cenv.locals m₂ → m₂ a = some (.int i t) → m₂ b = some x →
      wpAny (model prog w) A (eval elt cenv) (fun y s₃ => y = x ∧ Keeps s₂ s₃) E' s₂)
    (hR : ∀ h' tk m' ys, h'.Ns cenv.locals m' → h'.PlainList D ys → ys.toList = pickAt p 0 items →
      (∀ q o, q ≠ cenv.locals → q ∉ wr → q ≠ D → s.heap.get? q = some o → h'.get? q = some o) → R (.ok .next) { s with heap := h', toks := tk })
    (hsz : items.length ≤ sizeLine) :
    codeAny (model prog w) A (.compLoop (.ListComp elt [⟨.Tuple [.Name a pa, .Name b pb] kk tp, iter, [c], 0⟩] scope pos) 0 (.ref I) (.ref D) cenv) R s := by
  have hCw : cenv.locals ∉ wr := fun h => hCf (W.sub _ h)
  have hDw : D ∉ wr := fun h => hDf (W.sub _ h)
  refine kct_loop
    (fun k s' => ∃ h' tk m' ys i, s' = { s with heap := h', toks := tk } ∧ St i h' ∧ h'.PlainList D ys ∧ h'.Ns cenv.locals m' ∧
      ys.toList ++ pickAt p i (items.drop i) = pickAt p 0 items ∧ ys.size ≤ i ∧ i ≤ items.length ∧ k = items.length + 1 - i ∧
      (∀ q o, q ≠ cenv.locals → q ∉ wr → q ≠ D → s.heap.get? q = some o → h'.get? q = some o)) ?_ (items.length + 1)
    ⟨s.heap, s.toks, m, #[], 0, rfl, hst, hacc, hn, by simp, by simp, Nat.zero_le _, rfl, fun _ _ _ _ _ e => e⟩
  rintro k s' ⟨H, tk, m', ys, i, rfl, hst', hacc', hn', hpk, hys, hi, rfl, hk⟩
  by_cases hlt : i < items.length
  · refine W.item i _ _ _ hlt hst' fun T vals h₁ tk₁ hPv hTn hT hmid hk₁ => ?_
    obtain ⟨t, x, hx, rfl⟩ := hPv
    refine W.go _ _ _ i T _ _ _ hmid fun h₂ hst₂ hk₂ => ?_
    have hTw := W.apart _ _ _ hmid
    have hT₂ : IsTup h₂ T #[.int i t, x] := by
      obtain ⟨o, e, r⟩ := hT
      exact ⟨o, hk₂ _ _ hTw e, r⟩
    refine assign_Tuple_tuple hh hT₂ rfl rfl fun h₃ he₃ => ?_
    have he₃' : ∀ q o, h₂.get? q = some o → h₃.get? q = some o := fun q o e => he₃ q o (Nat.ne_of_lt (Heap.lt_size e)) e
    have hn₃ : h₃.Ns cenv.locals m' := ((hn'.at' fun o e => hk₁ _ o hCw e).at' fun o e => hk₂ _ o hCw e).at' fun o e => he₃' _ o e
    refine assignInOrder_cons (wpAny_assign_Name (wpAny_storeName_local ha hn₃ (fun h₄ hn₄ hs₄ => ?_) hp))
    refine assignInOrder_cons (wpAny_assign_Name (wpAny_storeName_local hb hn₄ (fun h₅ hn₅ hs₅ => ?_) hp))
    refine assignInOrder_nil ?_
    have up : ∀ q o, q ≠ cenv.locals → q ∉ wr → H.get? q = some o → h₅.get? q = some o := fun q o hqC hqw e =>
      hs₅.extBut q o hqC (hs₄.extBut q o hqC (he₃' q o (hk₂ q o hqw (hk₁ q o hqw e))))
    have hst₅ : St (i + 1) h₅ := W.frame _ _ _ hst₂ fun q hq o e => hs₅.extBut q o (fun h => hCf (h ▸ hq)) (hs₄.extBut q o (fun h => hCf (h ▸ hq)) (he₃' q o e))
    refine wpAny_mono (htest i x t _ _ _ hx hn₅ (by simp [hab]) (by simp) (fun q o hqC hqw hqD e => up q o hqC hqw (hk q o hqC hqw hqD e))) (fun ok s₃ h₃ => ?_) fun _ _ e => e
    obtain ⟨rfl, h₆, tk₆, rfl, hk₆⟩ := h₃
    have hst₆ : St (i + 1) h₆ := W.frame _ _ _ hst₅ fun q _ o e => hk₆ q o e
    have hacc₆ : h₆.PlainList D ys := hacc'.at fun o e => hk₆ _ o (up D o hDC hDw e)
    have hn₆ := hn₅.keeps hk₆
    have hstep := pickAt_step p hx i
    cases hpv : p i with
    | false =>
      rw [if_neg (by rw [hpv]; exact Bool.false_ne_true)] at hstep
      simp only [Bool.false_eq_true, if_false]
      exact ⟨items.length + 1 - (i + 1), by omega, h₆, tk₆, _, ys, i + 1, rfl, hst₆, hacc₆, hn₆, by rw [← hstep]; exact hpk, by omega, hlt, rfl,
        fun q o hqC hqw hqD e => hk₆ q o (up q o hqC hqw (hk q o hqC hqw hqD e))⟩
    | true =>
      rw [if_pos hpv] at hstep
      simp only [if_true]
      refine wpAny_mono (helt i x t _ _ _ hx hn₆ (by simp [hab]) (by simp)) (fun y s₄ h₄ => ?_) fun _ _ e => e
      obtain ⟨rfl, h₇, tk₇, rfl, hk₇⟩ := h₄
      refine wpAny_list_append_plain (hsz := by omega) (hacc₆.at fun o e => hk₇ _ o e) fun h₈ hl₈ hs₈ => ?_
      refine ⟨items.length + 1 - (i + 1), by omega, h₈, tk₇, _, ys.push y, i + 1, rfl, ?_, hl₈, (hn₆.keeps hk₇).sameBut hs₈ (Ne.symm hDC), ?_, by rw [Array.size_push]; omega, hlt, rfl,
        fun q o hqC hqw hqD e => hs₈.extBut q o hqD (hk₇ q o (hk₆ q o (up q o hqC hqw (hk q o hqC hqw hqD e))))⟩
      · exact W.frame _ _ h₈ hst₆ fun q hq o e => hs₈.extBut q o (fun h => hDf (h ▸ hq)) (hk₇ q o e)
      · rw [← hpk, hstep]; simp
  · have hin : i = items.length := by omega
    subst hin
    refine W.done _ _ _ hst' fun h₁ tk₁ hk₁ => ?_
    rw [pickAt_end, List.append_nil] at hpk
    exact hR h₁ tk₁ m' ys (hn'.at' fun o e => hk₁ _ o hCw e) (hacc'.at fun o e => hk₁ _ o hDw e) hpk fun q o hqC hqw hqD e => hk₁ q o hqw (hk q o hqC hqw hqD e)

/-- the whole comprehension over enumerate(list) with one test -/
theorem comp_pairs {env : Env} {elt iter c : Expr} {a b : Str} {pa pb tp : Pos} {kk : Nat} {scope : Scope} {cl : List (Str × Addr)} {pos : Pos} {Q : Value → Shared → Prop} {items : List Value} (p : Nat → Bool)
    (hh : A.handled = none) (hclos : closureFor scope env = pure cl) (hcell : ∀ y ∈ scope.names, y.2 ≠ .cell) (hkind : scope.kind = .function)
    (hnames : ∀ y ∈ scope.names, y.2 = .local → scope.names.lookup y.1 = some .local) (ha : scope.names.lookup a = some .local) (hb : scope.names.lookup b = some .local) (hab : ¬ a = b) (hsz : items.length ≤ sizeLine)
    (h : wpAny (model prog w) A (eval iter env) (fun xv s₁ => ∃ l, s₁.heap.IsList l items.toArray ∧ ∃ e it, xv = .ref e ∧ IsEnum s₁.heap e it 0 .none ∧ s₁.heap.IsListIter it l 0 ∧ e ≠ it ∧ l ≠ e ∧ l ≠ it ∧
      (∀ C s₂ m₂ (i : Nat) x t E', s₁.heap.objs.size ≤ C → items[i]? = some x → s₂.heap.Ns C m₂ → m₂ a = some (.int i t) → m₂ b = some x → (∀ q o, q ≠ e → q ≠ it → s₁.heap.get? q = some o → s₂.heap.get? q = some o) →
        wpAny (model prog w) A (isTrue c (compEnvC scope cl C env) (eval c (compEnvC scope cl C env))) (fun ok s₃ => ok = p i ∧ Keeps s₂ s₃) E' s₂) ∧
      (∀ C s₂ m₂ (i : Nat) x t E', items[i]? = some x → s₂.heap.Ns C m₂ → m₂ a = some (.int i t) → m₂ b = some x →
        wpAny (model prog w) A (eval elt (compEnvC scope cl C env)) (fun y s₃ => y = x ∧ Keeps s₂ s₃) E' s₂) ∧
      (∀ D h' tk ys, s₁.heap.get? D = none → h'.PlainList D ys → ys.toList = pickAt p 0 items → (∀ q o, q ≠ e → q ≠ it → s₁.heap.get? q = some o → h'.get? q = some o) → Q (.ref D) { s₁ with heap := h', toks := tk })) E s)
    (hs : ∀ x, foldedSetIterable iter env x = pure x := by intro _; rfl) :
    wpAny (model prog w) A (eval (.ListComp elt [⟨.Tuple [.Name a pa, .Name b pb] kk tp, iter, [c], 0⟩] scope pos) env) Q E s := by
  rw [eval_ListComp]
  refine wpAny_comprehension_free (use := none) rfl hs hclos hkind hnames (wpAny_mono h (fun xv s₂ h₂ => ?_) fun _ _ e => e)
  obtain ⟨l, hl, e, it, rfl, hE, hI, hei, hle, hli, htest, helt, hQ⟩ := h₂
  refine wpAny_pyIter_enum hE ?_
  refine wpAny_newObj_type (wpAny_newFunctionEnv hcell (by intro y hy; simp at hy) (fun h₁ hns₁ hsb₁ => ?_) hkind)
  dsimp only at hns₁ hsb₁ ⊢
  generalize hH2 : s₂.heap.push { cls := .type "list", dict := none, data := .seq ([] : List Value).toArray } = H2 at hns₁ hsb₁ ⊢
  have hC : H2.objs.size = s₂.heap.objs.size + 1 := by rw [← hH2, Heap.size_push]
  have hDC : s₂.heap.objs.size ≠ H2.objs.size := by rw [hC]; exact Nat.ne_of_lt (Nat.lt_succ_self _)
  have below : ∀ q, q < s₂.heap.objs.size → q ≠ H2.objs.size ∧ q ≠ s₂.heap.objs.size := fun q hq => ⟨by rw [hC]; exact Nat.ne_of_lt (Nat.lt_succ_of_lt hq), Nat.ne_of_lt hq⟩
  have hlte : e < s₂.heap.objs.size := Heap.lt_size hE
  have hlti : it < s₂.heap.objs.size := by obtain ⟨_, x, _⟩ := hI; exact Heap.lt_size x
  have hltl : l < s₂.heap.objs.size := by obtain ⟨_, x, _⟩ := hl; exact Heap.lt_size x
  have hfp : ∀ q ∈ [e, it, l], q < s₂.heap.objs.size := by
    intro q hq
    simp only [List.mem_cons, List.not_mem_nil, or_false] at hq
    rcases hq with rfl | rfl | rfl <;> assumption
  have old : ∀ q o, s₂.heap.get? q = some o → h₁.get? q = some o := fun q o x => hsb₁.extBut q o (below q (Heap.lt_size x)).1 (Heap.get?_push_of_some _ (hH2 ▸ Heap.get?_push_of_some _ x))
  have hacc : h₁.PlainList s₂.heap.objs.size #[] := ⟨_, hsb₁.extBut _ _ hDC (Heap.get?_push_of_some _ (hH2 ▸ Heap.get?_push_size _ rfl))⟩
  have fresh : ∀ q, s₂.heap.objs.size ≤ q → s₂.heap.get? q = none := fun q hq => Heap.get?_none_of_le hq
  have hCle : s₂.heap.objs.size ≤ H2.objs.size := by rw [hC]; exact Nat.le_succ _
  have W0 := WalksT.enumerate (prog := prog) (w := w) hh e it l hei hle hli items.toArray
  simp only [List.size_toArray, List.getElem?_toArray] at W0
  have loop : ∀ s₃ : Shared, s₃ = { s₂ with heap := h₁, toks := s₂.toks + ([] : List (Str × Value)).length } →
      codeAny (model prog w) A (.compLoop (.ListComp elt [⟨.Tuple [.Name a pa, .Name b pb] kk tp, iter, [c], 0⟩] scope pos) 0 (.ref e) (.ref s₂.heap.objs.size) (compEnvC scope cl H2.objs.size env))
        (compPost (model prog w) A E none Q (.ref s₂.heap.objs.size) H2.objs.size) s₃ := by
    rintro s₃ rfl
    refine loop_pairs hh W0 p (cenv := compEnvC scope cl H2.objs.size env) (lookup_relabel_local ha) (lookup_relabel_local hb) hab (by simp [compEnvC, relabel, hkind]) hDC (fun hm => Nat.lt_irrefl _ (hfp _ hm)) (fun hm => by have z := hfp _ hm; exact Nat.lt_irrefl _ (Nat.lt_of_lt_of_le z hCle))
      ⟨⟨_, old _ _ hE⟩, hI.at fun o x => old _ o x, hl.at fun o x => old _ o x⟩ hacc hns₁
      (fun i x t s₃ m₃ E' hx hn h1 h2 hk => htest _ _ _ _ _ _ _ hCle hx hn h1 h2 fun q o hq1 hq2 ho => hk q o (below q (Heap.lt_size ho)).1 (by simp [hq1, hq2]) (below q (Heap.lt_size ho)).2 (old q o ho))
      (fun i x t s₃ m₃ E' hx hn h1 h2 => helt _ _ _ _ _ _ _ hx hn h1 h2) ?_ hsz
    intro h' tk m' ys hn hp hys hk
    refine ⟨m', hn, fun h'' hs'' => hQ _ h'' tk ys (fresh _ (Nat.le_refl _)) (hp.extBut hs''.extBut hDC) hys fun q o hq1 hq2 ho => ?_⟩
    exact hs''.extBut q o (below q (Heap.lt_size ho)).1 (hk q o (below q (Heap.lt_size ho)).1 (by simp [hq1, hq2]) (below q (Heap.lt_size ho)).2 (old q o ho))
  exact codeAny_compStart_list (loop _ rfl) (W0.self 0 _ _ _ ⟨⟨_, old _ _ hE⟩, hI.at fun o x => old _ o x, hl.at fun o x => old _ o x⟩ (loop _ rfl))
end
end Mine

-- F68
namespace Mine
open PySem PySem.W PyProof.Rows PySem.Calls
set_option maxRecDepth 100000
set_option maxHeartbeats 400000
theorem offF68 : True := by (w_top off; trivial)
/-- each but once, in order of the first places -/
def onceAux : List Int → List Int → List Int
  | _, [] => []
  | pre, x :: r => if x ∈ pre then onceAux (pre ++ [x]) r else x :: onceAux (pre ++ [x]) r
def once (l : List Int) : List Int := onceAux [] l

theorem pick_once {p : Nat → Bool} {ns0 : List Int} (hp : ∀ i, p i = !((ns0.take i).any (· == ns0.getD i 0))) : ∀ (vs : List Value) (ns pre : List Int), IntsAre vs ns → ns0 = pre ++ ns → IntsAre (pickAt p pre.length vs) (onceAux pre ns) := by
  intro vs ns pre h
  induction h generalizing pre with
  | nil => intro _; exact .nil
  | cons x t h ih =>
    intro e
    have ih' := ih (pre ++ [x]) (by rw [e]; simp)
    rw [List.length_append, List.length_singleton] at ih'
    have hv : p pre.length = !(pre.any (· == x)) := by
      rw [hp, e]; simp
    unfold pickAt onceAux
    by_cases hx : x ∈ pre
    · have : p pre.length = false := by rw [hv]; simp [hx]
      rw [if_neg (by rw [this]; decide), if_pos hx]
      exact ih'
    · have : p pre.length = true := by
        rw [hv]
        simp only [Bool.not_eq_true', List.any_eq_false, beq_iff_eq]
        intro y hy e; exact hx (e ▸ hy)
      rw [if_pos this, if_neg hx]
      exact .cons x t ih'

theorem call68 {w : World} {mean : ExcName → Option Value} {mg mb : Str → Option Value} {dp un : Nat} {gd : Option (List Code)} {cn : Str} {cs : Scope} {a : Addr} {ccd : Value} {cl : List (Str × Addr)} {outer : List Env} {A₀ : Around} {base h₀ : Heap} {L : Addr} {m : Str → Option Value} {s : Shared} {Q E : Value → Shared → Prop} {news : List (Addr × Obj)}
    {la : Addr} {vs : List Value} {n : Nat} {ns : List Int}
    (B : Below A₀ base outer h₀) (F : Fr h₀ L s.heap m) (X : (hd.heap_39 w.params).In h₀) (N : News h₀ L s.heap ((la, listOf vs.toArray n) :: news)) (T : Top hd.view_39 (looseW hd.view_39 []) mean mg mb h₀) (hk : cs.kind = .function)
    (hdp : dp + 1 < recursionLimit) (hu : un + 8 < cLine) (hI : IntsAre vs ns) (hlen : ns.length ≤ 63)
    (hret : ∀ r us k h' tk', Fr h₀ L h' m → News h₀ L h' ((r, listOf us.toArray k) :: (la, listOf vs.toArray n) :: news) → IntsAre us (once ns) → Q (.ref r) { s with heap := h', toks := tk' }) :
    wpAny (model PySem.Challenge.rw_xb0010_01.row.prog w) (ktrTop dp un gd cn cs L a ccd cl outer) (call (.ref 68) [.ref la]) Q E s := by
  revert X; k_fill; intro X
  refine wpAny_call ?_
  (refine' code_defC ?k1 ?k2 ?k3 ?k4 ?k5 ?kA ?kF ?kK ?k6 ?k7 ?k8 ?k9 ?kB ?kD ?_ ?c2 ?c3 ?c4; (case kA => exact rfl); (case kF => exact rfl); (case kK => exact hk); (case k1 => k_asm); (case k2 => k_asm); (case k3 => k_asm); (case k4 => k_asm); (case k5 => k_asm); (case k6 => k_is); (case k7 => k_is); (case k8 => ktr_room); (case k9 => exact BindsTo.of_eq rfl); (case kB => rfl); (case kD => decide); (case c2 => exact rfl); (case c3 => exact rfl); (case c4 => exact rfl))
  intro g' L' h' tk' cells' FG' F' N' Y' B' X' T' l'
  walk1
  walk1
  obtain ⟨oc, rfl, hoc⟩ := CellsAre.one Y'
  clear Y'
  have hvl : vs.length = ns.length := hI.length
  have hsz : vs.length ≤ sizeLine := by rw [sizeLine_eq]; omega
  dsimp only
  (try k_fold)
  refine comp_pairs (items := vs) (fun i => !((ns.take i).any (· == ns.getD i 0))) (by rfl) (by with_unfolding_all rfl) (by decide) (by rfl) (by decide) (by rfl) (by rfl) (by decide) hsz ?_
  walk1
  walk1
  walk1
  walk1
  walk1
  walk1
  have hla : h'.IsList la vs.toArray := ⟨_, (N' (la, listOf vs.toArray n) (List.mem_append_right _ (.head _))).1, rfl, _, rfl⟩
  have hce : h'.get? (L' + 1) = some oc := (N' (L' + 1, oc) (List.mem_append_left _ (.head _))).1
  refine call_enumerate_list hla fun h₁ hE hIt hs1 hk₁ => ?_
  dsimp only at hE hIt hs1 hk₁
  have hlt := Heap.lt_size (hla.choose_spec.1)
  refine ⟨la, hla.at fun o => hk₁ la o, _, _, rfl, hE, hIt, Nat.succ_ne_self _, Nat.ne_of_lt (Nat.lt_succ_of_lt hlt), Nat.ne_of_lt hlt, ?_, ?_, ?_⟩
  · intro C s₂ m₂ i x t E' hC hx hn h1 h2 hk₂
    obtain ⟨k, tk, rfl, hk⟩ := IntsAre.at hI i x hx
    have up : ∀ q o, h'.get? q = some o → s₂.heap.get? q = some o := fun q o e => hk₂ q o (Nat.ne_of_lt (Nat.lt_succ_of_lt (Heap.lt_size e))) (Nat.ne_of_lt (Heap.lt_size e)) (hk₁ q o e)
    refine wpAny_isTrue_Compare1 ?_
    refine wpAny_Name (wpAny_loadName_local (by rfl) (by rfl) hn h2 ?_)
    refine Subscript_ ?_
    refine wpAny_Name (wpAny_loadName_cell (c := L' + 1) (by rfl) (by rfl) (by rfl) ⟨oc, up _ _ hce, hoc⟩ ?_)
    refine wpAny_Slice ?_
    refine wpAny_pure ?_
    refine wpAny_Name (wpAny_loadName_local (by rfl) (by rfl) hn h1 ?_)
    refine wpAny_pure ?_
    refine slice_listK (lo := none) (hi := some (i : Int)) (hla.at fun o => up la o) .none (.int _ _) ?_ (hsz := by simpa using hsz)
    refine notin_list_ints (vs := (slicePick vs.toArray none (some (i : Int)) none).toList) (ns := ns.take i) (by rw [Array.toArray_toList]; exact isList_pushed2 _ _ _) (by simpa using kmk_upto hI (Int.natCast_nonneg i)) ?_
    refine wpAny_truthy_bool ⟨?_, _, _, rfl, fun b o e => Heap.get?_push_of_some _ (Heap.get?_push_of_some _ e)⟩
    simp [hk]
  · intro C s₂ m₂ i x t E' hx hn h1 h2
    exact wpAny_Name (wpAny_loadName_local (by rfl) (by rfl) hn h2 ⟨rfl, _, _, rfl, fun _ _ e => e⟩)
  · intro D h₂ tk ys hD hpl hys hk₂
    have up : ∀ q o, h'.get? q = some o → h₂.get? q = some o := fun q o e => hk₂ q o (Nat.ne_of_lt (Nat.lt_succ_of_lt (Heap.lt_size e))) (Nat.ne_of_lt (Heap.lt_size e)) (hk₁ q o e)
    obtain ⟨kn, hpl⟩ := hpl
    have hDh : h'.get? D = none := by
      cases q : h'.get? D with
      | none => rfl
      | some o => rw [hk₁ _ _ q] at hD; cases hD
    have N₂ : News g' L' h₂ ((D, listOf ys.toList.toArray kn) :: (la, listOf vs.toArray n) :: news) := fun q hq => by
      rcases List.mem_cons.mp hq with rfl | hq
      · refine ⟨by simpa using hpl, fun e => ?_, ?_⟩
        · obtain ⟨oL, _, _, hL, _⟩ := F'.ns
          rw [← e] at hL
          rw [hDh] at hL; cases hL
        · cases q : g'.get? D with
          | none => rfl
          | some o => rw [F'.keep _ _ q] at hDh; cases hDh
      · exact ⟨up _ _ (N' q (by simp only [List.mem_append]; exact .inr hq)).1, (N' q (by simp only [List.mem_append]; exact .inr hq)).2⟩
    dsimp only
    refine leaveK_ (F'.keeps up) N₂ fun F₃ N₃ => ?_
    refine hret _ _ _ _ _ F₃ N₃ ?_
    rw [hys]
    exact pick_once (ns0 := ns) (fun _ => rfl) vs ns [] hI rfl

theorem call68m {w : World} {mean : ExcName → Option Value} {mg mb : Str → Option Value} {dp un : Nat} {gd : Option (List Code)} {cn : Str} {cs : Scope} {a : Addr} {ccd : Value} {cl : List (Str × Addr)} {outer : List Env} {A₀ : Around} {base h₀ : Heap} {L : Addr} {m : Str → Option Value} {s : Shared} {Q E : Value → Shared → Prop} {news : List (Addr × Obj)}
    {la : Addr} {vs : List Value} {n : Nat} {ns : List Int}
    (B : Below A₀ base outer h₀) (F : Fr h₀ L s.heap m) (X : (hd.heap_39 w.params).In h₀) (N : News h₀ L s.heap news) (T : Top hd.view_39 (looseW hd.view_39 []) mean mg mb h₀) (hm : (la, listOf vs.toArray n) ∈ news) (hI : IntsAre vs ns) (hk : cs.kind = .function)
    (hdp : dp + 1 < recursionLimit) (hu : un + 8 < cLine) (hlen : ns.length ≤ 63)
    (hret : ∀ r us k h' tk', Fr h₀ L h' m → News h₀ L h' ((r, listOf us.toArray k) :: news) → IntsAre us (once ns) → Q (.ref r) { s with heap := h', toks := tk' }) :
    wpAny (model PySem.Challenge.rw_xb0010_01.row.prog w) (ktrTop dp un gd cn cs L a ccd cl outer) (call (.ref 68) [.ref la]) Q E s := by
  refine call68 (n := n) B F X (news := news) (fun p hp => ?_) T hk hdp hu hI hlen fun r us k h' tk' F' N' I' => hret r us k h' tk' F' (fun p hp => ?_) I'
  · rcases List.mem_cons.mp hp with rfl | hp
    · exact N _ hm
    · exact N p hp
  · rcases List.mem_cons.mp hp with rfl | hp
    · exact N' _ (.head _)
    · exact N' p (.tail _ (.tail _ hp))
end Mine

-- P2
namespace Mine
open PySem PySem.W PyProof.Rows PySem.Calls
set_option maxRecDepth 100000
set_option maxHeartbeats 1000000
theorem offP2 : True := by (w_top off; trivial)
/-- where a turn of a loop may end -/
def LStep (h₀ : Heap) (L I : Addr) (oI : Obj) (keep : List (Addr × Obj)) (Jn : (Str → Option Value) → List (Addr × Obj) → Prop) (s : Shared) (Q : Flow → Shared → Prop) (f : Flow) (s' : Shared) : Prop :=
  match f with
  | .ret v => Q (.ret v) s'
  | .brk => Q .next s'
  | _ => ∃ h' tk' m' nx', s' = { s with heap := h', toks := tk' } ∧ Fr h₀ L h' m' ∧ News h₀ L h' ((I, oI) :: (keep ++ nx')) ∧ (∀ p ∈ nx', p.1 ≠ I) ∧ Jn m' nx'

section
variable {prog : Program} {w : World} {A : Around} {E : Value → Shared → Prop} {s : Shared} {env : Env} {h₀ : Heap} {m : Str → Option Value} {news : List (Addr × Obj)} {Q : Flow → Shared → Prop} {body : List Stmt} {target : Expr}

theorem for_walk {I : Addr} {keep : List (Addr × Obj)} {n : Nat} {P : Nat → Value → Prop} {St : Nat → Heap → Prop}
    (W : Walks prog w A I (I :: keep.map (·.1)) [I] n P St) (hIo : ∀ i h, St i h → ∃ o, h.get? I = some o) (J : Nat → (Str → Option Value) → List (Addr × Obj) → Prop)
    (F : Fr h₀ env.locals s.heap m) (N : News h₀ env.locals s.heap (keep ++ news)) (hst : St 0 s.heap) (hIL : env.locals ≠ I) (hI0 : h₀.get? I = none) (hoff : ∀ p ∈ keep ++ news, p.1 ≠ I) (h0 : J 0 m news)
    (turn : ∀ i v m₁ nx h tk oI, i < n → P i v → J i m₁ nx → (∀ p ∈ nx, p.1 ≠ I) → St (i + 1) h → Fr h₀ env.locals h m₁ → News h₀ env.locals h ((I, oI) :: (keep ++ nx)) →
      wpAny (model prog w) A (letOwnedTupleGo target (.ref I) v) (fun _ s₁ => wpAny (model prog w) A (assign target env v) (fun _ s₂ =>
        wpAny (model prog w) A (execs body env) (LStep h₀ env.locals I oI keep (J (i + 1)) s Q) E s₂) E s₁) E { s with heap := h, toks := tk })
    (done : ∀ h tk m₁ nx, J n m₁ nx → Fr h₀ env.locals h m₁ → News h₀ env.locals h (keep ++ nx) → Q .next { s with heap := h, toks := tk })
    (hE : PassesOwn (model prog w) A env E) :
    codeAny (model prog w) A (.forLoop target (.ref I) body [] env) (fun r s' => match r with | .ok f => Q f s' | .error e => cameBackBy (model prog w) A env E e s') s := by
  refine codeAny_forLoop_any
    (fun k s' => ∃ h' tk m' nx i, s' = { s with heap := h', toks := tk } ∧ St i h' ∧ Fr h₀ env.locals h' m' ∧ News h₀ env.locals h' (keep ++ nx) ∧ (∀ p ∈ keep ++ nx, p.1 ≠ I) ∧ J i m' nx ∧ i ≤ n ∧ k = n + 1 - i) ?_ (n + 1)
    ⟨s.heap, s.toks, m, news, 0, rfl, hst, F, N, hoff, h0, Nat.zero_le _, rfl⟩
  rintro k s' ⟨h', tk, m', nx, i, rfl, hst', F', N', hoff', hJ, hi, rfl⟩
  have next : ∀ h₁ : Heap, (∀ b o, b ∉ [I] → h'.get? b = some o → h₁.get? b = some o) → Fr h₀ env.locals h₁ m' ∧ News h₀ env.locals h₁ (keep ++ nx) := fun h₁ hk₁ =>
    ⟨⟨F'.ns.at' fun o e => hk₁ _ o (by simpa using hIL) e, fun b o e => hk₁ b o (fun hb => by rw [List.mem_singleton.mp hb, hI0] at e; cases e) (F'.keep b o e), F'.above⟩,
      fun p hp => ⟨hk₁ _ _ (by simpa using hoff' p hp) (N' p hp).1, (N' p hp).2⟩⟩
  by_cases hlt : i < n
  · refine W.item i _ _ _ hlt hst' fun v h₁ tk₁ hP hst₁ hk₁ => ?_
    obtain ⟨F₁, N₁⟩ := next h₁ hk₁
    obtain ⟨oI, hoI⟩ := hIo _ _ hst₁
    have N₂ : News h₀ env.locals h₁ ((I, oI) :: (keep ++ nx)) := fun p hp => by
      rcases List.mem_cons.mp hp with rfl | hp
      · exact ⟨hoI, Ne.symm hIL, hI0⟩
      · exact N₁ p hp
    refine wpAny_mono (wpAny_passesOwn hE (turn i v m' nx h₁ tk₁ oI hlt hP hJ (fun p hp => hoff' p (List.mem_append_right _ hp)) hst₁ F₁ N₂)) (fun _ s₁ h₁' => ?_) fun _ _ z => z
    refine wpAny_mono (wpAny_passesOwn hE h₁') (fun _ s₂ h₂ => ?_) fun _ _ z => z
    refine wpAny_mono (wpAny_passesOwn hE h₂) (fun f s₃ h₃ => ?_) fun _ _ z => z
    have fin : (∃ h' tk' m' nx', s₃ = { s with heap := h', toks := tk' } ∧ Fr h₀ env.locals h' m' ∧ News h₀ env.locals h' ((I, oI) :: (keep ++ nx')) ∧ (∀ p ∈ nx', p.1 ≠ I) ∧ J (i + 1) m' nx') →
        ∃ m, m < n + 1 - i ∧ ∃ h' tk m' nx i, s₃ = { s with heap := h', toks := tk } ∧ St i h' ∧ Fr h₀ env.locals h' m' ∧ News h₀ env.locals h' (keep ++ nx) ∧ (∀ p ∈ keep ++ nx, p.1 ≠ I) ∧ J i m' nx ∧ i ≤ n ∧ m = n + 1 - i := by
      rintro ⟨h₄, tk₄, m₄, nx₄, rfl, F₄, N₄, off₄, J₄⟩
      refine ⟨n + 1 - (i + 1), by omega, h₄, tk₄, m₄, nx₄, i + 1, rfl, ?_, F₄, fun p hp => N₄ p (.tail _ hp), fun p hp => ?_, J₄, hlt, rfl⟩
      · refine W.frame _ _ _ hst₁ fun b hb o e => ?_
        rcases List.mem_cons.mp hb with rfl | hb
        · rw [hoI] at e; cases e; exact (N₄ _ (.head _)).1
        · obtain ⟨p, hp, rfl⟩ := List.mem_map.mp hb
          have z := (N₁ p (List.mem_append_left _ hp)).1
          rw [z] at e; cases e
          exact (N₄ p (.tail _ (List.mem_append_left _ hp))).1
      · rcases List.mem_append.mp hp with hp | hp
        · exact hoff' p (List.mem_append_left _ hp)
        · exact off₄ p hp
    cases f with
    | ret v => exact h₃
    | brk => exact h₃
    | next => exact fin h₃
    | cont => exact fin h₃
  · have hin : i = n := by omega
    subst hin
    refine W.done _ _ _ hst' fun h₁ tk₁ hk₁ => wpAny_execs_nil ?_
    obtain ⟨F₁, N₁⟩ := next h₁ hk₁
    exact done h₁ tk₁ m' nx hJ F₁ N₁

/-- a loop over a list that the call has made -/
theorem for_made {iter : Expr} {pos : Pos} (xF₀ : Fr h₀ env.locals s.heap m)
    (ht : (∀ it v, letOwnedTupleGo target it v = pure ()) ∨ ∃ elts k p, target = .Tuple elts k p)
    (h : wpAny (model prog w) A (eval iter env) (fun xv s₁ => ∃ ax its k m news, ∃ J : Nat → (Str → Option Value) → List (Addr × Obj) → Prop, xv = .ref ax ∧ A.handled = none ∧ Fr h₀ env.locals s₁.heap m ∧ News h₀ env.locals s₁.heap ((ax, listOf its k) :: news) ∧ J 0 m news ∧
      (∀ I i v m₁ nx h tk oI, (∀ p ∈ (ax, listOf its k) :: news, p.1 ≠ I) → oI.cls = .type "list_iterator" → its[i]? = some v → J i m₁ nx → (∀ p ∈ nx, p.1 ≠ I) → Fr h₀ env.locals h m₁ → News h₀ env.locals h ((I, oI) :: (ax, listOf its k) :: nx) →
        wpAny (model prog w) A (assign target env (v : Value)) (fun _ s₂ => wpAny (model prog w) A (execs body env) (LStep h₀ env.locals I oI [(ax, listOf its k)] (J (i + 1)) s₁ Q) E s₂) E { s₁ with heap := h, toks := tk }) ∧
      (∀ h tk m₁ nx, J its.size m₁ nx → Fr h₀ env.locals h m₁ → News h₀ env.locals h ((ax, listOf its k) :: nx) → Q .next { s₁ with heap := h, toks := tk })) E s)
    (hs : ∀ x, foldedSetIterable iter env x = pure x := by intro _; rfl)
    (hE : PassesOwn (model prog w) A env E := by passes_own) :
    wpAny (model prog w) A (exec (.For target iter body [] pos) env) Q E s := by
  refine wpAny_For (wpAny_mono h (fun xv s₁ h₁ => ?_) fun _ _ e => e) hs
  obtain ⟨ax, its, k, m₀, nw, J, rfl, hh, F, N, h0, turn, done⟩ := h₁
  have hmx := N (ax, listOf its k) (.head _)
  have hl : s₁.heap.IsList ax its := ⟨_, hmx.1, rfl, _, rfl⟩
  have hlt := Heap.lt_size hmx.1
  refine wpAny_pyIter_list hl ?_
  have up : ∀ b o, s₁.heap.get? b = some o → (s₁.heap.push { cls := .type "list_iterator", data := .fields #[.ref ax, .int 0 0] }).get? b = some o := fun b o e => Heap.get?_push_of_some _ e
  have hne : ax ≠ s₁.heap.objs.size := Nat.ne_of_lt hlt
  refine for_walk (s := { s₁ with heap := s₁.heap.push { cls := .type "list_iterator", data := .fields #[.ref ax, .int 0 0] } }) (keep := [(ax, listOf its k)]) (news := nw) (Walks.list hh s₁.heap.objs.size ax hne its) (fun i h st => by obtain ⟨o, e, _⟩ := st.1; exact ⟨o, e⟩) J
    (F.keeps up) (N.grown up) ⟨⟨_, Heap.get?_push_size _ rfl, rfl, rfl⟩, hl.push _⟩ (Nat.ne_of_lt F.ns.lt) (next_is_new F) (fun p hp => Nat.ne_of_lt (Heap.lt_size (N p hp).1)) h0 ?_ done hE
  intro i v m₁ nx h tk oI hi hP hJ hoff hst F₁ N₁
  have hcls : oI.cls = .type "list_iterator" := by
    obtain ⟨o, e, hc, _⟩ := hst.1
    rw [(N₁ _ (.head _)).1] at e
    cases e; exact hc
  have main := turn s₁.heap.objs.size i v m₁ nx h tk oI (fun p hp => Nat.ne_of_lt (Heap.lt_size (N p hp).1)) hcls hP hJ hoff F₁ N₁
  rcases ht with ht | ⟨elts, kk, p, rfl⟩
  · exact wpAny_of_eq (ht _ _) main
  · cases v with
    | ref T => exact wpAny_letOwnedTupleGo_listiter hst.1 main
    | _ => exact wpAny_of_eq rfl main

/-- a loop over a range by ones -/
theorem for_range {iter : Expr} {pos : Pos} {x : Str} {px : Pos} (xF₀ : Fr h₀ env.locals s.heap m)
    (h : wpAny (model prog w) A (eval iter env) (fun xv s₁ => ∃ r a b t u v n m news, ∃ J : Nat → (Str → Option Value) → List (Addr × Obj) → Prop, xv = .ref r ∧ A.handled = none ∧ IsRange s₁.heap r a b 1 t u v ∧ Builtin.Range.small a b 1 = true ∧ Builtin.Range.rangeSize a b 1 = ((n : Nat) : Int) ∧
      Fr h₀ env.locals s₁.heap m ∧ News h₀ env.locals s₁.heap news ∧ J 0 m news ∧
      (∀ I i ti m₁ nx h tk oI, (∀ p ∈ news, p.1 ≠ I) → oI.cls = .type "range_iterator" → i < n → J i m₁ nx → (∀ p ∈ nx, p.1 ≠ I) → Fr h₀ env.locals h m₁ → News h₀ env.locals h ((I, oI) :: nx) →
        wpAny (model prog w) A (assign (.Name x px) env (.int (a + (i : Nat)) ti)) (fun _ s₂ => wpAny (model prog w) A (execs body env) (LStep h₀ env.locals I oI [] (J (i + 1)) s₁ Q) E s₂) E { s₁ with heap := h, toks := tk }) ∧
      (∀ h tk m₁ nx, J n m₁ nx → Fr h₀ env.locals h m₁ → News h₀ env.locals h nx → Q .next { s₁ with heap := h, toks := tk })) E s)
    (hs : ∀ x, foldedSetIterable iter env x = pure x := by intro _; rfl)
    (hE : PassesOwn (model prog w) A env E := by passes_own) :
    wpAny (model prog w) A (exec (.For (.Name x px) iter body [] pos) env) Q E s := by
  refine wpAny_For (wpAny_mono h (fun xv s₁ h₁ => ?_) fun _ _ e => e) hs
  obtain ⟨r, a, b, t, u, v, n, m₀, nw, J, rfl, hh, hr, hsm, hn, F, N, h0, turn, done⟩ := h₁
  refine wpAny_pyIter_range hr hsm ?_
  have up : ∀ c o, s₁.heap.get? c = some o → (s₁.heap.push { cls := .type "range_iterator", data := .fields #[rawInt a, rawInt (Builtin.Range.rangeSize a b 1), rawInt 1] }).get? c = some o := fun c o e => Heap.get?_push_of_some _ e
  refine for_walk (s := { s₁ with heap := s₁.heap.push { cls := .type "range_iterator", data := .fields #[rawInt a, rawInt (Builtin.Range.rangeSize a b 1), rawInt 1] } }) (keep := []) (news := nw) (Walks.range hh s₁.heap.objs.size a 1 n) (fun i h st => ⟨_, st⟩) J
    (F.keeps up) (N.grown up) (by show IsRangeIter _ _ _ _ _; rw [hn]; simpa using Heap.get?_push_size _ rfl) (Nat.ne_of_lt F.ns.lt) (next_is_new F) (fun p hp => Nat.ne_of_lt (Heap.lt_size (N p hp).1)) h0 ?_ done hE
  intro i vv m₁ nx h tk oI hi hP hJ hoff hst F₁ N₁
  have hcls : oI.cls = .type "range_iterator" := by
    have e : h.get? _ = some _ := hst
    rw [(N₁ _ (.head _)).1] at e
    cases e; rfl
  obtain ⟨ti, rfl⟩ := hP
  have main := turn s₁.heap.objs.size i ti m₁ nx h tk oI (fun p hp => Nat.ne_of_lt (Heap.lt_size (N p hp).1)) hcls hi hJ hoff F₁ N₁
  rw [← Int.mul_one (i : Int)] at main
  exact wpAny_of_eq rfl main
end

theorem off_of {h₀ h : Heap} {L I D : Addr} {oI o : Obj} {all : List (Addr × Obj)} (N : News h₀ L h all) (hI : (I, oI) ∈ all) (hD : (D, o) ∈ all) (hc : o.cls ≠ oI.cls) : D ≠ I := by
  rintro rfl
  have a := (N _ hI).1
  rw [(N _ hD).1] at a
  cases a
  exact hc rfl
theorem LStep.mk {h₀ h' : Heap} {L I : Addr} {oI : Obj} {keep nx' all : List (Addr × Obj)} {Jn : (Str → Option Value) → List (Addr × Obj) → Prop} {s : Shared} {Q : Flow → Shared → Prop} {m' : Str → Option Value} {tk' : Nat}
    (F : Fr h₀ L h' m') (N : News h₀ L h' all) (hs : ∀ p ∈ (I, oI) :: (keep ++ nx'), p ∈ all) (off : ∀ p ∈ nx', p.1 ≠ I) (J : Jn m' nx') : LStep h₀ L I oI keep Jn s Q .next { s with heap := h', toks := tk' } :=
  ⟨h', tk', m', nx', rfl, F, fun p hp => N p (hs p hp), off, J⟩

theorem assign_tup {prog : Program} {w : World} {A : Around} {E : Value → Shared → Prop} {s : Shared} {env : Env} {elts : List Expr} {x1 : Nat} {pos : Pos} {t : Addr} {items : Array Value} {Q : Unit → Shared → Prop} {h₀ : Heap} {L : Addr} {m : Str → Option Value} {news : List (Addr × Obj)} {n : Nat}
    (hh : A.handled = none) (F : Fr h₀ L s.heap m) (N : News h₀ L s.heap news) (ht : (t, ({ cls := .type "tuple", data := .seq items n } : Obj)) ∈ news)
    (hn : (assignEach elts env).length = items.size) (hstar : (assignEach elts env).findIdx? (·.1) = none)
    (h : ∀ h', Fr h₀ L h' m → News h₀ L h' news → wpAny (model prog w) A (assignInOrder ((assignEach elts env).map (·.2)) items.toList) Q E { s with heap := h' }) :
    wpAny (model prog w) A (assign (.Tuple elts x1 pos) env (.ref t)) Q E s := by
  refine assign_Tuple_tuple hh ⟨_, (N _ ht).1, rfl, _, rfl⟩ hn hstar fun h' he => ?_
  have up : ∀ q o, s.heap.get? q = some o → h'.get? q = some o := fun q o e => he q o (Nat.ne_of_lt (Heap.lt_size e)) e
  exact h h' (F.keeps up) (N.grown up)
end Mine

-- F75
namespace Mine
open PySem PySem.W PyProof.Rows PySem.Calls
set_option maxRecDepth 100000
set_option maxHeartbeats 400000
theorem offF75 : True := by (w_top off; trivial)
theorem onceAux_length (pre l : List Int) : (onceAux pre l).length ≤ l.length := by
  induction l generalizing pre with
  | nil => exact Nat.le_refl _
  | cons x r ih =>
    unfold onceAux
    split
    · exact Nat.le_succ_of_le (ih _)
    · exact Nat.succ_le_succ (ih _)
theorem once_length (l : List Int) : (once l).length ≤ l.length := onceAux_length [] l
/-- what the first row has more often, by the items of a list -/
def moreOf (ns ms l : List Int) : List Int := l.flatMap fun x => List.replicate (ns.count x - ms.count x) x
theorem moreOf_snoc (ns ms l : List Int) (x : Int) : moreOf ns ms (l ++ [x]) = moreOf ns ms l ++ List.replicate (ns.count x - ms.count x) x := by
  simp [moreOf, List.flatMap_append]
theorem moreOf_length (ns ms l : List Int) : (moreOf ns ms l).length ≤ l.length * ns.length := by
  induction l with
  | nil => simp [moreOf]
  | cons x r ih =>
    have e : moreOf ns ms (x :: r) = List.replicate (ns.count x - ms.count x) x ++ moreOf ns ms r := by simp [moreOf]
    rw [e, List.length_append, List.length_replicate, List.length_cons, Nat.add_mul, Nat.one_mul]
    have := List.count_le_length (a := x) (l := ns)
    omega
theorem ints_rep (c : Nat) (x : Int) (t : Tok) : IntsAre (List.replicate c [Value.int x t]).flatten (List.replicate c x) := by
  induction c with
  | zero => exact .nil
  | succ c ih => exact .cons x t ih
theorem call75 {w : World} {mean : ExcName → Option Value} {mg mb : Str → Option Value} {dp un : Nat} {gd : Option (List Code)} {cn : Str} {cs : Scope} {a : Addr} {ccd : Value} {cl : List (Str × Addr)} {outer : List Env} {A₀ : Around} {base h₀ : Heap} {L : Addr} {m : Str → Option Value} {s : Shared} {Q E : Value → Shared → Prop} {news : List (Addr × Obj)}
    {la lb : Addr} {vs ws : List Value} {n k : Nat} {ns ms : List Int}
    (B : Below A₀ base outer h₀) (F : Fr h₀ L s.heap m) (X : (hd.heap_39 w.params).In h₀) (N : News h₀ L s.heap ((la, listOf vs.toArray n) :: (lb, listOf ws.toArray k) :: news)) (T : Top hd.view_39 (looseW hd.view_39 []) mean mg mb h₀) (hk : cs.kind = .function)
    (hdp : dp + 2 < recursionLimit) (hu : un + 16 < cLine) (hI : IntsAre vs ns) (hJ : IntsAre ws ms) (hlen : ns.length ≤ 63) (hlen2 : ms.length ≤ 63)
    (hret : ∀ r us kk h' tk' ns3, Fr h₀ L h' m → News h₀ L h' ((r, listOf us.toArray kk) :: (la, listOf vs.toArray n) :: (lb, listOf ws.toArray k) :: news) → ns3.Perm (once ns) → ns3.Pairwise (· ≤ ·) → IntsAre us (moreOf ns ms ns3) → Q (.ref r) { s with heap := h', toks := tk' })
    : wpAny (model PySem.Challenge.rw_xb0010_01.row.prog w) (ktrTop dp un gd cn cs L a ccd cl outer) (call (.ref 75) [.ref la, .ref lb]) Q E s := by
  revert X; k_fill; intro X
  refine wpAny_call ?_
  k_dflt cell_enter
  iterate 9 walk1
  (rename Fr _ _ _ _ => F1)
  (rename News _ _ _ _ => N1)
  refine for_made F1 (.inl fun _ _ => rfl) ?_
  iterate 11 walk1
  (rename Fr _ _ _ _ => F2)
  (rename News _ _ _ _ => N2)
  (rename Below _ _ _ _ => B2)
  (rename Frag.In _ _ => X2)
  (rename Top _ _ _ _ _ _ => T2)
  refine call68m (n := n) B2 F2 X2 N2 T2 (by simp) hI (by rfl) (by show dp + 1 + 1 < _; omega) (by show un + _ + 8 < _; simp only [cLine] at *; omega) hlen fun r us kk h2 tk2 F3 N3 I3 => ?_
  walk1
  (try dsimp only)
  refine sorted_N F3 N3 ⟨_, (N3 _ (.head _)).1, rfl, _, rfl⟩ I3 (by have := once_length ns; have := I3.length; omega) fun h3 vs3 ns3 e3 F4 N4 I4 P4 S4 => ?_
  refine ⟨_, vs3.toArray, e3, _, _ :: (la, listOf vs.toArray n) :: (lb, listOf ws.toArray k) :: news, fun i m₁ nx => ∃ lf fs kf, m₁ (Str.ofString "one") = some (.ref la) ∧ m₁ (Str.ofString "other") = some (.ref lb) ∧ m₁ (Str.ofString "found") = some (.ref lf) ∧ nx = (lf, listOf (List.toArray fs) kf) :: (la, listOf vs.toArray n) :: (lb, listOf ws.toArray k) :: news ∧ IntsAre fs (moreOf ns ms (ns3.take i)), rfl, rfl, F4, ?_, ⟨_, [], 0, rfl, rfl, rfl, rfl, .nil⟩, ?_, ?_⟩
  · intro p hp
    rcases List.mem_cons.mp hp with rfl | hp
    · exact N4 _ (.head _)
    · exact N4 p (.tail _ (.tail _ hp))
  · intro I i v m₁ nx h tk oI hoffk hcls hv hJ hoff F5 N5
    obtain ⟨lf, fs, kf, h1, h2, h3, rfl, hfs⟩ := hJ
    obtain ⟨x, tx, rfl, hx⟩ := IntsAre.at I4 i v (by simpa using hv)
    replace F5 := pin3 F5 h1 h2 h3
    (try clear F4); (try clear N4); (try clear F3); (try clear N3); (try clear F2); (try clear N2); (try clear F1); (try clear N1); (try clear F); (try clear N)
    k_steps
    (rename Fr _ _ _ _ => F6)
    (rename News _ _ _ _ => N6)
    have hc1 : ns.count x ≤ 63 := Nat.le_trans List.count_le_length hlen
    have hfl : fs.length ≤ 63 * 63 := by
      rw [hfs.length]
      refine Nat.le_trans (moreOf_length _ _ _) (Nat.mul_le_mul ?_ hlen)
      rw [List.length_take]
      have := P4.length_eq; have := once_length ns; omega
    have hcn : (if ((ns.count x : Int) - (ms.count x : Int)) > 0 then ((ns.count x : Int) - (ms.count x : Int)) else 0).toNat = ns.count x - ms.count x := by split <;> omega
    refine mul_list_is (vs := [.int x tx]) F6 N6 ⟨_, (N6 _ (.head _)).1, rfl, _, rfl⟩ (IntsAre.carried (.cons x tx .nil)) (by split <;> omega) (by split <;> omega) (by rw [hcn]; simp; omega) fun h7 F7 N7 hfr hL7 hc7 => ?_
    rw [hcn] at hL7
    have hN7 : (lf, listOf fs.toArray kf) ∈ _ → h7.IsList lf fs.toArray := fun hm => ⟨_, (N7 _ hm).1, rfl, _, rfl⟩
    refine add_lists_ints F7 N7 (hN7 (by simp)) hL7 hfs (ints_rep _ x tx) (fun h8 F8 N8 I8 => ?_) (by rw [← hfs.length, List.length_replicate, sizeLine_eq]; omega)
    clear F6 N6 F7 N7
    k_steps
    (rename Fr _ _ _ _ => F9)
    (rename News _ _ _ _ => N9)
    refine LStep.mk (nx' := (h7.objs.size, listOf (fs ++ (List.replicate (ns.count x - ms.count x) [Value.int x tx]).flatten).toArray 0) :: (la, listOf vs.toArray n) :: (lb, listOf ws.toArray k) :: news) F9 N9 ?_ ?_ ?_
    · intro p hp
      simp only [List.cons_append, List.nil_append, List.mem_cons] at hp ⊢
      rcases hp with rfl | rfl | rfl | rfl | rfl | hp <;> simp_all
    · intro p hp
      rcases List.mem_cons.mp hp with rfl | hp
      · exact off_of (oI := oI) N9 (by simp) (.head _) (by rw [hcls]; simp)
      · exact hoff p (.tail _ hp)
    · refine ⟨h7.objs.size, _, 0, rfl, rfl, rfl, rfl, ?_⟩
      rw [List.take_add_one, hx]
      simp only [Option.toList]
      rw [moreOf_snoc]
      exact I8
  · intro h tk m₁ nx hJ F5 N5
    obtain ⟨lf, fs, kf, h1, h2, h3, rfl, hfs⟩ := hJ
    replace F5 := pin3 F5 h1 h2 h3
    (try clear F4); (try clear N4); (try clear F3); (try clear N3); (try clear F2); (try clear N2); (try clear F1); (try clear N1); (try clear F); (try clear N)
    k_steps
    rw [List.size_toArray, I4.length, List.take_length] at hfs
    refine hret _ fs kf _ _ ns3 (by assumption) (fun p hp => ?_) P4 S4 hfs
    (rename News _ _ _ _ => N9)
    exact N9 p (.tail _ hp)
end Mine

-- F56
namespace Mine
open PySem PySem.W PyProof.Rows PySem.Calls
set_option maxRecDepth 100000
set_option maxHeartbeats 2000000
theorem offF56 : True := by (w_top off; trivial)
abbrev tup2 (a b : Int) (ta tb : Tok) (n : Nat) : Obj := { cls := .type "tuple", data := .seq #[.int a ta, .int b tb] n }
def pairSel (i : Int) (p : Int × Int) : Int := if i = 0 then p.1 else p.2
def cmpT : List (Int × Int) → Int × Int → Int × Int → Int
  | [], _, _ => 0
  | (i, d) :: r, p, q => if pairSel i p < pairSel i q then -d else if pairSel i q < pairSel i p then d else cmpT r p q


section
variable {prog : Program} {w : World} {A : Around} {E : Value → Shared → Prop} {s : Shared} {Q : Value → Shared → Prop} {h₀ : Heap} {L t : Addr} {news : List (Addr × Obj)} {value slice : Expr} {a b : Int} {ta tb u : Tok} {n : Nat}
theorem sub_t0 (N : News h₀ L s.heap news) (hm : (t, tup2 a b ta tb n) ∈ news) (h : Q (.int a ta) s)
    (hs : subscripted slice false (.ref t) (.int 0 u) = operate [.ref t, .int 0 u] (getItem (.ref t) (.int 0 u)) := by with_unfolding_all rfl) :
    wpAny (model prog w) A (subscriptTail value slice (.ref t) (.int 0 u)) Q E s :=
  item_tupleT (l := [.int a ta, .int b tb]) (j := 0) ⟨_, (N _ hm).1, rfl, _, rfl⟩ (by decide) (by decide) rfl rfl h hs
theorem sub_t1 (N : News h₀ L s.heap news) (hm : (t, tup2 a b ta tb n) ∈ news) (h : Q (.int b tb) s)
    (hs : subscripted slice false (.ref t) (.int 1 u) = operate [.ref t, .int 1 u] (getItem (.ref t) (.int 1 u)) := by with_unfolding_all rfl) :
    wpAny (model prog w) A (subscriptTail value slice (.ref t) (.int 1 u)) Q E s :=
  item_tupleT (l := [.int a ta, .int b tb]) (j := 1) ⟨_, (N _ hm).1, rfl, _, rfl⟩ (by decide) (by decide) rfl rfl h hs
end
local macro_rules | `(tactic| walk_at "subscriptTail") => `(tactic| ((with_reducible show wpAny _ _ (subscriptTail _ _ (Value.ref _) (Value.int 0 _)) _ _ _); refine sub_t0 (by assumption) (by k_mem) ?_))
local macro_rules | `(tactic| walk_at "subscriptTail") => `(tactic| ((with_reducible show wpAny _ _ (subscriptTail _ _ (Value.ref _) (Value.int 1 _)) _ _ _); refine sub_t1 (by assumption) (by k_mem) ?_))

theorem cmp_step {ways : List (Int × Int)} {i : Nat} {ix d : Int} (hw : ways[i]? = some (ix, d)) (p q : Int × Int) :
    cmpT (ways.drop i) p q = if pairSel ix p < pairSel ix q then -d else if pairSel ix q < pairSel ix p then d else cmpT (ways.drop (i + 1)) p q := by
  obtain ⟨hi, he⟩ := List.getElem?_eq_some_iff.mp hw
  rw [List.drop_eq_getElem_cons hi, he]
  rfl
theorem call56 {w : World} {mean : ExcName → Option Value} {mg mb : Str → Option Value} {dp un : Nat} {gd : Option (List Code)} {cn : Str} {cs : Scope} {a : Addr} {ccd : Value} {cl : List (Str × Addr)} {outer : List Env} {A₀ : Around} {base h₀ : Heap} {L : Addr} {m : Str → Option Value} {s : Shared} {Q E : Value → Shared → Prop} {news : List (Addr × Obj)}
    {x dx wl t1 t2 : Addr} {hsh : Int} {tk0 : Tok} {nw nd m1 m2 : Nat} {its : List Value} {ways : List (Int × Int)} {a1 b1 a2 b2 : Int} {k5 k6 k7 k8 : Tok}
    (B : Below A₀ base outer h₀) (F : Fr h₀ L s.heap m) (X : (hd.heap_39 w.params).In h₀)
    (N : News h₀ L s.heap news) (hx : (x, instObj 59 dx) ∈ news) (hdx : (dx, dictOf [⟨hsh, .str "comp_select_list" tk0, .ref wl⟩] nd) ∈ news) (hwl : (wl, listOf its.toArray nw) ∈ news)
    (ht1 : (t1, tup2 a1 b1 k5 k6 m1) ∈ news) (ht2 : (t2, tup2 a2 b2 k7 k8 m2) ∈ news)
    (hlen : its.length = ways.length) (hways : ∀ (i : Nat) (v : Value), its[i]? = some v → ∃ p ix d k k' n, v = .ref p ∧ (p, tup2 ix d k k' n) ∈ news ∧ ways[i]? = some (ix, d) ∧ (ix = 0 ∨ ix = 1) ∧ d.natAbs ≤ 1)
    (T : Top hd.view_39 (looseW hd.view_39 []) mean mg mb h₀) (hk : cs.kind = .function)
    (hdp : dp + 1 < recursionLimit) (hu : un + 8 < cLine)
    (hret : ∀ t h' tk', Fr h₀ L h' m → News h₀ L h' news → Q (.int (cmpT ways (a1, b1) (a2, b2)) t) { s with heap := h', toks := tk' }) :
    codeAny (model PySem.Challenge.rw_xb0010_01.row.prog w) (ktrTop dp un gd cn cs L a ccd cl outer) (.call (.ref 56) ⟨[.ref x, .ref t1, .ref t2], []⟩) (fun r s' => match r with | .ok (.ret v) => Q v s' | .ok _ => False | .error e => E e s') s := by
  revert X; k_fill; intro X
  k_dflt cell_enter
  iterate 2 walk1
  (rename Fr _ _ _ _ => F1)
  refine for_made F1 (.inr ⟨_, _, _, rfl⟩) ?_
  iterate 3 walk1
  (rename News _ _ _ _ => N1)
  clear F N
  refine ⟨wl, its.toArray, nw, _, news, fun i m₁ nx => m₁ (Str.ofString "left") = some (.ref t1) ∧ m₁ (Str.ofString "right") = some (.ref t2) ∧ nx = news ∧ cmpT ways (a1, b1) (a2, b2) = cmpT (ways.drop i) (a1, b1) (a2, b2), rfl, rfl, F1, ?_, ⟨rfl, rfl, rfl, rfl⟩, ?_, ?_⟩
  · intro p hp
    rcases List.mem_cons.mp hp with rfl | hp
    · exact N1 _ hwl
    · exact N1 _ hp
  · intro I i v m₁ nx h tk oI hoffk hcls hv hJ hoff F5 N5
    obtain ⟨h1, h2, rfl, hc⟩ := hJ
    obtain ⟨p, ix, d, kk, kk', n, rfl, hp, hw, hix, hdd⟩ := hways i v (by simpa using hv)
    replace F5 := pin2 F5 h1 h2
    clear F1 N1
    refine assign_tup (n := n) (by rfl) F5 N5 (.tail _ (.tail _ hp)) (by rfl) (by rfl) fun h6 F6 N6 => ?_
    clear F5 N5
    obtain ⟨all, hall, N6⟩ : ∃ all, (∀ q ∈ (I, oI) :: ([(wl, listOf its.toArray nw)] ++ nx), q ∈ all) ∧ News _ _ _ all := ⟨_, fun _ h => h, N6⟩
    have ht1' := hall _ (.tail _ (.tail _ ht1))
    have ht2' := hall _ (.tail _ (.tail _ ht2))
    have hst := cmp_step hw (a1, b1) (a2, b2)
    rw [← hc] at hst
    rcases hix with rfl | rfl
    all_goals
      simp only [pairSel, if_true, if_false, Int.one_ne_zero] at hst
      k_steps
      · dsimp only
        k_steps
        dsimp only [LStep]
        k_steps
        rw [if_pos (by assumption)] at hst
        rw [← hst]
        (rename News _ _ _ _ => N9)
        refine hret _ _ _ ?_ ?_
        · assumption
        · exact fun p hp => N9 p (hall p (.tail _ (.tail _ hp)))
      · dsimp only
        k_steps
        dsimp only [LStep]
        k_steps
        rw [if_neg (by assumption), if_pos (by first | assumption | omega)] at hst
        rw [← hst]
        (rename News _ _ _ _ => N9)
        refine hret _ _ _ ?_ ?_
        · assumption
        · exact fun p hp => N9 p (hall p (.tail _ (.tail _ hp)))
      · rw [if_neg (by assumption), if_neg (by first | assumption | omega)] at hst
        (rename Fr _ _ _ _ => F9)
        (rename News _ _ _ _ => N9)
        exact LStep.mk F9 N9 hall hoff ⟨rfl, rfl, rfl, hst⟩
  · intro h tk m₁ nx hJ F5 N5
    obtain ⟨h1, h2, rfl, hc⟩ := hJ
    clear F1 N1
    k_steps
    rw [List.size_toArray, hlen, List.drop_length] at hc
    have hc' : cmpT ways (a1, b1) (a2, b2) = 0 := hc
    rw [← hc']
    (rename News _ _ _ _ => N9)
    exact hret _ _ _ (by assumption) (fun p hp => N9 p (.tail _ hp))
end Mine

-- P3
namespace Mine
open PySem PySem.W PyProof.Rows PySem.Calls
set_option maxRecDepth 100000
set_option maxHeartbeats 1000000
theorem offP3 : True := by (w_top off; trivial)
section
variable {prog : Program} {w : World} {A₀ : Around} {E : Value → Shared → Prop} {s' : Shared} {base h : Heap} {L L' a e : Addr} {m : Str → Option Value} {name : Str} {scope : Scope} {cd : Value} {oL : Obj} {X : String} {new : List (Addr × Obj)} {env : Env}
  {x : Str} {np pos : Pos} {b₀ : Stmt} {suite : List Stmt} {rest : List ExceptHandler} {Q : Flow → Shared → Prop} {p : Program} {loose : List Str} {mean : ExcName → Option Value} {mg mb : Str → Option Value}

/-- an exception that is new, caught in the frame in which it was raised, one caller below -/
theorem catch_new (hfr : A₀.frames = some [env]) (Fs : TI.Frs [env] [(L, oL)]) (hx : Heap.NewExc h s'.heap e X) (F : Fr base L' h m) (N : News base L' h (new ++ [(L, oL)])) (hne : ∀ q ∈ new, q.1 ≠ L) (T : Top p loose mean mg mb base)
    (k : ∀ h' sl, Fr base L' h' m → News base L' h' (new ++ [(L, { oL with slots := sl })]) →
      wpAny (model prog w) ((A₀.deeper (envOf name scope L' a cd)).mark (some (.ref e))) (execs (b₀ :: suite) (envOf name scope L' a cd)) Q E { s' with heap := h' })
    (t1 : x ∉ startupNames := by decide +kernel) (t2 : x ∉ loose := by decide +kernel) (t3 : x ∉ (recsOf p).map (·.name) := by decide +kernel) (t4 : x ∉ (litsOf p).map (·.1) := by decide +kernel) (t5 : x ∉ (clssOf p loose).map (·.name) := by decide +kernel)
    (h3 : subB X (.type x.toString) = some true := by decide +kernel) (hv : bootBuiltins x = some (.type x.toString) := by decide +kernel) (h1 : subB x.toString (.type "BaseException") = some true := by decide +kernel)
    (h2 : subB ((Manifest.find? x.toString).elim "type" fun y => y.metatype) (.type "tuple") = some false := by decide +kernel) (hn : x ≠ "__name__" := by decide)
    (hk : scope.kind = .function := by rfl) (hxk : (envOf name scope L' a cd).kindOf x = some .globalImplicit := by rfl) (hdb : (x == ("__debug__" : Str)) = false := by decide)
    (hE : PassesOwnAt (model prog w) ((A₀.deeper (envOf name scope L' a cd)).mark (some (.ref e))) (A₀.deeper (envOf name scope L' a cd)) (envOf name scope L' a cd) E := by passes_own) :
    wpAny (model prog w) (A₀.deeper (envOf name scope L' a cd)) (noteFrame (.ref e) (envOf name scope L' a cd)) (fun _ s₂ => wpAny (model prog w) (A₀.deeper (envOf name scope L' a cd)) (setFlight (.ref e) none)
      (fun _ s₃ => wpAny (model prog w) (A₀.deeper (envOf name scope L' a cd)) (handleBy (.ref e) (envOf name scope L' a cd) (.ExceptHandler (some (.Name x np)) none (b₀ :: suite) pos :: rest)) Q E s₃) E s₂) E s' := by
  refine TLg.noted_new1 (new := new) hfr Fs hx F N (TLgL.allNe_of hne) (fun h' sl Fs' H => ?_) hk
  refine H.land fun h'' H' => ?_
  exact TT.clause_hitTN H' T t1 t2 t3 t4 t5 (fun h₃ F₃ N₃ => k h₃ sl F₃ N₃) h3 hv h1 h2 hn hk hxk hdb hE
end
section
variable {prog : Program} {w : World} {A : Around} {E : Value → Shared → Prop} {s : Shared} {h₀ : Heap} {L D : Addr} {m : Str → Option Value} {news news' : List (Addr × Obj)} {vs : List Value} {ns : List Int} {n : Nat} {x : Int} {t : Tok}

theorem first_at : ∀ {vs : List Value} {ns : List Int}, IntsAre vs ns → x ∈ ns → ∃ (p q : List Value) (y : Value), vs = p ++ y :: q ∧ isInt x y = true ∧ (∀ z ∈ p, isInt x z = false) ∧ IntsAre (p ++ q) (ns.erase x)
  | _, _, .nil, h => nomatch h
  | _, _, .cons (vs := vs) (ns := ns) k u hi, h => by
    by_cases hk : k = x
    · subst hk
      exact ⟨[], vs, .int k u, rfl, by simp [isInt], by simp, by simpa using hi⟩
    · have hm : x ∈ ns := by
        rcases List.mem_cons.mp h with h | h
        · exact absurd h.symm hk
        · exact h
      obtain ⟨p, q, y, rfl, hy, hp, hI⟩ := first_at hi hm
      refine ⟨.int k u :: p, q, y, rfl, hy, ?_, ?_⟩
      · intro z hz
        rcases List.mem_cons.mp hz with rfl | hz
        · simp [isInt, hk]
        · exact hp z hz
      · rw [List.erase_cons, if_neg (by simpa using hk)]
        exact .cons k u hI

theorem rm_hit {nw : List Value → List (Addr × Obj)} {Q : Value → Shared → Prop} (F : Fr h₀ L s.heap m) (N : News h₀ L s.heap news) (hI : IntsAre vs ns) (hx : x ∈ ns) (hz : vs.length ≤ sizeLine)
    (U : ∀ ws : List Value, Upd D (listOf vs.toArray n) (listOf ws.toArray (n + 1)) news (nw ws))
    (h : ∀ h' ws, Fr h₀ L h' m → News h₀ L h' (nw ws) → IntsAre ws (ns.erase x) → Q .none { s with heap := h' }) : wpAny (model prog w) A (call (.builtin "list.remove") [.ref D, .int x t]) Q E s := by
  obtain ⟨p, q, y, rfl, hy, hp, hI'⟩ := first_at hI hx
  obtain ⟨pre, post, e1, e2, a, b⟩ := (U (p ++ q)).split
  subst e1
  have z := N (D, listOf (p ++ y :: q).toArray n) (List.mem_append.mpr (.inr (.head _)))
  have hj : p.length < (p ++ y :: q).toArray.size := by simp
  refine call_meets PySem.F.slot_list_remove ⟨_, z.1, rfl⟩ PySem.F.entry_list_remove (PySem.F.args_list_remove_2 _ _)
    (MeetsSeq.list_remove D _ n (.int x t) (isInt x) (fun y' hy' => eq_isInt x t hI y' (by simpa using hy')) p.length hj (by simpa using hy) (fun k hk hlt => ?_) (by simpa using hz))
    ⟨z.1, h _ (p ++ q) (F.change (Heap.SameBut.update ..) z.2.1 z.2.2) ?_ hI'⟩
  · have : (p ++ y :: q).toArray[k] = p[k] := by simp [List.getElem_append, hlt]
    rw [this]
    exact hp _ (List.getElem_mem _)
  · rw [e2]
    refine kl_turn _ N a b (kl_erase p q y) ?_
    simp only [List.size_toArray, List.length_append, List.length_cons]
    omega

theorem rm_miss {Q : Value → Shared → Prop} (hA : A.handled = none) (N : News h₀ L s.heap news) (hm : (D, listOf vs.toArray n) ∈ news) (hI : IntsAre vs ns) (hx : x ∉ ns)
    (h : ∀ h' tk e, Heap.NewExc s.heap h' e "ValueError" → E (.ref e) { s with heap := h', toks := tk }) : wpAny (model prog w) A (call (.builtin "list.remove") [.ref D, .int x t]) Q E s := by
  refine call_meets PySem.F.slot_list_remove ⟨_, (N _ hm).1, rfl⟩ PySem.F.entry_list_remove (PySem.F.args_list_remove_2 _ _)
    (MeetsSeq.list_remove_none D _ n (.int x t) (isInt x) (fun y' hy' => eq_isInt x t hI y' (by simpa using hy')) (fun k hk => ?_)) ⟨(N _ hm).1, hA, h⟩
  have hk' : k < vs.length := by simpa using hk
  have hany := any_isInt x hI
  have hf : vs.any (isInt x) = false := by
    rw [hany]
    simp only [List.any_eq_false, beq_iff_eq]
    intro y hy e; exact hx (e ▸ hy)
  have := List.any_eq_false.mp hf vs[k] (List.getElem_mem hk')
  simpa using this
end

theorem kl_last_concat (y : Value) : ∀ p : List Value, kl_last (p ++ [y]) = some (p, y)
  | [] => rfl
  | x :: r => by
    show kl_last (x :: (r ++ [y])) = _
    unfold kl_last
    rw [kl_last_concat y r]
theorem ints_concat {y : Int} : ∀ {vs : List Value} {ys : List Int}, IntsAre vs (ys ++ [y]) → ∃ p t, vs = p ++ [.int y t] ∧ IntsAre p ys
  | vs, [], h => by
    cases h with
    | cons k t h => cases h; exact ⟨[], t, rfl, .nil⟩
  | vs, x :: r, h => by
    cases h with
    | cons k t h =>
      obtain ⟨p, t', rfl, hp⟩ := ints_concat h
      exact ⟨.int x t :: p, t', rfl, .cons x t hp⟩

theorem ne_frame {h₀ h : Heap} {L L' D : Addr} {oL o : Obj} {sl : Array (Option Value)} {all : List (Addr × Obj)} {its : Array Value} {k : Nat} (N : News h₀ L' h all) (hL : (L, ({ oL with slots := sl } : Obj)) ∈ all) (hd : ∃ es ep, oL.data = .dict es ep) (hD : (D, o) ∈ all) (ho : o.data = .seq its k) : D ≠ L := by
  rintro rfl
  have a := (N _ hL).1
  rw [(N _ hD).1] at a
  have e : o = { oL with slots := sl } := Option.some.inj a
  obtain ⟨es, ep, hd⟩ := hd
  rw [e] at ho
  have ho' : oL.data = .seq its k := ho
  rw [hd] at ho'; cases ho'
end Mine

-- F28
namespace Mine
open PySem PySem.W PyProof.Rows PySem.Calls
set_option maxRecDepth 100000
set_option maxHeartbeats 1000000
theorem offF28 : True := by (w_top off; trivial)
/-- the second row's function: the first row from behind, the second -/
def uldGo : List Int → List Int → List Int × List Int
  | [], as => ([], as)
  | x :: r, as => if x ∈ as then uldGo r (as.erase x) else (x :: (uldGo r as).1, (uldGo r as).2)

theorem call28 {w : World} {mean : ExcName → Option Value} {mg mb : Str → Option Value} {dp un : Nat} {gd : Option (List Code)} {cn : Str} {cs : Scope} {a : Addr} {ccd : Value} {cl : List (Str × Addr)} {base : Heap} {L : Addr} {m : Str → Option Value} {s : Shared} {Q E : Value → Shared → Prop} {news : List (Addr × Obj)}
    {le la : Addr} {vs ws : List Value} {n k : Nat} {es as : List Int}
    (F : Fr base L s.heap m) (X : (hd.heap_39 w.params).In base) (N : News base L s.heap ((la, listOf ws.toArray k) :: (le, listOf vs.toArray n) :: news)) (T : Top hd.view_39 (looseW hd.view_39 []) mean mg mb base) (hk : cs.kind = .function)
    (hdp : dp + 1 < recursionLimit) (hu : un + 8 < cLine) (hI : IntsAre vs es) (hJ : IntsAre ws as) (hlen : es.length ≤ 63) (hlen2 : as.length ≤ 63)
    (hne : la ≠ le) (hla : ∀ p ∈ news, p.1 ≠ la) (hle : ∀ p ∈ news, p.1 ≠ le)
    (hret : ∀ r lm us q ws' k' nt h' tk', Fr base L h' m → News base L h' ((r, ({ cls := .type "tuple", data := .seq #[.ref lm, .ref la] nt } : Obj)) :: (lm, listOf us.toArray q) :: (la, listOf ws'.toArray k') :: news) → IntsAre us (uldGo es.reverse as).1 → IntsAre ws' (uldGo es.reverse as).2 → Q (.ref r) { s with heap := h', toks := tk' })
    : wpAny (model PySem.Challenge.rw_xb0010_01.row.prog w) (ktrTop dp un gd cn cs L a ccd cl []) (call (.ref 28) [.ref le, .ref la]) Q E s := by
  revert X; k_fill; intro X
  refine call_def (by k_asm) (by k_asm) (by k_asm) (by k_asm) (by ktr_room) (by k_dflt k_is) (by k_dflt k_is) (by exact BindsTo.of_eq rfl) (locs rfl) (fun oL L' h₁ C hLL hneL F1 N1 => ?_)
  (try dsimp only)
  iterate 5 walk1
  refine newList_K F1 N1 (fun lm h2 F2 N2 hlm => ?_)
  walk1
  walk1
  walk1
  (rename Fr _ _ _ _ => F3)
  (rename News _ _ _ _ => N3)
  (try clear N2); (try clear F2); (try clear N1); (try clear F1)
  have hm1 : lm ≠ la := Nat.ne_of_gt (hlm (la, listOf ws.toArray k) (.tail _ (.head _)))
  have hm2 : lm ≠ le := Nat.ne_of_gt (hlm (le, listOf vs.toArray n) (.tail _ (.tail _ (.head _))))
  have hm3 : ∀ p ∈ news, p.1 ≠ lm := fun p hp => Nat.ne_of_lt (hlm p (.tail _ (.tail _ (.tail _ hp))))
  have hm4 : L ≠ lm := Nat.ne_of_lt (hlm (L, oL) (.head _))
  have hL1 : la ≠ L := hneL (la, listOf ws.toArray k) (.head _)
  have hL2 : le ≠ L := hneL (le, listOf vs.toArray n) (.tail _ (.head _))
  have hL3 : ∀ p ∈ news, p.1 ≠ L := fun p hp => hneL p (.tail _ (.tail _ hp))
  refine While_inv2 (h₀ := base) (L := L') (n₀ := es.length) (news := (lm, listOf (List.toArray []) 0) :: (la, listOf ws.toArray k) :: (le, listOf vs.toArray n) :: (news ++ [(L, oL)]))
    (fun j m₁ nx => ∃ (sl : Array (Option Value)) (es' as' ms' : List Int) (vs' ws' us' : List Value) (n' k' q' : Nat), m₁ (Str.ofString "expected") = some (.ref le) ∧ m₁ (Str.ofString "actual") = some (.ref la) ∧ m₁ (Str.ofString "missing") = some (.ref lm) ∧
      nx = (lm, listOf us'.toArray q') :: (la, listOf ws'.toArray k') :: (le, listOf vs'.toArray n') :: (news ++ [(L, { oL with slots := sl })]) ∧ IntsAre vs' es' ∧ IntsAre ws' as' ∧ IntsAre us' ms' ∧ j = es'.length ∧ es'.length + ms'.length ≤ 63 ∧ as'.length ≤ 63 ∧
      ms' ++ (uldGo es'.reverse as').1 = (uldGo es.reverse as).1 ∧ (uldGo es'.reverse as').2 = (uldGo es.reverse as).2) F3 ?_ ?_ ?_
  · intro p hp
    refine N3 p ?_
    simp only [List.mem_cons, List.mem_append, List.not_mem_nil, or_false] at hp ⊢
    rcases hp with rfl | rfl | rfl | hp | rfl <;> simp_all
  · exact ⟨oL.slots, es, as, [], vs, ws, [], n, k, 0, rfl, rfl, rfl, rfl, hI, hJ, .nil, rfl, by simpa using hlen, hlen2, rfl, rfl⟩
  · rintro j m₁ nx h3 tk3 F4 N4 ⟨sl, es', as', ms', vs', ws', us', n', k', q', e1, e2, e3, rfl, I1, I2, I3, rfl, l1, l2, c1, c2⟩
    replace F4 := pin3 F4 e1 e2 e3
    clear F3 N3
    rcases List.eq_nil_or_concat es' with rfl | ⟨ys, y, rfl⟩
    · cases I1
      k_steps
      (rename Fr _ _ _ _ => F9)
      (rename News _ _ _ _ => N9)
      (rename Addr => D9)
      obtain ⟨F10, N10⟩ := back (sl := sl) C F9 (news := (D9, ({ cls := .type "tuple", data := .seq #[.ref lm, .ref la] 0 } : Obj)) :: (lm, listOf us'.toArray q') :: (la, listOf ws'.toArray k') :: news) (fun p hp => N9 p (by simp only [List.mem_cons, List.mem_append, List.not_mem_nil, or_false] at hp ⊢; rcases hp with rfl | rfl | rfl | rfl | hp <;> simp_all)) (fun p hp => by
        simp only [List.mem_cons] at hp
        rcases hp with rfl | rfl | rfl | hp
        · exact ne_frame (sl := sl) N9 (by simp) C.dict (.head _) rfl
        · exact Ne.symm hm4
        · exact hL1
        · exact hL3 p hp)
      simp only [List.reverse_nil, uldGo, List.append_nil] at c1 c2
      exact hret _ _ _ _ _ _ _ _ _ F10 N10 (c1 ▸ I3) (c2 ▸ I2)
    · simp only [List.concat_eq_append] at I1 l1 c1 c2 ⊢
      obtain ⟨pv, ty, rfl, I1b⟩ := ints_concat I1
      clear I1
      have hne1 : ∀ p ∈ news ++ [(L, ({ oL with slots := sl } : Obj))], p.1 ≠ le := by
        intro p hp
        rcases List.mem_append.mp hp with hp | hp
        · exact hle p hp
        · rw [List.mem_singleton.mp hp]; exact Ne.symm hL2
      have hne2 : ∀ p ∈ news ++ [(L, ({ oL with slots := sl } : Obj))], p.1 ≠ la := by
        intro p hp
        rcases List.mem_append.mp hp with hp | hp
        · exact hla p hp
        · rw [List.mem_singleton.mp hp]; exact Ne.symm hL1
      have hne3 : ∀ p ∈ news ++ [(L, ({ oL with slots := sl } : Obj))], p.1 ≠ lm := by
        intro p hp
        rcases List.mem_append.mp hp with hp | hp
        · exact hm3 p hp
        · rw [List.mem_singleton.mp hp]; exact hm4
      have lenp := I1b.length
      have lenw := I2.length
      have lenu := I3.length
      simp only [List.length_append, List.length_singleton] at l1
      have hz1 : (pv ++ [Value.int y ty]).toArray.toList.length ≤ sizeLine := by rw [sizeLine_eq]; show (pv ++ [Value.int y ty]).length ≤ _; rw [List.length_append, List.length_singleton]; omega
      have hz2 : ws'.length ≤ sizeLine := by rw [sizeLine_eq]; omega
      k_steps
      · refine kl_pop (p := pv) (y := .int y ty) F4 N4 (kl_last_concat _ _) (Upd.tail hm2 (Upd.tail hne (Upd.head hne1))) hz1 fun h5 F5 N5 => ?_
        clear F4 N4
        k_steps
        (rename Fr _ _ _ _ => F6)
        (rename News _ _ _ _ => N6)
        by_cases hx : y ∈ as'
        · refine rm_hit (nw := fun w' => (lm, listOf us'.toArray q') :: (la, listOf w'.toArray (k' + 1)) :: (le, listOf pv.toArray (n' + 1)) :: (news ++ [(L, ({ oL with slots := sl } : Obj))])) F6 N6 I2 hx hz2 (fun w' => Upd.tail hm1 (Upd.head (List.forall_mem_cons.mpr ⟨Ne.symm hne, hne2⟩))) fun h7 w7 F7 N7 I7 => ?_
          clear F6 N6
          k_steps
          (rename Fr _ _ _ _ => F9)
          (rename News _ _ _ _ => N9)
          refine ⟨_, _, _, _, ys.length, rfl, F9, N9, by simp, sl, ys, as'.erase y, ms', pv, w7, us', n' + 1, k' + 1, q', rfl, rfl, rfl, rfl, I1b, I7, I3, rfl, by omega, Nat.le_trans (List.length_erase_le) l2, ?_, ?_⟩
          · rw [← c1, List.reverse_append, List.reverse_singleton, List.singleton_append, uldGo, if_pos hx]
          · rw [← c2, List.reverse_append, List.reverse_singleton, List.singleton_append, uldGo, if_pos hx]
        · refine rm_miss (by rfl) N6 (.tail _ (.head _)) I2 hx fun h7 tk7 e hx7 => ?_
          obtain ⟨es0, ep0, hd0⟩ := C.dict
          refine catch_new (oL := { oL with slots := sl }) (L := L) (new := (lm, listOf us'.toArray q') :: (la, listOf ws'.toArray k') :: (le, listOf pv.toArray (n' + 1)) :: news) (by rfl) ⟨by show cs.kind ≠ .module; rw [hk]; decide, rfl, ⟨es0, ep0, hd0⟩, trivial⟩ hx7 F6 N6 ?_ T ?_
          · intro q hq
            simp only [List.mem_cons] at hq
            rcases hq with rfl | rfl | rfl | hq
            · exact Ne.symm hm4
            · exact hL1
            · exact hL2
            · exact hL3 q hq
          · intro h8 sl8 F8 N8
            clear F6 N6
            iterate 10 walk1
            have hne4 : ∀ p ∈ news ++ [(L, ({ oL with slots := sl8 } : Obj))], p.1 ≠ lm := by
              intro p hp
              rcases List.mem_append.mp hp with hp | hp
              · exact hm3 p hp
              · rw [List.mem_singleton.mp hp]; exact hm4
            refine append_K (its := us'.toArray) F8 N8 (Upd.head (List.forall_mem_cons.mpr ⟨Ne.symm hm1, List.forall_mem_cons.mpr ⟨Ne.symm hm2, hne4⟩⟩)) (fun h9 F9 N9 => ?_) (hsz := by rw [sizeLine_eq, List.size_toArray]; omega)
            clear F8 N8
            rw [List.push_toArray] at N9
            k_steps
            (rename Fr _ _ _ _ => F9)
            (rename News _ _ _ _ => N9)
            refine ⟨_, _, _, _, ys.length, rfl, F9, N9, by simp, sl8, ys, as', ms' ++ [y], pv, ws', us' ++ [.int y ty], n' + 1, k', q' + 1, rfl, rfl, rfl, rfl, I1b, I2, I3.append (.cons y ty .nil), rfl, by simp only [List.length_append, List.length_singleton]; omega, l2, ?_, ?_⟩
            · rw [← c1, List.reverse_append, List.reverse_singleton, List.singleton_append, uldGo, if_neg hx, List.append_assoc]; rfl
            · rw [← c2, List.reverse_append, List.reverse_singleton, List.singleton_append, uldGo, if_neg hx]
end Mine

-- P4
namespace Mine
open PySem PySem.W PyProof.Rows PySem.Calls
set_option maxRecDepth 100000
set_option maxHeartbeats 1000000
theorem offP4 : True := by (w_top off; trivial)
/-- a new exception, its context told -/
structure NewExcC (h h' : Heap) (e : Addr) (X : String) (c0 : Value) : Prop where
  keeps : ∀ b o, h.get? b = some o → h'.get? b = some o
  new : h.get? e = none
  there : ∃ ob vs, h'.get? e = some ob ∧ ob.cls = .type X ∧ ob.data = .fields vs ∧ vs[1]? = some .none ∧ vs[2]? = some c0
theorem NewExcC.of {h h' : Heap} {e : Addr} {X : String} (x : Heap.NewExc h h' e X) : NewExcC h h' e X .none :=
  ⟨x.keeps, x.new, by obtain ⟨ob, t, he, hc, hd⟩ := x.there; exact ⟨ob, _, he, hc, hd, rfl, rfl⟩⟩
/-- an exception and the head of its traceback, as they lie -/
def ExcL (X : String) (c0 fl : Value) (oe : Obj) (T : Addr) (oT : Obj) : Prop :=
  ∃ vs ts, oe.cls = .type X ∧ oe.data = .fields vs ∧ vs[1]? = some (.ref T) ∧ vs[2]? = some c0 ∧ oT.data = .fields ts ∧ ts[3]? = some fl

section
variable {M : Model} {A : Around} {E : Value → Shared → Prop} {s : Shared} {base h : Heap} {L L' e T : Addr} {m : Str → Option Value} {oL oe oT : Obj} {X : String} {c0 fl : Value} {new all rest : List (Addr × Obj)} {env env2 : Env} {Q : Unit → Shared → Prop}

theorem note_new (hfr : A.frames = some [env, env2]) (hf : env.frame = some L') (hk : env.scope.kind ≠ .module) (hf2 : env2.frame = some L) (hk2 : env2.scope.kind ≠ .module)
    (F : Fr base L' h m) (N : News base L' h (new ++ [(L, oL)])) (hd : ∃ es ep, oL.data = .dict es ep) (hne : ∀ p ∈ new, p.1 ≠ L) (hx : NewExcC h s.heap e X c0)
    (k : ∀ h' sl T oe oT, Fr base L' h' m → News base L' h' ((e, oe) :: (T, oT) :: (new ++ [(L, { oL with slots := sl })])) → (∀ p ∈ new ++ [(L, ({ oL with slots := sl } : Obj))], p.1 ≠ T ∧ p.1 ≠ e) → e ≠ T → ExcL X c0 (rawInt L') oe T oT → Q () { s with heap := h' }) :
    wpAny M A (noteFrame (.ref e) env) Q E s := by
  obtain ⟨ob, vs, he, hcls, hdv, h1, h2⟩ := hx.there
  obtain ⟨oL', es, ep, hL', hLd', hLk', hLf'⟩ := F.ns
  obtain ⟨es2, ep2, hd2⟩ := hd
  have hLm := N (L, oL) (List.mem_append_right _ (.head _))
  have hsz : 1 < vs.size := (Array.getElem?_eq_some_iff.mp h1).1
  have hLe : L ≠ e := fun q => by have z := hx.new; rw [← q, hLm.1] at z; cases z
  have hLe' : L' ≠ e := fun q => by have z := hx.new; rw [← q, hL'] at z; cases z
  have hff : s.heap.FunFrames base [env, env2] :=
    ⟨hk, ⟨L', oL', hf, Heap.get?_none_of_le F.above, hx.keeps _ _ hL', fun vs q => by rw [hLd'] at q; cases q⟩, hk2, ⟨L, oL, hf2, hLm.2.2, hx.keeps _ _ hLm.1, fun vs q => by rw [hd2] at q; cases q⟩, trivial⟩
  unfold noteFrame
  simp only [hf]
  refine wpAny_bind (wpAny_field he hdv h1 ?_)
  rw [if_neg (by decide)]
  refine wpAny_bind (wpAny_frameOf_fun hfr hff hf fun h₁ hs₁ => ?_)
  have hmem : ∀ b, b ∈ ([env, env2].filterMap (·.frame)) → b = L' ∨ b = L := by
    intro b hb
    simp only [List.filterMap_cons, hf, hf2, List.filterMap_nil, List.mem_cons, List.not_mem_nil, or_false] at hb
    exact hb
  refine wpAny_bind (wpAny_entryPlaceOf fun pl hpl => ?_)
  unfold EntryCells.newEntry newFields
  refine wpAny_bind (wpAny_newObj_type ?_ (hpl.sizeOk5 _ _ _ _ _))
  have other₁ : ∀ b o, b ≠ L' → b ≠ L → s.heap.get? b = some o → h₁.get? b = some o := fun b o n1 n2 eb => (hs₁.2.1 b fun hm => (hmem b hm).elim n1 n2).trans eb
  have he₁ : h₁.get? e = some ob := other₁ e ob (Ne.symm hLe') (Ne.symm hLe) he
  have he₂ := Heap.get?_push_of_some (h := h₁) { cls := .type "traceback", dict := none, data := .fields ([Value.none, .ref L', .none, rawInt L', .none] ++ (if pl.isEmpty then List.replicate 6 Value.none else pl)).toArray } he₁
  refine wpAny_setField he₂ hdv hsz ?_
  have hTe : h₁.objs.size ≠ e := Nat.ne_of_gt (Heap.lt_size he₁)
  obtain ⟨sl', hsl'⟩ := hs₁.2.2 L' oL' (hx.keeps _ _ hL')
  obtain ⟨sl, hsl⟩ := hs₁.2.2 L oL (hx.keeps _ _ hLm.1)
  have fin : ∀ b o, b ≠ e → h₁.get? b = some o → ((h₁.push { cls := .type "traceback", dict := none, data := .fields ([Value.none, .ref L', .none, rawInt L', .none] ++ (if pl.isEmpty then List.replicate 6 Value.none else pl)).toArray }).update e (Obj.mapFields (·.setIfInBounds 1 (Value.ref h₁.objs.size)))).get? b = some o := fun b o n eb => by
    rw [Heap.get?_update_ne _ _ _ _ n]
    exact Heap.get?_push_of_some _ eb
  have hT := (Heap.get?_update_ne (h₁.push { cls := .type "traceback", dict := none, data := .fields ([Value.none, .ref L', .none, rawInt L', .none] ++ (if pl.isEmpty then List.replicate 6 Value.none else pl)).toArray }) h₁.objs.size e (Obj.mapFields (·.setIfInBounds 1 (Value.ref h₁.objs.size))) hTe).trans (Heap.get?_push_size h₁ rfl)
  have hee := Heap.get?_update_self (Obj.mapFields (·.setIfInBounds 1 (Value.ref h₁.objs.size))) he₂ (Obj.isFreed_of_fields (Obj.data_mapFields hdv _))
  have hlt : ∀ b o, h₁.get? b = some o → b ≠ h₁.objs.size := fun b o eb => Nat.ne_of_lt (Heap.lt_size eb)
  have fresh0 : base.get? e = none := by
    cases q : base.get? e with
    | none => rfl
    | some o => have := F.keep _ _ q; rw [hx.new] at this; cases this
  have baseNe : ∀ b o, base.get? b = some o → b ≠ L' ∧ b ≠ L ∧ b ≠ e := fun b o eb =>
    ⟨fun q => (by rw [q, Heap.get?_none_of_le F.above] at eb; cases eb), fun q => (by rw [q, hLm.2.2] at eb; cases eb), fun q => (by rw [q, fresh0] at eb; cases eb)⟩
  have up₁ : ∀ p ∈ new, h₁.get? p.1 = some p.2 := fun p hp =>
    have z := N p (List.mem_append_left _ hp)
    other₁ _ _ z.2.1 (hne p hp) (hx.keeps _ _ z.1)
  have newNe : ∀ p ∈ new, p.1 ≠ e := fun p hp q => by
    have z := (N p (List.mem_append_left _ hp)).1
    rw [q, hx.new] at z; cases z
  dsimp only
  generalize hH : (h₁.push { cls := .type "traceback", dict := none, data := .fields ([Value.none, .ref L', .none, rawInt L', .none] ++ (if pl.isEmpty then List.replicate 6 Value.none else pl)).toArray }).update e (Obj.mapFields (·.setIfInBounds 1 (Value.ref h₁.objs.size))) = H at fin hT hee ⊢
  refine k H sl h₁.objs.size (Obj.mapFields (·.setIfInBounds 1 (Value.ref h₁.objs.size)) ob) { cls := .type "traceback", dict := none, data := .fields ([Value.none, .ref L', .none, rawInt L', .none] ++ (if pl.isEmpty then List.replicate 6 Value.none else pl)).toArray } ⟨⟨_, es, ep, fin _ _ hLe' hsl', hLd', hLk', hLf'⟩, fun b o eb => ?_, F.above⟩ (fun p hp => ?_) (fun p hp => ?_) (Ne.symm hTe) ⟨_, _, (Obj.cls_mapFields _ _).trans hcls, Obj.data_mapFields hdv _, ?_, ?_, rfl, ?_⟩
  · obtain ⟨n1, n2, n3⟩ := baseNe b o eb
    exact fin b o n3 (other₁ b o n1 n2 (hx.keeps _ _ (F.keep b o eb)))
  · rcases List.mem_cons.mp hp with rfl | hp
    · exact ⟨hee, Ne.symm hLe', fresh0⟩
    · rcases List.mem_cons.mp hp with rfl | hp
      · refine ⟨hT, fun q => ?_, ?_⟩
        · exact hlt _ _ hsl' q.symm
        · cases q : base.get? h₁.objs.size with
          | none => rfl
          | some o =>
            obtain ⟨n1, n2, n3⟩ := baseNe _ o q
            exact absurd rfl (hlt _ _ (other₁ _ o n1 n2 (hx.keeps _ _ (F.keep _ o q))))
      · rcases List.mem_append.mp hp with hp | hp
        · have z := N p (List.mem_append_left _ hp)
          exact ⟨fin _ _ (newNe p hp) (up₁ p hp), z.2⟩
        · rw [List.mem_singleton.mp hp]
          exact ⟨fin _ _ hLe hsl, hLm.2⟩
  · rcases List.mem_append.mp hp with hp | hp
    · exact ⟨hlt _ _ (up₁ p hp), newNe p hp⟩
    · rw [List.mem_singleton.mp hp]
      exact ⟨hlt _ _ hsl, hLe⟩
  · simp [hsz]
  · rw [Array.getElem?_setIfInBounds_ne (by decide)]; exact h2
  · first | (simp; done) | (rcases hpl with rfl | ⟨_, _, _, _, _, _, _, rfl⟩ <;> simp)

theorem note_again (N : News base L' s.heap all) (he : (e, oe) ∈ all) (hT : (T, oT) ∈ all) (x : ExcL X c0 (rawInt L') oe T oT) (hf : env.frame = some L') (hQ : Q () s) : wpAny M A (noteFrame (.ref e) env) Q E s := by
  obtain ⟨vs, ts, hc, hd, h1, h2, hdT, h3⟩ := x
  unfold noteFrame
  simp only [hf]
  refine wpAny_bind (wpAny_field (N _ he).1 hd h1 ?_)
  rw [if_pos (show (Value.ref T != Value.none) = true from by simp)]
  refine wpAny_bind (wpAny_field (N _ hT).1 hdT h3 ?_)
  rw [if_pos (show (rawInt L' == rawInt L') = true from by first | (simp; done) | exact beq_self_eq_true _)]
  exact wpAny_pure hQ

theorem set_flight (fr : Option Addr) (F : Fr base L' s.heap m) (N : News base L' s.heap ((e, oe) :: (T, oT) :: rest)) (hr : ∀ p ∈ rest, p.1 ≠ T) (hne : e ≠ T) (x : ExcL X c0 fl oe T oT)
    (k : ∀ h' oT', Fr base L' h' m → News base L' h' ((e, oe) :: (T, oT') :: rest) → ExcL X c0 (fr.elim .none fun f => rawInt f) oe T oT' → Q () { s with heap := h' }) : wpAny M A (setFlight (.ref e) fr) Q E s := by
  obtain ⟨vs, ts, hc, hd, h1, h2, hdT, h3⟩ := x
  have ze := N (e, oe) (.head _)
  have zT := N (T, oT) (.tail _ (.head _))
  have hsz3 : 3 < ts.size := (Array.getElem?_eq_some_iff.mp h3).1
  unfold setFlight
  refine wpAny_bind (wpAny_field ze.1 hd h1 ?_)
  rw [if_pos (show (Value.ref T != Value.none) = true from by simp)]
  have other : ∀ b, b ≠ T → (s.heap.update T (Obj.mapFields (·.setIfInBounds 3 (fr.elim Value.none fun f => rawInt f)))).get? b = s.heap.get? b := fun b hb => Heap.get?_update_ne _ _ _ _ hb
  refine wpAny_setField zT.1 hdT hsz3 (k _ _ ⟨F.ns.at' fun o q => (other _ (Ne.symm zT.2.1)).trans q, fun b o q => (other b (fun z => by rw [z, zT.2.2] at q; cases q)).trans (F.keep b o q), F.above⟩ (fun p hp => ?_)
    ⟨vs, _, hc, hd, h1, h2, Obj.data_mapFields hdT (·.setIfInBounds 3 (fr.elim Value.none fun f => rawInt f)), by simp [hsz3]⟩)
  rcases List.mem_cons.mp hp with rfl | hp
  · exact ⟨(other _ hne).trans ze.1, ze.2⟩
  · rcases List.mem_cons.mp hp with rfl | hp
    · exact ⟨Heap.get?_update_self _ zT.1 (Obj.isFreed_of_fields (Obj.data_mapFields hdT _)), zT.2⟩
    · have z := N p (.tail _ (.tail _ hp))
      exact ⟨(other _ (hr p hp)).trans z.1, z.2⟩

theorem pass_on {α : Type} {what : String} {Q' : α → Shared → Prop} (F : Fr base L' s.heap m) (N : News base L' s.heap ((e, oe) :: (T, oT) :: rest)) (hr : ∀ p ∈ rest, p.1 ≠ T) (hne : e ≠ T) (x : ExcL X c0 fl oe T oT) (hf : env.frame = some L')
    (k : ∀ h' oT', Fr base L' h' m → News base L' h' ((e, oe) :: (T, oT') :: rest) → ExcL X c0 (rawInt L') oe T oT' → E (.ref e) { s with heap := h' }) : wpAny M A (PySem.passOn what (.ref e) env : Sem α) Q' E s := by
  have x' := x
  obtain ⟨vs, ts, hc, hd, h1, h2, hdT, h3⟩ := x'
  unfold PySem.passOn
  refine wpAny_bind (wpAny_field (N _ (.head _)).1 hd h1 ?_)
  rw [if_neg (show ¬ ((Value.ref T == Value.none) = true) from by simp), hf]
  first
    | exact wpAny_bind (wpAny_pure (wpAny_bind (set_flight (some L') F N hr hne x fun h' oT' F' N' x' => wpAny_throw (k h' oT' F' N' x'))))
    | exact wpAny_bind (set_flight (some L') F N hr hne x fun h' oT' F' N' x' => wpAny_throw (k h' oT' F' N' x'))
end

section
variable {prog : Program} {w : World} {A₀ : Around} {E : Value → Shared → Prop} {s : Shared} {base h : Heap} {L L' a e T : Addr} {m : Str → Option Value} {name : Str} {scope : Scope} {cd : Value} {oL oe oT : Obj} {X : String} {c0 fl : Value} {new all rest : List (Addr × Obj)} {env2 : Env}
  {x : Str} {np pos : Pos} {b₀ : Stmt} {suite : List Stmt} {hs : List ExceptHandler} {Q : Flow → Shared → Prop} {p : Program} {loose : List Str} {mean : ExcName → Option Value} {mg mb : Str → Option Value}

/-- the clause that names the exception's class takes it -/
theorem clause_takes (F : Fr base L' s.heap m) (N : News base L' s.heap ((e, oe) :: (T, oT) :: rest)) (hr : ∀ p ∈ rest, p.1 ≠ T) (hne : e ≠ T) (xx : ExcL X c0 fl oe T oT) (TT : Top p loose mean mg mb base)
    (k : ∀ h' oT', Fr base L' h' m → News base L' h' ((e, oe) :: (T, oT') :: rest) →
      wpAny (model prog w) ((A₀.deeper (envOf name scope L' a cd)).mark (some (.ref e))) (execs (b₀ :: suite) (envOf name scope L' a cd)) Q E { s with heap := h' })
    (t1 : x ∉ startupNames := by decide +kernel) (t2 : x ∉ loose := by decide +kernel) (t3 : x ∉ (recsOf p).map (·.name) := by decide +kernel) (t4 : x ∉ (litsOf p).map (·.1) := by decide +kernel) (t5 : x ∉ (clssOf p loose).map (·.name) := by decide +kernel)
    (h3 : subB X (.type x.toString) = some true := by decide +kernel) (hv : bootBuiltins x = some (.type x.toString) := by decide +kernel) (h1 : subB x.toString (.type "BaseException") = some true := by decide +kernel)
    (h2 : subB ((Manifest.find? x.toString).elim "type" fun y => y.metatype) (.type "tuple") = some false := by decide +kernel) (hn : x ≠ "__name__" := by decide)
    (hk : scope.kind = .function := by rfl) (hxk : (envOf name scope L' a cd).kindOf x = some .globalImplicit := by rfl) (hdb : (x == ("__debug__" : Str)) = false := by decide)
    (hE : PassesOwnAt (model prog w) ((A₀.deeper (envOf name scope L' a cd)).mark (some (.ref e))) (A₀.deeper (envOf name scope L' a cd)) (envOf name scope L' a cd) E := by passes_own) :
    wpAny (model prog w) (A₀.deeper (envOf name scope L' a cd)) (handleBy (.ref e) (envOf name scope L' a cd) (.ExceptHandler (some (.Name x np)) none (b₀ :: suite) pos :: hs)) Q E s := by
  have hcls : ∃ ob, s.heap.get? e = some ob ∧ ob.cls = .type X := by
    obtain ⟨vs, ts, hc, _⟩ := xx
    exact ⟨oe, (N _ (.head _)).1, hc⟩
  refine wpAny_handleBy_builtin (X := X) (T := x.toString) (b := true) (isSubtype_of_subB h1) (isSubtype_of_subB h2) (isSubtype_of_subB h3) (wpAny_passesOwnAt hE (PyProof.Rows.TT.class_top F TT t1 t2 t3 t4 t5 hv ⟨rfl, hcls, ?_⟩ hn hk hxk hdb))
  rw [if_pos rfl]
  exact set_flight none F N hr hne xx fun h' oT' F' N' _ => wpAny_passesOwnAt hE (k h' oT' F' N')

end

section
variable {prog : Program} {w : World} {A : Around} {E : Value → Shared → Prop} {s : Shared}

theorem plain_unchain : plainId "proto.unchain" = true := by decide +kernel
theorem entry_unchain : entryFor table "proto.unchain" = some Builtin.«proto.unchain» := entryFor_of_fast (by kernel_rfl)

/-- raising while an exception is being handled whose own context is none -/
theorem raise_handled {α : Type} {X msg : String} {e0 : Addr} {oe0 : Obj} {vs0 : Array Value} {Q : α → Shared → Prop} (hp : PlainExc X) (hA : A.handled = some (.ref e0)) (h0 : s.heap.get? e0 = some oe0) (hd0 : oe0.data = .fields vs0) (hc0 : vs0[2]? = some .none)
    (h : ∀ h' tk e, NewExcC s.heap h' e X (.ref e0) → E (.ref e) { s with heap := h', toks := tk }) :
    wpAny (model prog w) A (raiseErrorWords X msg : Sem α) Q E s := by
  unfold raiseErrorWords
  refine wpAny_bind (wpAny_mkText (wpAny_bind ?_))
  unfold newExc newTuple
  refine wpAny_bind (wpAny_newObj_type ?_)
  refine wpAny_bind (m := firstArgMember _ _) (wpAny_of_eq (a := Value.none) (by simp only [firstArgMember, hp.first]; rfl) ?_)
  rw [hp.own]
  refine wpAny_newObj_type ?_
  unfold raiseNew
  refine wpAny_bind (wpAny_handled ?_)
  rw [hA]
  have hlt := Heap.lt_size h0
  dsimp only
  have hsz : (s.heap.push { cls := Value.type "tuple", data := Data.seq #[Value.str (Str.ofString msg) s.toks] }).objs.size = s.heap.objs.size + 1 := Heap.size_push ..
  have hne : (Value.ref e0 != Value.ref (s.heap.push { cls := Value.type "tuple", data := Data.seq #[Value.str (Str.ofString msg) s.toks] }).objs.size) = true := by
    rw [hsz]
    simp only [bne_iff_ne, ne_eq, Value.ref.injEq]
    exact Nat.ne_of_lt (Nat.lt_succ_of_lt hlt)
  rw [if_pos hne]
  refine wpAny_bind (wpAny_holding (wpAny_runValue (codeAny_builtin entry_unchain ?_)))
  rw [Around.under_plainId plain_unchain _]
  unfold Builtin.«proto.unchain»
  dsimp only
  refine wpAny_bind (wpAny_field (Heap.get?_push_of_some _ (Heap.get?_push_of_some _ h0)) hd0 hc0 ?_)
  rw [if_pos (by rfl)]
  refine wpAny_pure ?_
  dsimp only
  generalize hob : ({ cls := Value.type X, dict := _, data := _ } : Obj) = ob
  have hcl : ob.cls = .type X := by rw [← hob]
  have hod : ob.data = .fields #[.ref s.heap.objs.size, .none, .none, .none, .bool false, .none] := by rw [← hob]; simp
  generalize hp1 : s.heap.push { cls := Value.type "tuple", data := Data.seq #[Value.str (Str.ofString msg) s.toks] } = H1
  have hup : ∀ b o, s.heap.get? b = some o → (H1.push ob).get? b = some o := fun b o q => Heap.get?_push_of_some _ (hp1 ▸ Heap.get?_push_of_some _ q)
  have hnew : s.heap.get? H1.objs.size = none := Heap.get?_none_of_le (by rw [← hp1, hsz]; exact Nat.le_succ _)
  have hget : (H1.push ob).get? H1.objs.size = some ob := Heap.get?_push_size _ (Obj.isFreed_of_fields hod)
  refine wpAny_bind ?_
  show wpAny _ _ (setField (.ref H1.objs.size) 2 (.ref e0)) _ _ _
  refine wpAny_setField hget hod (by show 2 < 6; decide) (wpAny_throw (h _ _ _ ⟨fun b o q => ?_, hnew, ?_⟩))
  · exact (Heap.get?_update_ne _ _ _ _ (fun z => by rw [z, hnew] at q; cases q)).trans (hup b o q)
  · exact ⟨_, _, Heap.get?_update_self _ hget (Obj.isFreed_of_fields (Obj.data_mapFields hod _)), (Obj.cls_mapFields _ _).trans hcl, Obj.data_mapFields hod _, rfl, rfl⟩

/-- an item at the list's end: while another exception is being handled -/
theorem item_out_handled {value slice : Expr} {l : Addr} {items : Array Value} {k : Int} {u : Tok} {e0 : Addr} {oe0 : Obj} {vs0 : Array Value} {Q : Value → Shared → Prop} (hA : A.handled = some (.ref e0)) (h0 : s.heap.get? e0 = some oe0) (hd0 : oe0.data = .fields vs0) (hc0 : vs0[2]? = some .none)
    (hl : s.heap.IsList l items) (hout : (items.size : Int) ≤ k) (hlo : -(2 ^ 63) ≤ k) (hhi : k < 2 ^ 63)
    (hE : ∀ h' tk e, NewExcC s.heap h' e "IndexError" (.ref e0) → E (.ref e) { s with heap := h', toks := tk })
    (hs : subscripted slice false (.ref l) (.int k u) = operate [.ref l, .int k u] (getItem (.ref l) (.int k u)) := by with_unfolding_all rfl) :
    wpAny (model prog w) A (subscriptTail value slice (.ref l) (.int k u)) Q E s := by
  refine tail_any hl.typeIs slot_list_getitem.lookup ?_ hs
  clear hs
  obtain ⟨o, ho, hc, ne, hd⟩ := id hl
  unfold getItem
  try with_reducible refine wpAny_holding ?_
  first | refine wpAny_bind (wpAny_pure ?_) | skip
  refine wpAny_bind (wpAny_sequenceKey hl.typeIs (by decide) ?_)
  refine wpAny_bind (wpAny_callSpecial?_slot (name := Str.ofString "__getitem__") hl.typeIs slot_list_getitem
    (wpAny_call_entry slot_list_getitem hl.typeIs entry_list_getitem ?_ (args_list_getitem _ _)))
  show wpAny _ _ (Builtin.List.listSubscript? (.int k u) >>= _) _ _ s
  refine wpAny_bind (wpAny_listSubscript_int (fitsIndex_both hlo hhi) ?_)
  clear hlo hhi
  cases k with
  | negSucc j => exact absurd hout (by have := Int.negSucc_lt_zero j; omega)
  | ofNat j =>
    have hx : items[j]? = none := Array.getElem?_eq_none (by have : (items.size : Int) ≤ (j : Int) := hout; omega)
    show wpAny _ _ ((seqItemAt l j >>= fun r => pure (r.map (j, ·))) >>= _) _ _ s
    refine wpAny_bind (wpAny_bind (wpAny_seqItemAt ho hd (wpAny_pure ?_)))
    rw [hx]
    first
      | exact wpAny_bind (wpAny_rule (raise_handled plainExc_IndexError hA h0 hd0 hc0 hE))
      | exact wpAny_bind (wpAny_rule (wpAny_bind (raise_handled plainExc_IndexError hA h0 hd0 hc0 hE)))
      | exact wpAny_bind (wpAny_bind (wpAny_rule (raise_handled plainExc_IndexError hA h0 hd0 hc0 hE)))
      | exact wpAny_rule (raise_handled plainExc_IndexError hA h0 hd0 hc0 hE)
end
end Mine

-- P5
namespace Mine
open PySem PySem.W PyProof.Rows PySem.Calls
set_option maxRecDepth 100000
set_option maxHeartbeats 1000000
theorem offP5 : True := by (w_top off; trivial)
def dw (x : Int) (l : List Int) : List Int := l.dropWhile (· == x)
theorem dw_cons (x y : Int) (l : List Int) : dw x (y :: l) = if y = x then dw x l else y :: l := by
  unfold dw
  rw [List.dropWhile_cons]
  by_cases h : y = x
  · simp [h]
  · simp [h]
section
variable {prog : Program} {w : World} {A : Around} {E : Value → Shared → Prop} {s : Shared} {base : Heap} {L' a l : Addr} {m : Str → Option Value} {name : Str} {scope : Scope} {cd : Value} {all : List (Addr × Obj)} {Q : Flow → Shared → Prop}
  {ln ix en : Str} {p1 p2 p3 p4 p5 p6 p7 p8 pos : Pos} {kk : Nat} {vs : List Value} {es : List Int} {n : Nat} {x i : Int} {tx ti : Tok}
theorem skip_loop {Rz : Heap → Heap → Addr → Prop} (hk : scope.kind = .function) (hln : (envOf name scope L' a cd).kindOf ln = some .local) (hix : (envOf name scope L' a cd).kindOf ix = some .local) (hen : (envOf name scope L' a cd).kindOf en = some .local)
    (hd1 : (ln == ("__debug__" : Str)) = false) (hd2 : (ix == ("__debug__" : Str)) = false) (hd3 : (en == ("__debug__" : Str)) = false) (hn1 : ln ≠ ix) (hn2 : en ≠ ix)
    (F : Fr base L' s.heap m) (N : News base L' s.heap all) (hm : (l, listOf vs.toArray n) ∈ all) (hI : IntsAre vs es) (hlen : es.length ≤ 63)
    (m1 : m ln = some (.ref l)) (m2 : m ix = some (.int i ti)) (m3 : m en = some (.int x tx)) (h0 : 0 ≤ i) (h1 : i ≤ es.length)
    (hout : ∀ (s : Shared) (t : Tok) (value slice : Expr) (Q' E' : Value → Shared → Prop), News base L' s.heap all → (∀ h' tk e, Rz s.heap h' e → E' (.ref e) { s with heap := h', toks := tk }) →
      subscripted slice false (.ref l) (.int (es.length : Int) t) = operate [.ref l, .int (es.length : Int) t] (getItem (.ref l) (.int (es.length : Int) t)) → wpAny (model prog w) A (subscriptTail value slice (.ref l) (.int (es.length : Int) t)) Q' E' s)
    (done : ∀ h' tk' i' t', i ≤ i' → i' ≤ es.length → es.drop i'.toNat = dw x (es.drop i.toNat) → Fr base L' h' (fun y => if y = ix then some (.int i' t') else m y) → News base L' h' all → Q .next { s with heap := h', toks := tk' })
    (raised : ∀ h' h₁ tk' t' e, dw x (es.drop i.toNat) = [] → Fr base L' h' (fun y => if y = ix then some (.int es.length t') else m y) → News base L' h' all → Rz h' h₁ e → E (.ref e) { s with heap := h₁, toks := tk' })
    (hE : PassesOwn (model prog w) A (envOf name scope L' a cd) E) :
    wpAny (model prog w) A (exec (.While (.Compare (.Subscript (.Name ln p1) (.Name ix p2) p3) [.Eq] [.Name en p4] p5) [.AugAssign (.Name ix p6) .Add (.Constant (.int 1) kk p7) p8] [] pos) (envOf name scope L' a cd)) Q E s := by
  refine While_inv2 (h₀ := base) (L := L') (n₀ := es.length - i.toNat) (fun j m₁ nx => ∃ i' t', m₁ = (fun y => if y = ix then some (Value.int i' t') else m y) ∧ nx = all ∧ i ≤ i' ∧ i' ≤ es.length ∧ dw x (es.drop i'.toNat) = dw x (es.drop i.toNat) ∧ j = es.length - i'.toNat) F N
    ⟨i, ti, ?_, rfl, Int.le_refl _, h1, rfl, rfl⟩ ?_ hE
  · funext y
    by_cases hy : y = ix
    · rw [if_pos hy, hy, m2]
    · rw [if_neg hy]
  · rintro j m₁ nx h₁ tk₁ F₁ N₁ ⟨i', t', rfl, rfl, l1, l2, c1, rfl⟩
    have hl : h₁.IsList l vs.toArray := ⟨_, (N₁ _ hm).1, rfl, _, rfl⟩
    refine wpAny_isTrue_Compare1 ?_
    refine Subscript_ ?_
    refine ld F₁ (by rw [if_neg hn1]; exact m1) ?_ hk hln hd1
    refine ld F₁ (by rw [if_pos rfl]) ?_ hk hix hd2
    by_cases hlt : i' < es.length
    · have h3 : i'.toNat < es.length := by omega
      obtain ⟨v, hg⟩ : ∃ v, es[i'.toNat]? = some v := ⟨_, List.getElem?_eq_getElem h3⟩
      obtain ⟨tv, hv⟩ := hI.get i'.toNat _ hg
      refine tail_any hl.typeIs slot_list_getitem.lookup (wpAny_getItem_list hl (by omega) (by omega) (by simpa using hv) ?_) (by with_unfolding_all rfl)
      refine ld F₁ (by rw [if_neg hn2]; exact m3) ?_ hk hen hd3
      have hdrop : es.drop i'.toNat = v :: es.drop (i' + 1).toNat := by
        have e1 : (i' + 1).toNat = i'.toNat + 1 := by omega
        obtain ⟨_, he⟩ := List.getElem?_eq_some_iff.mp hg
        rw [List.drop_eq_getElem_cons h3, he, e1]
      refine eq_int ?_
      refine wpAny_truthy_bool ?_
      by_cases hvx : v = x
      · rw [if_pos (by simpa using hvx)]
        refine wpAny_execs_cons (wpAny_AugAssign_Name ?_)
        refine ldn F₁ (by rw [if_pos rfl]) ?_ hk hix
        refine wpAny_Constant_int ?_
        refine iadd_int ?_
        refine stN F₁ N₁ (fun h₂ F₂ N₂ => ?_) hk hix
        refine wpAny_execs_nil ?_
        refine ⟨h₂, _, _, nx, es.length - (i' + 1).toNat, rfl, F₂, N₂, by omega, i' + 1, tk₁ + 1, ?_, rfl, by omega, by omega, ?_, rfl⟩
        · funext y
          by_cases hy : y = ix
          · simp only [hy, if_true]
          · simp only [hy, if_false]
        · rw [← c1, hdrop, dw_cons, if_pos hvx]
      · rw [if_neg (by simpa using hvx)]
        refine done h₁ _ i' t' l1 l2 ?_ F₁ N₁
        rw [← c1, hdrop, dw_cons, if_neg hvx]
    · obtain rfl : i' = es.length := by omega
      refine hout _ _ _ _ _ _ N₁ (fun h' tk e hz => raised h₁ h' tk t' e ?_ F₁ N₁ hz) (by with_unfolding_all rfl)
      rw [← c1]
      simp [dw]
end
end Mine

-- F21
namespace Mine
open PySem PySem.W PyProof.Rows PySem.Calls
set_option maxRecDepth 100000
set_option maxHeartbeats 1000000
theorem offF21 : True := by (w_top off; trivial)
theorem dw_length (x : Int) (l : List Int) : (dw x l).length ≤ l.length := by
  induction l with
  | nil => exact Nat.le_refl _
  | cons y r ih => rw [dw_cons]; split <;> simp only [List.length_cons] <;> omega
/-- the walk side by side: what the first row has alone, what the second -/
def sld : List Int → List Int → List Int × List Int
  | [], ys => ([], ys)
  | x :: xs, [] => (x :: xs, [])
  | x :: xs, y :: ys =>
    if x < y then (x :: (sld (dw x xs) (y :: ys)).1, (sld (dw x xs) (y :: ys)).2)
    else if y < x then ((sld (x :: xs) (dw y ys)).1, y :: (sld (x :: xs) (dw y ys)).2)
    else sld (dw x xs) (dw y ys)
termination_by xs ys => xs.length + ys.length
decreasing_by
  all_goals (simp only [List.length_cons]; first | (have := dw_length x xs; omega) | (have := dw_length y ys; omega) | (have := dw_length x xs; have := dw_length y ys; omega))

theorem sld_nil (ys : List Int) : sld [] ys = ([], ys) := by rw [sld]
theorem sld_nil2 (xs : List Int) : sld xs [] = (xs, []) := by cases xs <;> rw [sld]
theorem sld_cons (x y : Int) (xs ys : List Int) : sld (x :: xs) (y :: ys) =
    if x < y then (x :: (sld (dw x xs) (y :: ys)).1, (sld (dw x xs) (y :: ys)).2)
    else if y < x then ((sld (x :: xs) (dw y ys)).1, y :: (sld (x :: xs) (dw y ys)).2)
    else sld (dw x xs) (dw y ys) := by rw [sld]

theorem call21 {w : World} {mean : ExcName → Option Value} {mg mb : Str → Option Value} {dp un : Nat} {gd : Option (List Code)} {cn : Str} {cs : Scope} {a : Addr} {ccd : Value} {cl : List (Str × Addr)} {base : Heap} {L : Addr} {m : Str → Option Value} {s : Shared} {Q E : Value → Shared → Prop} {news : List (Addr × Obj)}
    {le la : Addr} {vs ws : List Value} {n k : Nat} {es as : List Int}
    (F : Fr base L s.heap m) (X : (hd.heap_39 w.params).In base) (N : News base L s.heap news) (T : Top hd.view_39 (looseW hd.view_39 []) mean mg mb base) (hk : cs.kind = .function)
    (hme : (le, listOf vs.toArray n) ∈ news) (hma : (la, listOf ws.toArray k) ∈ news)
    (hdp : dp + 1 < recursionLimit) (hu : un + 8 < cLine) (hI : IntsAre vs es) (hJ : IntsAre ws as) (hlen : es.length ≤ 63) (hlen2 : as.length ≤ 63)
    (hret : ∀ r lm lu us q ws' k' nt h' tk', Fr base L h' m → News base L h' ((r, ({ cls := .type "tuple", data := .seq #[.ref lm, .ref lu] nt } : Obj)) :: (lm, listOf us.toArray q) :: (lu, listOf ws'.toArray k') :: news) → IntsAre us (sld es as).1 → IntsAre ws' (sld es as).2 → Q (.ref r) { s with heap := h', toks := tk' })
    : wpAny (model PySem.Challenge.rw_xb0010_01.row.prog w) (ktrTop dp un gd cn cs L a ccd cl []) (call (.ref 21) [.ref le, .ref la]) Q E s := by
  revert X; k_fill; intro X
  refine call_def (by k_asm) (by k_asm) (by k_asm) (by k_asm) (by ktr_room) (by k_dflt k_is) (by k_dflt k_is) (by exact BindsTo.of_eq rfl) (locs rfl) (fun oL L' h₁ C hLL hneL F1 N1 => ?_)
  (try dsimp only)
  iterate 12 walk1
  (rename Fr _ _ _ _ => F1)
  (rename News _ _ _ _ => N1)
  refine newList_K F1 N1 (fun lm h2 F2 N2 hlm => ?_)
  iterate 6 walk1
  (rename Fr _ _ _ _ => F3)
  (rename News _ _ _ _ => N3)
  (try clear N2); (try clear F2); (try clear N1); (try clear F1)
  refine newList_K F3 N3 (fun lu h4 F4 N4 hlu => ?_)
  iterate 3 walk1
  (rename Fr _ _ _ _ => F5)
  (rename News _ _ _ _ => N5)
  (try clear N4); (try clear F4); (try clear N3); (try clear F3)
  have hm1 : lu ≠ lm := Nat.ne_of_gt (hlu (lm, listOf #[] 0) (.head _))
  have hm2 : ∀ p ∈ news, p.1 ≠ lm := fun p hp => Nat.ne_of_lt (hlm p (.tail _ hp))
  have hm3 : ∀ p ∈ news, p.1 ≠ lu := fun p hp => Nat.ne_of_lt (hlu p (.tail _ (.tail _ hp)))
  have hm4 : L ≠ lm := Nat.ne_of_lt (hlm (L, oL) (.head _))
  have hm5 : L ≠ lu := Nat.ne_of_lt (hlu (L, oL) (.tail _ (.head _)))
  refine While_inv2 (h₀ := base) (L := L') (n₀ := es.length + as.length) (news := (lm, listOf (List.toArray []) 0) :: (lu, listOf (List.toArray []) 0) :: (news ++ [(L, oL)]))
    (fun r m₁ nx => ∃ (sl : Array (Option Value)) (i j : Nat) (ti tj : Tok) (ms us : List Int) (vm vu : List Value) (q q' : Nat), m₁ (Str.ofString "expected") = some (.ref le) ∧ m₁ (Str.ofString "actual") = some (.ref la) ∧ m₁ (Str.ofString "i") = some (.int (i : Int) ti) ∧ m₁ (Str.ofString "j") = some (.int (j : Int) tj) ∧ m₁ (Str.ofString "missing") = some (.ref lm) ∧ m₁ (Str.ofString "unexpected") = some (.ref lu) ∧
      nx = (lm, listOf vm.toArray q) :: (lu, listOf vu.toArray q') :: (news ++ [(L, { oL with slots := sl })]) ∧ IntsAre vm ms ∧ IntsAre vu us ∧ i ≤ es.length ∧ j ≤ as.length ∧ r = (es.length - i) + (as.length - j) ∧ ms.length + (es.length - i) ≤ 63 ∧ us.length + (as.length - j) ≤ 63 ∧
      ms ++ (sld (es.drop i) (as.drop j)).1 = (sld es as).1 ∧ us ++ (sld (es.drop i) (as.drop j)).2 = (sld es as).2) F5 ?_ ?_ ?_
  · intro p hp
    refine N5 p ?_
    simp only [List.mem_cons, List.mem_append, List.not_mem_nil, or_false] at hp ⊢
    rcases hp with rfl | rfl | hp | rfl <;> simp_all
  · exact ⟨oL.slots, 0, 0, _, _, [], [], [], [], 0, 0, rfl, rfl, rfl, rfl, rfl, rfl, rfl, .nil, .nil, Nat.zero_le _, Nat.zero_le _, rfl, by simpa using hlen, by simpa using hlen2, rfl, rfl⟩
  · rintro r m₁ nx h3 tk3 F4 N4 ⟨sl, i, j, ti, tj, ms, us, vm, vu, q, q', e1, e2, e3, e4, e5, e6, rfl, I1, I2, l1, l2, rfl, l3, l4, c1, c2⟩
    replace F4 := pin6 F4 e1 e2 e3 e4 e5 e6
    clear F5 N5
    have hne1 : ∀ p ∈ news ++ [(L, ({ oL with slots := sl } : Obj))], p.1 ≠ lm := by
      intro p hp
      rcases List.mem_append.mp hp with hp | hp
      · exact hm2 p hp
      · rw [List.mem_singleton.mp hp]; exact hm4
    have hne2 : ∀ p ∈ news ++ [(L, ({ oL with slots := sl } : Obj))], p.1 ≠ lu := by
      intro p hp
      rcases List.mem_append.mp hp with hp | hp
      · exact hm3 p hp
      · rw [List.mem_singleton.mp hp]; exact hm5
    iterate 6 walk1
    k_fold
    (rename (Value → Shared → Prop) => E1)
    obtain ⟨K, M1, A1, env1, env2, Eo, hek, hfr, hf, hkm, hf2, hkm2, main⟩ : ∃ (K : Value → Shared → Prop) (M1 : Model) (A1 : Around) (env1 env2 : Env) (Eo : Value → Shared → Prop), (∀ e s', E1 e s' = wpAny M1 A1 (noteFrame e env1) (fun _ s₂ => K e s₂) Eo s') ∧
        A1.frames = some [env1, env2] ∧ env1.frame = some L' ∧ env1.scope.kind ≠ .module ∧ env2.frame = some L ∧ env2.scope.kind ≠ .module ∧
        (∀ (m' : Str → Option Value) (h₂ : Heap) tk e oe T' oT sl (i j : Nat) ti tj ms us vm vu q q' c0, m' (Str.ofString "expected") = some (.ref le) → m' (Str.ofString "actual") = some (.ref la) → m' (Str.ofString "i") = some (.int (i : Int) ti) → m' (Str.ofString "j") = some (.int (j : Int) tj) → m' (Str.ofString "missing") = some (.ref lm) → m' (Str.ofString "unexpected") = some (.ref lu) →
          Fr base L' h₂ m' → News base L' h₂ ((e, oe) :: (T', oT) :: (lm, listOf (List.toArray vm) q) :: (lu, listOf (List.toArray vu) q') :: (news ++ [(L, { oL with slots := sl })])) → (∀ p ∈ (lm, listOf (List.toArray vm) q) :: (lu, listOf (List.toArray vu) q') :: (news ++ [(L, ({ oL with slots := sl } : Obj))]), p.1 ≠ T') → e ≠ T' → ExcL "IndexError" c0 (rawInt L') oe T' oT →
          IntsAre vm ms → IntsAre vu us → i ≤ es.length → j ≤ as.length → ms.length + (es.length - i) ≤ 63 → us.length + (as.length - j) ≤ 63 → ms ++ es.drop i = (sld es as).1 → us ++ as.drop j = (sld es as).2 → K (.ref e) { s with heap := h₂, toks := tk }) := by
      refine ⟨_, _, _, _, _, _, fun e s' => rfl, by rfl, rfl, by show ScopeKind.function ≠ _; decide, by rfl, by show cs.kind ≠ .module; rw [hk]; decide, ?_⟩
      clear F4 N4 e1 e2 e3 e4 e5 e6 I1 I2 l1 l2 l3 l4 c1 c2 hne1 hne2
      intro m' h₂ tk e oe T' oT sl i j ti tj ms us vm vu q q' c0 e1 e2 e3 e4 e5 e6 F4 N4 hr hne x I1 I2 l1 l2 l3 l4 c1 c2
      have hne1 : ∀ p ∈ news ++ [(L, ({ oL with slots := sl } : Obj))], p.1 ≠ lm := by
        intro p hp
        rcases List.mem_append.mp hp with hp | hp
        · exact hm2 p hp
        · rw [List.mem_singleton.mp hp]; exact hm4
      have hne2 : ∀ p ∈ news ++ [(L, ({ oL with slots := sl } : Obj))], p.1 ≠ lu := by
        intro p hp
        rcases List.mem_append.mp hp with hp | hp
        · exact hm3 p hp
        · rw [List.mem_singleton.mp hp]; exact hm5
      refine set_flight none F4 N4 hr hne x fun h' oT' F' N' x' => ?_
      refine clause_takes F' N' hr hne x' T (fun h'' oT'' F'' N'' => ?_)
      replace F'' := pin6 F'' e1 e2 e3 e4 e5 e6
      replace N'' : News base L' h'' ((lm, listOf (List.toArray vm) q) :: (lu, listOf (List.toArray vu) q') :: (news ++ [(L, { oL with slots := sl })])) := fun p hp => N'' p (.tail _ (.tail _ hp))
      have hme1 : (le, listOf vs.toArray n) ∈ (lm, listOf (List.toArray vm) q) :: (lu, listOf (List.toArray vu) q') :: (news ++ [(L, ({ oL with slots := sl } : Obj))]) := .tail _ (.tail _ (List.mem_append_left _ hme))
      clear F4 N4 F' N' x x' hr hne c0 e1 e2 e3 e4 e5 e6
      iterate 14 walk1
      have hsz1 : vs.toArray.size ≤ sizeLine := by rw [sizeLine_eq, List.size_toArray, hI.length]; omega
      have hsz2 : ws.toArray.size ≤ sizeLine := by rw [sizeLine_eq, List.size_toArray, hJ.length]; omega
      have hle := Nat.ne_of_gt (Nat.lt_succ_of_lt (Heap.lt_size (N'' _ (.head _)).1))
      refine slice_list F'' N'' ⟨_, (N'' _ hme1).1, rfl, _, rfl⟩ (.int _ _) .none (fun h5 F5 N5 => ?_) (hsz := hsz1)
      walk1
      have J1 : IntsAre (slicePick vs.toArray (some (i : Int)) none none).toList (es.drop i) := by simpa using slice_ints_fromW hI (x := (i : Int)) (Int.natCast_nonneg i)
      have J2 : IntsAre (slicePick ws.toArray (some (j : Int)) none none).toList (as.drop j) := by simpa using slice_ints_fromW hJ (x := (j : Int)) (Int.natCast_nonneg j)
      have z1 := J1.length
      have z2 := J2.length
      have z3 := I1.length
      have z4 := I2.length
      simp only [List.length_drop, Array.length_toList] at z1 z2
      refine extend_in (own := [_]) F5 N5 (fun p hp => by rw [List.mem_singleton.mp hp]; exact hle) (List.forall_mem_cons.mpr ⟨hm1, hne1⟩) (N5 _ (.head _)).1 (fun h6 n6 F6 N6 => ?_) (hsz := by rw [sizeLine_eq]; omega)
      replace N6 : News base L' h6 ((lm, listOf (vm ++ (slicePick vs.toArray (some (i : Int)) none none).toList).toArray n6) :: (lu, listOf (List.toArray vu) q') :: (news ++ [(L, { oL with slots := sl })])) := fun p hp => N6 p (.tail _ hp)
      clear F5 N5 F'' N''
      have hme2 : (la, listOf ws.toArray k) ∈ (lm, listOf (vm ++ (slicePick vs.toArray (some (i : Int)) none none).toList).toArray n6) :: (lu, listOf (List.toArray vu) q') :: (news ++ [(L, ({ oL with slots := sl } : Obj))]) := .tail _ (.tail _ (List.mem_append_left _ hma))
      have hle := Nat.ne_of_gt (Nat.lt_succ_of_lt (Heap.lt_size (N6 _ (.tail _ (.head _))).1))
      iterate 14 walk1
      (rename Fr _ _ _ _ => F7)
      refine slice_list F7 N6 ⟨_, (N6 _ hme2).1, rfl, _, rfl⟩ (.int _ _) .none (fun h8 F8 N8 => ?_) (hsz := hsz2)
      clear F7 N6
      walk1
      refine extend_in (own := [_, _]) F8 N8 (fun p hp => ?_) hne2 (N8 _ (.head _)).1 (fun h9 n9 F9 N9 => ?_) (hsz := by rw [sizeLine_eq]; omega)
      · simp only [List.mem_cons, List.not_mem_nil, or_false] at hp
        rcases hp with rfl | rfl
        · exact hle
        · exact Ne.symm hm1
      clear F8 N8
      replace N9 : News base L' h9 ((lm, listOf (vm ++ (slicePick vs.toArray (some (i : Int)) none none).toList).toArray n6) :: (lu, listOf (vu ++ (slicePick ws.toArray (some (j : Int)) none none).toList).toArray n9) :: (news ++ [(L, { oL with slots := sl })])) := fun p hp => N9 p (.tail _ hp)
      iterate 2 walk1
      dsimp only [WhileStep2]
      k_steps
      (rename Fr _ _ _ _ => F10)
      (rename News _ _ _ _ => N10)
      (rename Addr => D9)
      obtain ⟨F11, N11⟩ := back (sl := sl) C F10 (news := (D9, ({ cls := .type "tuple", data := .seq #[.ref lm, .ref lu] 0 } : Obj)) :: (lm, listOf (vm ++ (slicePick vs.toArray (some (i : Int)) none none).toList).toArray n6) :: (lu, listOf (vu ++ (slicePick ws.toArray (some (j : Int)) none none).toList).toArray n9) :: news) (fun p hp => N10 p (by simp only [List.mem_cons, List.mem_append, List.not_mem_nil, or_false] at hp ⊢; rcases hp with rfl | rfl | rfl | rfl | hp <;> simp_all)) (fun p hp => by
        simp only [List.mem_cons] at hp
        rcases hp with rfl | rfl | rfl | hp
        · exact ne_frame (sl := sl) N10 (by simp) C.dict (.head _) rfl
        · exact Ne.symm hm4
        · exact Ne.symm hm5
        · exact hneL p hp)
      exact hret _ _ _ _ _ _ _ _ _ _ F11 N11 (c1 ▸ I1.append J1) (c2 ▸ I2.append J2)
    have raiseN : ∀ (m' : Str → Option Value) (h₁ h₂ : Heap) tk e sl (i j : Nat) ti tj ms us vm vu q q' c0, m' (Str.ofString "expected") = some (.ref le) → m' (Str.ofString "actual") = some (.ref la) → m' (Str.ofString "i") = some (.int (i : Int) ti) → m' (Str.ofString "j") = some (.int (j : Int) tj) → m' (Str.ofString "missing") = some (.ref lm) → m' (Str.ofString "unexpected") = some (.ref lu) →
          Fr base L' h₁ m' → News base L' h₁ ((lm, listOf (List.toArray vm) q) :: (lu, listOf (List.toArray vu) q') :: (news ++ [(L, { oL with slots := sl })])) → NewExcC h₁ h₂ e "IndexError" c0 →
          IntsAre vm ms → IntsAre vu us → i ≤ es.length → j ≤ as.length → ms.length + (es.length - i) ≤ 63 → us.length + (as.length - j) ≤ 63 → ms ++ es.drop i = (sld es as).1 → us ++ as.drop j = (sld es as).2 → E1 (.ref e) { s with heap := h₂, toks := tk } := by
      intro m' h₁ h₂ tk e sl i j ti tj ms us vm vu q q' c0 e1 e2 e3 e4 e5 e6 F' N' hx I1 I2 l1 l2 l3 l4 c1 c2
      rw [hek]
      obtain ⟨ds, dp, hd⟩ := C.dict
      refine note_new (new := (lm, listOf (List.toArray vm) q) :: (lu, listOf (List.toArray vu) q') :: news) hfr hf hkm hf2 hkm2 F' N' ⟨ds, dp, hd⟩ (fun p hp => ?_) hx (fun h' sl' T' oe oT F'' N'' hr hne x => main m' h' tk e oe T' oT sl' i j ti tj ms us vm vu q q' c0 e1 e2 e3 e4 e5 e6 F'' N'' (fun p hp => (hr p hp).1) hne x I1 I2 l1 l2 l3 l4 c1 c2)
      simp only [List.mem_cons] at hp
      rcases hp with rfl | rfl | hp
      · exact Ne.symm hm4
      · exact Ne.symm hm5
      · exact hneL p hp
    have raiseH : ∀ (m' : Str → Option Value) (h₂ : Heap) tk e oe T' oT sl (i j : Nat) ti tj ms us vm vu q q' c0, m' (Str.ofString "expected") = some (.ref le) → m' (Str.ofString "actual") = some (.ref la) → m' (Str.ofString "i") = some (.int (i : Int) ti) → m' (Str.ofString "j") = some (.int (j : Int) tj) → m' (Str.ofString "missing") = some (.ref lm) → m' (Str.ofString "unexpected") = some (.ref lu) →
          Fr base L' h₂ m' → News base L' h₂ ((e, oe) :: (T', oT) :: (lm, listOf (List.toArray vm) q) :: (lu, listOf (List.toArray vu) q') :: (news ++ [(L, { oL with slots := sl })])) → (∀ p ∈ (lm, listOf (List.toArray vm) q) :: (lu, listOf (List.toArray vu) q') :: (news ++ [(L, ({ oL with slots := sl } : Obj))]), p.1 ≠ T') → e ≠ T' → ExcL "IndexError" c0 (rawInt L') oe T' oT →
          IntsAre vm ms → IntsAre vu us → i ≤ es.length → j ≤ as.length → ms.length + (es.length - i) ≤ 63 → us.length + (as.length - j) ≤ 63 → ms ++ es.drop i = (sld es as).1 → us ++ as.drop j = (sld es as).2 → E1 (.ref e) { s with heap := h₂, toks := tk } := by
      intro m' h₂ tk e oe T' oT sl i j ti tj ms us vm vu q q' c0 e1 e2 e3 e4 e5 e6 F' N' hr hne x I1 I2 l1 l2 l3 l4 c1 c2
      rw [hek]
      exact note_again N' (.head _) (.tail _ (.head _)) x hf (main m' h₂ tk e oe T' oT sl i j ti tj ms us vm vu q q' c0 e1 e2 e3 e4 e5 e6 F' N' hr hne x I1 I2 l1 l2 l3 l4 c1 c2)
    clear main
    have hme1 : (le, listOf vs.toArray n) ∈ ((lm, listOf (List.toArray vm) q) :: (lu, listOf (List.toArray vu) q') :: (news ++ [(L, ({ oL with slots := sl } : Obj))])) := .tail _ (.tail _ (List.mem_append_left _ hme))
    have hma1 : (la, listOf ws.toArray k) ∈ ((lm, listOf (List.toArray vm) q) :: (lu, listOf (List.toArray vu) q') :: (news ++ [(L, ({ oL with slots := sl } : Obj))])) := .tail _ (.tail _ (List.mem_append_left _ hma))
    iterate 5 walk1
    by_cases hi : es.length ≤ i
    · have hil : i = es.length := by omega
      have hd : es.drop i = [] := by rw [hil, List.drop_length]
      refine item_outK (by rfl) ⟨_, (N4 _ hme1).1, rfl, _, rfl⟩ (.inr (by rw [List.size_toArray, hI.length]; omega)) (by omega) (by omega) (fun h' tk e hx => ?_)
      refine raiseN _ _ h' tk e sl i j ti tj ms us vm vu q q' .none (by rfl) (by rfl) (by rfl) (by rfl) (by rfl) (by rfl) F4 N4 (.of hx) I1 I2 l1 l2 l3 l4 ?_ ?_
      · rw [← c1, hd, sld_nil]
      · rw [← c2, hd, sld_nil]
    replace hi : i < es.length := by omega
    obtain ⟨x, hx⟩ : ∃ v, es[i]? = some v := ⟨_, List.getElem?_eq_getElem hi⟩
    obtain ⟨tx, hvx⟩ := hI.get i _ hx
    have hdx : es.drop i = x :: es.drop (i + 1) := by
      obtain ⟨_, he⟩ := List.getElem?_eq_some_iff.mp hx
      rw [List.drop_eq_getElem_cons hi, he]
    have hlx : h3.IsList le vs.toArray := ⟨_, (N4 _ hme1).1, rfl, _, rfl⟩
    refine tail_any hlx.typeIs slot_list_getitem.lookup (wpAny_getItem_list hlx (by omega) (by omega) (by simpa using hvx) ?_) (by with_unfolding_all rfl)
    iterate 6 walk1
    (rename Fr _ _ _ _ => F5)
    (rename News _ _ _ _ => N5)
    (try clear F4); (try clear N4)
    by_cases hj : as.length ≤ j
    · have hjl : j = as.length := by omega
      have hd : as.drop j = [] := by rw [hjl, List.drop_length]
      refine item_outK (by rfl) ⟨_, (N5 _ hma1).1, rfl, _, rfl⟩ (.inr (by rw [List.size_toArray, hJ.length]; omega)) (by omega) (by omega) (fun h' tk e hx => ?_)
      refine raiseN _ _ h' tk e sl i j ti tj ms us vm vu q q' .none (by rfl) (by rfl) (by rfl) (by rfl) (by rfl) (by rfl) F5 N5 (.of hx) I1 I2 l1 l2 l3 l4 ?_ ?_
      · rw [← c1, hd, sld_nil2]
      · rw [← c2, hd, sld_nil2]
    replace hj : j < as.length := by omega
    obtain ⟨y, hy⟩ : ∃ v, as[j]? = some v := ⟨_, List.getElem?_eq_getElem hj⟩
    obtain ⟨ty, hvy⟩ := hJ.get j _ hy
    have hdy : as.drop j = y :: as.drop (j + 1) := by
      obtain ⟨_, he⟩ := List.getElem?_eq_some_iff.mp hy
      rw [List.drop_eq_getElem_cons hj, he]
    (rename Heap => h5)
    have hly : h5.IsList la ws.toArray := ⟨_, (N5 _ hma1).1, rfl, _, rfl⟩
    refine tail_any hly.typeIs slot_list_getitem.lookup (wpAny_getItem_list hly (by omega) (by omega) (by simpa using hvy) ?_) (by with_unfolding_all rfl)
    iterate 8 walk1
    (rename Fr _ _ _ _ => F6)
    (rename News _ _ _ _ => N6)
    (try clear F5); (try clear N5)
    have z3 := I1.length
    have z4 := I2.length
    have hA1 : ∀ p ∈ (lu, listOf vu.toArray q') :: (news ++ [(L, ({ oL with slots := sl } : Obj))]), p.1 ≠ lm := List.forall_mem_cons.mpr ⟨hm1, hne1⟩
    by_cases hlt : x < y
    · rw [if_pos (by simpa using hlt)]
      iterate 10 walk1
      refine append_K (its := vm.toArray) F6 N6 (Upd.head hA1) (fun h9 F9 N9 => ?_) (hsz := by rw [sizeLine_eq, List.size_toArray]; omega)
      clear F6 N6
      rw [List.push_toArray] at N9
      iterate 8 walk1
      (rename Fr _ _ _ _ => F10)
      (rename News _ _ _ _ => N10)
      (try clear F9); (try clear N9)
      have hme2 : (le, listOf vs.toArray n) ∈ (lm, listOf (vm ++ [Value.int x tx]).toArray (q + 1)) :: (lu, listOf (List.toArray vu) q') :: (news ++ [(L, ({ oL with slots := sl } : Obj))]) := .tail _ (.tail _ (List.mem_append_left _ hme))
      refine skip_loop (Rz := fun h h' e => Heap.NewExc h h' e "IndexError") (by rfl) (by rfl) (by rfl) (by rfl) (by decide) (by decide) (by decide) (by decide) (by decide) F10 N10 hme2 hI hlen (by rfl) (by rfl) (by rfl) (by omega) (by omega) ?_ ?_ ?_ (by passes_own)
      · intro s5 t5 value slice Q' E' N' hh hs
        exact item_outK (by rfl) ⟨_, (N' _ hme2).1, rfl, _, rfl⟩ (.inr (by rw [List.size_toArray, hI.length]; omega)) (by omega) (by omega) hh hs
      · intro h' tk' i' t' b1 b2 hdr F' N'
        clear F10 N10
        have hc : dw x (es.drop i) = dw x (es.drop (i + 1)) := by rw [hdx, dw_cons, if_pos rfl]
        have ii : (((i : Int) + 1)).toNat = i + 1 := by omega
        rw [ii] at hdr
        obtain ⟨i2, rfl⟩ : ∃ i2 : Nat, i' = i2 := ⟨i'.toNat, by omega⟩
        rw [Int.toNat_natCast] at hdr
        have hsl : sld (es.drop i) (as.drop j) = (x :: (sld (es.drop i2) (as.drop j)).1, (sld (es.drop i2) (as.drop j)).2) := by rw [hdr, hdx, hdy, sld_cons, if_pos hlt]
        k_steps
        refine ⟨_, _, _, _, _, rfl, F', N', ?_, sl, i2, j, _, tj, ms ++ [x], us, vm ++ [Value.int x tx], vu, q + 1, q', by rfl, by rfl, by rfl, by rfl, by rfl, by rfl, rfl, I1.append (.cons x tx .nil), I2, by omega, l2, rfl, ?_, l4, ?_, ?_⟩
        · omega
        · simp only [List.length_append, List.length_singleton]; omega
        · rw [← c1, hsl, List.append_assoc]; rfl
        · rw [← c2, hsl]
      · intro h' h₁ tk' t' e hdr F' N' hz
        have ii : (((i : Int) + 1)).toNat = i + 1 := by omega
        rw [ii] at hdr
        have hsl : sld (es.drop i) (as.drop j) = ([x], as.drop j) := by rw [hdx, hdy, sld_cons, if_pos hlt, hdr, sld_nil]
        refine raiseN _ h' h₁ tk' e sl es.length j _ tj (ms ++ [x]) us (vm ++ [Value.int x tx]) vu (q + 1) q' .none (by rfl) (by rfl) (by rfl) (by rfl) (by rfl) (by rfl) F' N' (.of hz) (I1.append (.cons x tx .nil)) I2 (Nat.le_refl _) l2 ?_ l4 ?_ ?_
        · simp only [List.length_append, List.length_singleton]; omega
        · rw [← c1, hsl, List.drop_length, List.append_nil]
        · rw [← c2, hsl]
    rw [if_neg (by simpa using hlt)]
    by_cases hgt : y < x
    · iterate 8 walk1
      rw [if_pos (by simpa using hgt)]
      iterate 9 walk1
      refine append_K (its := vu.toArray) F6 N6 (Upd.tail (Ne.symm hm1) (Upd.head hne2)) (fun h9 F9 N9 => ?_) (hsz := by rw [sizeLine_eq, List.size_toArray]; omega)
      clear F6 N6
      rw [List.push_toArray] at N9
      iterate 8 walk1
      (rename Fr _ _ _ _ => F10)
      (rename News _ _ _ _ => N10)
      (try clear F9); (try clear N9)
      have hma2 : (la, listOf ws.toArray k) ∈ (lm, listOf (List.toArray vm) q) :: (lu, listOf (vu ++ [Value.int y ty]).toArray (q' + 1)) :: (news ++ [(L, ({ oL with slots := sl } : Obj))]) := .tail _ (.tail _ (List.mem_append_left _ hma))
      refine skip_loop (Rz := fun h h' e => Heap.NewExc h h' e "IndexError") (by rfl) (by rfl) (by rfl) (by rfl) (by decide) (by decide) (by decide) (by decide) (by decide) F10 N10 hma2 hJ hlen2 (by rfl) (by rfl) (by rfl) (by omega) (by omega) ?_ ?_ ?_ (by passes_own)
      · intro s5 t5 value slice Q' E' N' hh hs
        exact item_outK (by rfl) ⟨_, (N' _ hma2).1, rfl, _, rfl⟩ (.inr (by rw [List.size_toArray, hJ.length]; omega)) (by omega) (by omega) hh hs
      · intro h' tk' i' t' b1 b2 hdr F' N'
        clear F10 N10
        have ii : (((j : Int) + 1)).toNat = j + 1 := by omega
        rw [ii] at hdr
        obtain ⟨i2, rfl⟩ : ∃ i2 : Nat, i' = i2 := ⟨i'.toNat, by omega⟩
        rw [Int.toNat_natCast] at hdr
        have hsl : sld (es.drop i) (as.drop j) = ((sld (es.drop i) (as.drop i2)).1, y :: (sld (es.drop i) (as.drop i2)).2) := by rw [hdr, hdx, hdy, sld_cons, if_neg hlt, if_pos hgt]
        k_steps
        refine ⟨_, _, _, _, _, rfl, F', N', ?_, sl, i, i2, ti, _, ms, us ++ [y], vm, vu ++ [Value.int y ty], q, q' + 1, by rfl, by rfl, by rfl, by rfl, by rfl, by rfl, rfl, I1, I2.append (.cons y ty .nil), l1, by omega, rfl, l3, ?_, ?_, ?_⟩
        · omega
        · simp only [List.length_append, List.length_singleton]; omega
        · rw [← c1, hsl]
        · rw [← c2, hsl, List.append_assoc]; rfl
      · intro h' h₁ tk' t' e hdr F' N' hz
        have ii : (((j : Int) + 1)).toNat = j + 1 := by omega
        rw [ii] at hdr
        have hsl : sld (es.drop i) (as.drop j) = (es.drop i, [y]) := by rw [hdx, hdy, sld_cons, if_neg hlt, if_pos hgt, hdr, sld_nil2]
        refine raiseN _ h' h₁ tk' e sl i as.length ti _ ms (us ++ [y]) vm (vu ++ [Value.int y ty]) q (q' + 1) .none (by rfl) (by rfl) (by rfl) (by rfl) (by rfl) (by rfl) F' N' (.of hz) I1 (I2.append (.cons y ty .nil)) l1 (Nat.le_refl _) l3 ?_ ?_ ?_
        · simp only [List.length_append, List.length_singleton]; omega
        · rw [← c1, hsl]
        · rw [← c2, hsl, List.drop_length, List.append_nil]
    iterate 8 walk1
    rw [if_neg (by simpa using hgt)]
    iterate 8 walk1
    (rename Fr _ _ _ _ => F7)
    (rename News _ _ _ _ => N7)
    (try clear F6); (try clear N6)
    k_fold
    (rename (Value → Shared → Prop) => E2)
    have hsl : sld (es.drop i) (as.drop j) = sld (dw x (es.drop (i + 1))) (dw y (as.drop (j + 1))) := by rw [hdx, hdy, sld_cons, if_neg hlt, if_neg hgt]
    have ii : (((i : Int) + 1)).toNat = i + 1 := by omega
    have jj : (((j : Int) + 1)).toNat = j + 1 := by omega
    walk1
    refine skip_loop (Rz := fun h h' e => Heap.NewExc h h' e "IndexError") (by rfl) (by rfl) (by rfl) (by rfl) (by decide) (by decide) (by decide) (by decide) (by decide) F7 N7 hme1 hI hlen (by rfl) (by rfl) (by rfl) (by omega) (by omega) ?_ ?_ ?_ (by passes_own)
    · intro s5 t5 value slice Q' E' N' hh hs
      exact item_outK (by rfl) ⟨_, (N' _ hme1).1, rfl, _, rfl⟩ (.inr (by rw [List.size_toArray, hI.length]; omega)) (by omega) (by omega) hh hs
    · intro h' tk' i' t' b1 b2 hdr F' N'
      clear F7 N7
      rw [ii] at hdr
      obtain ⟨i2, rfl⟩ : ∃ i2 : Nat, i' = i2 := ⟨i'.toNat, by omega⟩
      rw [Int.toNat_natCast] at hdr
      iterate 2 walk1
      refine wpAny_passesOwn (by passes_own) ?_
      iterate 7 walk1
      (rename Fr _ _ _ _ => F8)
      (rename News _ _ _ _ => N8)
      (try clear F'); (try clear N')
      refine skip_loop (Rz := fun h h' e => Heap.NewExc h h' e "IndexError") (by rfl) (by rfl) (by rfl) (by rfl) (by decide) (by decide) (by decide) (by decide) (by decide) F8 N8 hma1 hJ hlen2 (by rfl) (by rfl) (by rfl) (by omega) (by omega) ?_ ?_ ?_ (by passes_own)
      · intro s5 t5 value slice Q' E' N' hh hs
        exact item_outK (by rfl) ⟨_, (N' _ hma1).1, rfl, _, rfl⟩ (.inr (by rw [List.size_toArray, hJ.length]; omega)) (by omega) (by omega) hh hs
      · intro h' tk' i' t' b3 b4 hdr2 F' N'
        clear F8 N8
        rw [jj] at hdr2
        obtain ⟨j2, rfl⟩ : ∃ j2 : Nat, i' = j2 := ⟨i'.toNat, by omega⟩
        rw [Int.toNat_natCast] at hdr2
        k_steps
        refine ⟨_, _, _, _, _, rfl, F', N', ?_, sl, i2, j2, _, _, ms, us, vm, vu, q, q', by rfl, by rfl, by rfl, by rfl, by rfl, by rfl, rfl, I1, I2, by omega, by omega, rfl, ?_, ?_, ?_, ?_⟩
        · omega
        · omega
        · omega
        · rw [← c1, hsl, hdr, hdr2]
        · rw [← c2, hsl, hdr, hdr2]
      · intro h' h₁ tk' t' e hdr2 F' N' hz
        rw [jj] at hdr2
        refine raiseN _ h' h₁ tk' e sl i2 as.length _ _ ms us vm vu q q' .none (by rfl) (by rfl) (by rfl) (by rfl) (by rfl) (by rfl) F' N' (.of hz) I1 I2 (by omega) (Nat.le_refl _) (by omega) (by omega) ?_ ?_
        · rw [← c1, hsl, hdr2, sld_nil2, hdr]
        · rw [← c2, hsl, hdr2, sld_nil2, List.drop_length]
    · intro h' h₁ tk' t' e hdr F' N' hz
      rw [ii] at hdr
      clear F7 N7
      obtain ⟨es0, ep0, hd0⟩ := C.dict
      refine note_new (c0 := .none) (new := (lm, listOf (List.toArray vm) q) :: (lu, listOf (List.toArray vu) q') :: news) (by rfl) (by rfl) (by show ScopeKind.function ≠ _; decide) (by rfl) (by show cs.kind ≠ .module; rw [hk]; decide) F' N' ⟨es0, ep0, hd0⟩ (fun p hp => ?_) (.of hz) (fun h2 sl' T' oe oT F'' N'' hr hne xx => ?_)
      · simp only [List.mem_cons] at hp
        rcases hp with rfl | rfl | hp
        · exact Ne.symm hm4
        · exact Ne.symm hm5
        · exact hneL p hp
      clear F' N'
      refine ⟨(by intro z; cases z), ?_⟩
      refine note_again N'' (.head _) (.tail _ (.head _)) xx (by rfl) ?_
      refine set_flight none F'' N'' (fun p hp => (hr p hp).1) hne xx fun h3 oT3 F3 N3 x3 => ?_
      clear F'' N'' xx
      refine wpAny_passesOwnAt PassesOwnAt.looking ?_
      replace F3 := pin6 (x₁ := Str.ofString "expected") (x₂ := Str.ofString "actual") (x₃ := Str.ofString "i") (x₄ := Str.ofString "j") (x₅ := Str.ofString "missing") (x₆ := Str.ofString "unexpected") F3 (by rfl) (by rfl) (by rfl) (by rfl) (by rfl) (by rfl)
      iterate 7 walk1
      (rename Fr _ _ _ _ => F8)
      (rename News _ _ _ _ => N8)
      (try clear F3); (try clear N3)
      have hma2 : (la, listOf ws.toArray k) ∈ (e, oe) :: (T', oT3) :: (lm, listOf (List.toArray vm) q) :: (lu, listOf (List.toArray vu) q') :: (news ++ [(L, ({ oL with slots := sl' } : Obj))]) := .tail _ (.tail _ (.tail _ (.tail _ (List.mem_append_left _ hma))))
      refine skip_loop (Rz := fun h h' e' => NewExcC h h' e' "IndexError" (.ref e)) (by rfl) (by rfl) (by rfl) (by rfl) (by decide) (by decide) (by decide) (by decide) (by decide) F8 N8 hma2 hJ hlen2 (by rfl) (by rfl) (by rfl) (by omega) (by omega) ?_ ?_ ?_ (fun _ _ h => wpAny_look_again (SameStack.mark _ _) h)
      · intro s5 t5 value slice Q' E' N' hh hs
        obtain ⟨vs5, ts5, hc5, hd5, h15, h25, _⟩ := x3
        exact item_out_handled (by rfl) (N' _ (.head _)).1 hd5 h25 ⟨_, (N' _ hma2).1, rfl, _, rfl⟩ (by rw [List.size_toArray, hJ.length]; omega) (by omega) (by omega) hh hs
      · intro h' tk' i' t' b3 b4 hdr2 F' N'
        clear F8 N8
        rw [jj] at hdr2
        obtain ⟨j2, rfl⟩ : ∃ j2 : Nat, i' = j2 := ⟨i'.toNat, by omega⟩
        rw [Int.toNat_natCast] at hdr2
        walk1
        refine pass_on F' N' (fun p hp => (hr p hp).1) hne x3 (by rfl) (fun h4 oT4 F4 N4 x4 => ?_)
        refine raiseH _ h4 _ e oe T' oT4 sl' es.length j2 _ _ ms us vm vu q q' .none (by rfl) (by rfl) (by rfl) (by rfl) (by rfl) (by rfl) F4 N4 (fun p hp => (hr p hp).1) hne x4 I1 I2 (Nat.le_refl _) (by omega) (by omega) (by omega) ?_ ?_
        · rw [← c1, hsl, hdr, sld_nil, List.drop_length]
        · rw [← c2, hsl, hdr, hdr2, sld_nil]
      · intro h' h₁ tk' t' e2 hdr2 F' N' hz
        rw [jj] at hdr2
        refine raiseN _ h' h₁ tk' e2 sl' es.length as.length _ _ ms us vm vu q q' (.ref e) (by rfl) (by rfl) (by rfl) (by rfl) (by rfl) (by rfl) F' (fun p hp => N' p (.tail _ (.tail _ hp))) hz I1 I2 (Nat.le_refl _) (Nat.le_refl _) (by omega) (by omega) ?_ ?_
        · rw [← c1, hsl, hdr, hdr2, sld_nil, List.drop_length]
        · rw [← c2, hsl, hdr, hdr2, sld_nil, List.drop_length]
end Mine

-- P6
namespace Mine
open PySem PySem.W PyProof.Rows PySem.Calls
set_option maxRecDepth 100000
set_option maxHeartbeats 1000000
theorem offP6 : True := by (w_top off; trivial)
section
variable {prog : Program} {w : World} {A : Around} {E : Value → Shared → Prop} {s : Shared} {h₀ : Heap} {L c l : Addr} {env : Env} {oc : Obj} {ws : List Value} {ms : List Int} {kw : Nat}
theorem paired_eq : ∀ {l ys : List Value}, Paired (fun v y => y = v) l ys → ys = l
  | _, _, .nil => rfl
  | _, _, .cons rfl h => by rw [paired_eq h]
def onInt (p : Int → Bool) : Value → Bool
  | .int a _ => p a
  | _ => false
theorem ints_filter (p : Int → Bool) : ∀ {vs : List Value} {ns : List Int}, IntsAre vs ns → IntsAre (vs.filter (onInt p)) (ns.filter p)
  | _, _, .nil => .nil
  | _, _, .cons k u h => by
    rw [List.filter_cons, List.filter_cons]
    show IntsAre (if p k = true then _ else _) _
    by_cases hp : p k = true
    · rw [if_pos hp, if_pos hp]; exact .cons k u (ints_filter p h)
    · rw [if_neg hp, if_neg hp]; exact ints_filter p h
/-- [x for x in iter if x not in y], y a cell's list -/
theorem comp_notin {iter : Expr} {x y : Str} {px px2 px3 py p1 : Pos} {scope : Scope} {cl : List (Str × Addr)} {pos : Pos} {Q : Value → Shared → Prop}
    (hh : A.handled = none) (hclos : closureFor scope env = pure cl) (hcell : ∀ y ∈ scope.names, y.2 ≠ .cell) (hkind : scope.kind = .function)
    (hnames : ∀ y ∈ scope.names, y.2 = .local → scope.names.lookup y.1 = some .local) (hx : scope.names.lookup x = some .local) (hy : ∀ C, (compEnvC scope cl C env).kindOf y = some .cell) (hyc : ∀ C, (compEnvC scope cl C env).cells.lookup y = some c)
    (hd : (x == ("__debug__" : Str)) = false) (hd2 : (y == ("__debug__" : Str)) = false)
    (h : wpAny (model prog w) A (eval iter env) (fun xv s₁ => ∃ ax vs ns m news, xv = .ref ax ∧ s₁.heap.IsList ax vs.toArray ∧ IntsAre vs ns ∧ ns.length ≤ sizeLine ∧ Fr h₀ L s₁.heap m ∧ News h₀ L s₁.heap news ∧ (c, oc) ∈ news ∧ oc.data = .cell (some (.ref l)) ∧ (l, listOf ws.toArray kw) ∈ news ∧ IntsAre ws ms ∧
      (∀ D (ys : List Value) h' tk, Fr h₀ L h' m → News h₀ L h' news → h₀.get? D = none → h'.IsList D ys.toArray → IntsAre ys (ns.filter fun a => !(ms.any (· == a))) → Q (.ref D) { s₁ with heap := h', toks := tk })) E s)
    (hs : ∀ x, foldedSetIterable iter env x = pure x := by intro _; rfl) :
    wpAny (model prog w) A (eval (.ListComp (.Name x px) [⟨.Name x px2, iter, [.Compare (.Name x px3) [.NotIn] [.Name y py] p1], 0⟩] scope pos) env) Q E s := by
  refine wpAny_ListComp_free (onInt fun a => !(ms.any (· == a))) (fun v y => y = v) hclos hcell hkind hnames hx (wpAny_mono h (fun xv s₁ h₁ => ?_) fun _ _ e => e) hs
  obtain ⟨ax, vs, ns, m, news, rfl, hl, hi, hsz, F, N, hc, hoc, hl2, hI2, hQ⟩ := h₁
  have hlt : ax < s₁.heap.objs.size := by obtain ⟨_, e, _⟩ := hl; exact Heap.lt_size e
  have up : ∀ h₃ : Heap, (∀ b o, b ∉ [s₁.heap.objs.size] → (s₁.heap.push { cls := .type "list_iterator", data := .fields #[.ref ax, .int 0 0] }).get? b = some o → h₃.get? b = some o) → ∀ b o, s₁.heap.get? b = some o → h₃.get? b = some o :=
    fun h₃ hk b o e => hk b o (by rw [List.mem_singleton]; exact Nat.ne_of_lt (Heap.lt_size e)) (Heap.get?_push_of_some _ e)
  refine wpAny_pyIter_list hl ⟨s₁.heap.objs.size, [s₁.heap.objs.size, ax], [s₁.heap.objs.size], vs.toArray.size, _, _, rfl, Walks.list hh _ _ (Nat.ne_of_lt hlt) vs.toArray, (by rw [List.size_toArray, hi.length]; exact hsz), ⟨⟨_, Heap.get?_push_size _ rfl, rfl, rfl⟩, hl.push _⟩, ?_, ⟨?_, ?_⟩, ?_⟩
  · intro b hb
    show b < (s₁.heap.push _).objs.size
    rw [Heap.size_push]
    simp only [List.mem_cons, List.not_mem_nil, or_false] at hb
    rcases hb with rfl | rfl
    · exact Nat.lt_succ_self _
    · exact Nat.lt_succ_of_lt hlt
  · intro C i v s₃ m₃ E' _ hP hn hm hk _
    obtain ⟨a, t, rfl, ha⟩ := IntsAre.at hi i v (by simpa using hP)
    have hk' := up _ hk
    rw [List.forIn_cons]
    refine wpAny_bind ?_
    rw [if_pos rfl]
    refine wpAny_bind (wpAny_isTrue_Compare1 ?_)
    refine wpAny_Name (wpAny_loadName_local (by simp [compEnvC, relabel, hkind]) (lookup_relabel_local hx) hn hm ?_) hd
    refine wpAny_Name (wpAny_loadName_cell (by simp [compEnvC, relabel, hkind]) (hy C) (hyc C) ⟨oc, hk' _ _ (N _ hc).1, hoc⟩ ?_) hd2
    refine notin_list_ints ⟨_, hk' _ _ (N _ hl2).1, rfl, _, rfl⟩ hI2 ?_
    refine wpAny_truthy_bool ?_
    refine wpAny_pure ?_
    dsimp only
    rw [List.forIn_nil]
    exact wpAny_pure ⟨rfl, _, _, rfl, fun _ _ e => e⟩
  · intro C i v s₃ m₃ E' _ hP hp hn hm hk _
    exact wpAny_Name (wpAny_loadName_local (by simp [compEnvC, relabel, hkind]) (lookup_relabel_local hx) hn hm ⟨rfl, _, _, rfl, fun _ _ e => e⟩) hd
  · intro D h' tk ys vs' hnew hlD _ hlen hP hF hk
    obtain rfl : vs' = vs := by simpa using list_of_places hlen hP
    have keep := up h' hk
    have hys := paired_eq hF
    refine hQ D ys.toList h' tk (F.keeps keep) (N.grown keep) ?_ (by rw [Array.toArray_toList]; exact hlD) (by rw [hys]; exact ints_filter _ hi)
    cases e : h₀.get? D with
    | none => rfl
    | some o' => rw [Heap.get?_push_of_some _ (F.keep _ _ e)] at hnew; cases hnew
end
end Mine

-- P7
namespace Mine
open PySem PySem.W PyProof.Rows PySem.Calls
set_option maxRecDepth 100000
set_option maxHeartbeats 1000000
theorem offP7 : True := by (w_top off; trivial)
theorem call75m {w : World} {mean : ExcName → Option Value} {mg mb : Str → Option Value} {dp un : Nat} {gd : Option (List Code)} {cn : Str} {cs : Scope} {a : Addr} {ccd : Value} {cl : List (Str × Addr)} {outer : List Env} {A₀ : Around} {base h₀ : Heap} {L : Addr} {m : Str → Option Value} {s : Shared} {Q E : Value → Shared → Prop} {news : List (Addr × Obj)}
    {la lb : Addr} {vs ws : List Value} {n k : Nat} {ns ms : List Int}
    (B : Below A₀ base outer h₀) (F : Fr h₀ L s.heap m) (X : (hd.heap_39 w.params).In h₀) (N : News h₀ L s.heap news) (T : Top hd.view_39 (looseW hd.view_39 []) mean mg mb h₀) (hk : cs.kind = .function) (h1 : (la, listOf vs.toArray n) ∈ news) (h2 : (lb, listOf ws.toArray k) ∈ news)
    (hdp : dp + 2 < recursionLimit) (hu : un + 16 < cLine) (hI : IntsAre vs ns) (hJ : IntsAre ws ms) (hlen : ns.length ≤ 63) (hlen2 : ms.length ≤ 63)
    (hret : ∀ r us kk h' tk' ns3, Fr h₀ L h' m → News h₀ L h' ((r, listOf us.toArray kk) :: news) → ns3.Perm (once ns) → ns3.Pairwise (· ≤ ·) → IntsAre us (moreOf ns ms ns3) → Q (.ref r) { s with heap := h', toks := tk' })
    : wpAny (model PySem.Challenge.rw_xb0010_01.row.prog w) (ktrTop dp un gd cn cs L a ccd cl outer) (call (.ref 75) [.ref la, .ref lb]) Q E s := by
  refine call75 (n := n) (k := k) (news := news) B F X (fun p hp => ?_) T hk hdp hu hI hJ hlen hlen2 fun r us kk h' tk' n3 F' N' P S I' => hret r us kk h' tk' n3 F' (fun p hp => ?_) P S I'
  · rcases List.mem_cons.mp hp with rfl | hp
    · exact N _ h1
    · rcases List.mem_cons.mp hp with rfl | hp
      · exact N _ h2
      · exact N p hp
  · rcases List.mem_cons.mp hp with rfl | hp
    · exact N' _ (.head _)
    · exact N' p (.tail _ (.tail _ (.tail _ hp)))
end Mine

-- P8
namespace Mine
open PySem PySem.W PyProof.Rows PySem.Calls
set_option maxRecDepth 100000
set_option maxHeartbeats 1000000
theorem offP8 : True := by (w_top off; trivial)
section
variable {prog : Program} {w : World} {A : Around} {E : Value → Shared → Prop} {R : Result → Shared → Prop} {s : Shared}
theorem loop_tup2 {elt iter : Expr} {x : Str} {px : Pos} {scope : Scope} {pos : Pos} {I ax D : Addr} {ns : List Int} {vs : List Value} {cenv : Env} {m : Str → Option Value} (f g : Int → Int)
    (hh : A.handled = none) (hI : IntsAre vs ns) (hsz : ns.length ≤ 63)
    (hx : cenv.kindOf x = some .local) (hp : (cenv.scope.kind == .class || (cenv.scope.kind == .module && cenv.locals != cenv.globals)) = false)
    (hDC : D ≠ cenv.locals) (hIC : I ≠ cenv.locals) (hDI : D ≠ I) (haI : ax ≠ I) (haC : ax ≠ cenv.locals) (haD : ax ≠ D)
    (hit : s.heap.IsListIter I ax 0) (hl : s.heap.IsList ax vs.toArray) (hacc : s.heap.PlainList D #[]) (hn : s.heap.Ns cenv.locals m)
    (helt : ∀ a t s₂ m₂ E', s₂.heap.Ns cenv.locals m₂ → m₂ x = some (.int a t) → wpAny (model prog w) A (eval elt cenv) (fun y s₃ => ∃ (ta tb : Tok) (h : Heap) (tk : Nat), y = .ref h.objs.size ∧ (∀ b o, s₂.heap.get? b = some o → h.get? b = some o) ∧ s₃ = { s₂ with heap := h.push (tup2 (f a) (g a) ta tb 0), toks := tk }) E' s₂)
    (hR : ∀ h' tk m' (Ts : List Addr), h'.Ns cenv.locals m' → h'.PlainList D (Ts.map Value.ref).toArray → Ts.length = ns.length →
      (∀ (j : Nat) (T : Addr), Ts[j]? = some T → T ≠ cenv.locals ∧ T ≠ I ∧ T ≠ D ∧ s.heap.get? T = none ∧ ∃ ta tb a, ns[j]? = some a ∧ h'.get? T = some (tup2 (f a) (g a) ta tb 0)) →
      (∀ q o, q ≠ cenv.locals → q ≠ I → q ≠ D → s.heap.get? q = some o → h'.get? q = some o) → R (.ok .next) { s with heap := h', toks := tk }) :
    codeAny (model prog w) A (.compLoop (.ListComp elt [⟨.Name x px, iter, [], 0⟩] scope pos) 0 (.ref I) (.ref D) cenv) R s := by
  refine codeAny_compLoop_tests
    (fun k s' => ∃ h' tk m' Ts i, s' = { s with heap := h', toks := tk } ∧ h'.IsListIter I ax i ∧ h'.IsList ax vs.toArray ∧ h'.PlainList D (List.map Value.ref Ts).toArray ∧ h'.Ns cenv.locals m' ∧ Ts.length = i ∧ i ≤ ns.length ∧ k = ns.length + 1 - i ∧
      (∀ (j : Nat) (T : Addr), Ts[j]? = some T → T ≠ cenv.locals ∧ T ≠ I ∧ T ≠ D ∧ s.heap.get? T = none ∧ ∃ ta tb a, ns[j]? = some a ∧ h'.get? T = some (tup2 (f a) (g a) ta tb 0)) ∧
      (∀ q o, q ≠ cenv.locals → q ≠ I → q ≠ D → s.heap.get? q = some o → h'.get? q = some o)) ?_ (ns.length + 1)
    ⟨s.heap, s.toks, m, [], 0, rfl, hit, hl, hacc, hn, rfl, Nat.zero_le _, rfl, by simp, fun _ _ _ _ _ e => e⟩
  rintro k s' ⟨H, tk, m', Ts, i, rfl, hit', hl', hacc', hn', hTl, hi, rfl, hTs, hk⟩
  have hvl : vs.length = ns.length := hI.length
  by_cases hlt : i < ns.length
  · obtain ⟨a, ha⟩ : ∃ a, ns[i]? = some a := ⟨_, List.getElem?_eq_getElem hlt⟩
    obtain ⟨t, hv⟩ := hI.get i a ha
    refine wpAny_pyNext_list_item hit' hl' (by simpa using hv) fun h₁ hit₁ hs₁ => ?_
    refine wpAny_assign_Name (wpAny_storeName_local hx (hn'.sameBut hs₁ (Ne.symm hIC)) (fun h₂ hn₂ hs₂ => ?_) hp)
    rw [List.forIn_nil]
    refine wpAny_pure ?_
    rw [if_pos rfl]
    have up₂ : ∀ q o, q ≠ cenv.locals → q ≠ I → H.get? q = some o → h₂.get? q = some o := fun q o hqC hqI e => hs₂.extBut q o hqC (hs₁.extBut q o hqI e)
    refine wpAny_mono (helt a t _ _ _ hn₂ (by simp)) (fun y s₄ h₄ => ?_) fun _ _ e => e
    obtain ⟨ta, tb, h₃, tk₃, rfl, hk₃, rfl⟩ := h₄
    dsimp only at hk₃ ⊢
    have hpush : ∀ q o, h₂.get? q = some o → (h₃.push (tup2 (f a) (g a) ta tb 0)).get? q = some o := fun q o e => Heap.get?_push_of_some _ (hk₃ q o e)
    have hTnew : h₃.get? h₃.objs.size = none := Heap.get?_none_of_le (Nat.le_refl _)
    have neOf : ∀ q o, h₂.get? q = some o → h₃.objs.size ≠ q := fun q o e z => by have := hk₃ q o e; rw [← z, hTnew] at this; cases this
    have hit₂ : h₂.IsListIter I ax (i + 1) := hit₁.extBut hs₂.extBut hIC
    have hacc₂ : h₂.PlainList D (List.map Value.ref Ts).toArray := hacc'.at fun o e => up₂ D o hDC hDI e
    have hTC : h₃.objs.size ≠ cenv.locals := by obtain ⟨_, _, _, ho, _⟩ := hn₂; exact neOf _ _ ho
    have hTI : h₃.objs.size ≠ I := by obtain ⟨_, ho, _⟩ := hit₂; exact neOf _ _ ho
    have hTD : h₃.objs.size ≠ D := by obtain ⟨_, ho⟩ := hacc₂; exact neOf _ _ ho
    have hTs0 : s.heap.get? h₃.objs.size = none := by
      cases e : s.heap.get? h₃.objs.size with
      | none => rfl
      | some o => exact absurd rfl (neOf _ _ (up₂ _ _ hTC hTI (hk _ _ hTC hTI hTD e)))
    refine wpAny_list_append_plain (hsz := by rw [List.size_toArray, List.length_map, hTl, sizeLine_eq]; omega) (hacc₂.at fun o e => hpush _ o e) fun h₅ hl₅ hs₅ => ?_
    refine ⟨ns.length + 1 - (i + 1), by omega, h₅, tk₃, _, Ts ++ [h₃.objs.size], i + 1, rfl, (hit₂.at fun o e => hpush _ o e).extBut hs₅.extBut (Ne.symm hDI), (hl'.at fun o e => hpush _ o (up₂ ax o haC haI e)).extBut hs₅.extBut haD,
      by rw [List.map_append, List.map_singleton, ← List.push_toArray]; exact hl₅, (hn₂.keeps hpush).sameBut hs₅ (Ne.symm hDC), by simp [hTl], hlt, rfl, ?_, fun q o hqC hqI hqD e => hs₅.extBut q o hqD (hpush q o (up₂ q o hqC hqI (hk q o hqC hqI hqD e)))⟩
    intro j T hj
    by_cases hji : j < Ts.length
    · rw [List.getElem?_append_left hji] at hj
      obtain ⟨b1, b2, b3, b4, ta', tb', a', ha', hg⟩ := hTs j T hj
      exact ⟨b1, b2, b3, b4, ta', tb', a', ha', hs₅.extBut T _ b3 (hpush T _ (up₂ T _ b1 b2 hg))⟩
    · rw [List.getElem?_append_right (Nat.le_of_not_lt hji)] at hj
      have hj0 : j = i := by
        have := (List.getElem?_eq_some_iff.mp hj).1
        simp only [List.length_singleton] at this
        omega
      subst hj0
      rw [hTl, Nat.sub_self] at hj
      simp only [List.getElem?_cons_zero, Option.some.injEq] at hj
      subst hj
      exact ⟨hTC, hTI, hTD, hTs0, ta, tb, a, ha, hs₅.extBut _ _ hTD (Heap.get?_push_size _ rfl)⟩
  · have hin : i = ns.length := by omega
    have hv : vs.toArray[i]? = none := by simp [hin, hvl]
    refine wpAny_pyNext_list_end hh hit' hl' hv fun h₁ he₁ => ?_
    refine hR h₁ tk m' Ts (hn'.extBut he₁ (Ne.symm hIC)) (hacc'.extBut he₁ hDI) (by omega) (fun j T hj => ?_) fun q o hqC hqI hqD e => he₁ q o hqI (hk q o hqC hqI hqD e)
    obtain ⟨b1, b2, b3, b4, ta', tb', a', ha', hg⟩ := hTs j T hj
    exact ⟨b1, b2, b3, b4, ta', tb', a', ha', he₁ T _ b2 hg⟩

theorem asg_tup2 {h₀ : Heap} {L : Addr} {env : Env} {elt iter : Expr} {x y : Str} {px py : Pos} {scope : Scope} {cl : List (Str × Addr)} {pos spos : Pos} {Q : Flow → Shared → Prop} (f g : Int → Int)
    (hsw : swapsWith (.ListComp elt [⟨.Name x px, iter, [], 0⟩] scope pos) (some (.Name y py)) spos.line env = pure true) (hL : env.locals = L) (hh : A.handled = none) (hclos : closureFor scope env = pure cl) (hcell : ∀ y ∈ scope.names, y.2 ≠ .cell) (hkind : scope.kind = .function)
    (hnames : ∀ y ∈ scope.names, y.2 = .local → scope.names.lookup y.1 = some .local) (hx : scope.names.lookup x = some .local)
    (hy : env.kindOf y = some .local) (hp2 : (env.scope.kind == .class || (env.scope.kind == .module && env.locals != env.globals)) = false)
    (h : wpAny (model prog w) A (eval iter env) (fun xv s₁ => ∃ ax vs ns m news, xv = .ref ax ∧ s₁.heap.IsList ax vs.toArray ∧ IntsAre vs ns ∧ ns.length ≤ 63 ∧ Fr h₀ L s₁.heap m ∧ News h₀ L s₁.heap news ∧
      (∀ C a t s₂ m₂ E', s₂.heap.Ns C m₂ → m₂ x = some (.int a t) → wpAny (model prog w) A (eval elt (compEnvC scope cl C env)) (fun y s₃ => ∃ (ta tb : Tok) (h : Heap) (tk : Nat), y = .ref h.objs.size ∧ (∀ b o, s₂.heap.get? b = some o → h.get? b = some o) ∧ s₃ = { s₂ with heap := h.push (tup2 (f a) (g a) ta tb 0), toks := tk }) E' s₂) ∧
      (∀ D h' tk (Ts : List Addr) kn tups, Fr h₀ L h' (fun z => if z = y then some (.ref D) else m z) → News h₀ L h' ((D, listOf (Ts.map Value.ref).toArray kn) :: (tups ++ news)) → Ts.length = ns.length →
        (∀ (j : Nat) (T : Addr), Ts[j]? = some T → ∃ ta tb a, ns[j]? = some a ∧ (T, tup2 (f a) (g a) ta tb 0) ∈ tups) → Q .next { s₁ with heap := h', toks := tk })) E s)
    (hs : ∀ x, foldedSetIterable iter env x = pure x := by intro _; rfl) :
    wpAny (model prog w) A (exec (.Assign [.Name y py] (.ListComp elt [⟨.Name x px, iter, [], 0⟩] scope pos) spos) env) Q E s := by
  subst hL
  rw [exec_Assign_Name_used _ _ _ _ hsw]
  refine wpAny_bind (wpAny_standAt (wpAny_bind ?_))
  show wpAny _ A (do let _ ← comprehension (.ListComp elt [⟨.Name x px, iter, [], 0⟩] scope pos) scope env _ (newList []) false (eval iter env) (some (assign (.Name y py) env))) _ _ s
  refine wpAny_bind (wpAny_mono (wpAny_comprehension_free (use := some (assign (.Name y py) env)) (Q := fun _ s' => Q .next s') rfl hs hclos hkind hnames (wpAny_mono h (fun xv s₂ h₂ => ?_) fun _ _ e => e)) (fun _ s' hq => wpAny_pure (wpAny_pure hq)) fun _ _ e => e)
  obtain ⟨l, vs, ns, m, news, rfl, hl, hI, hsz, F, N, helt, hQ⟩ := h₂
  refine wpAny_pyIter_list hl ?_
  refine wpAny_newObj_type (wpAny_newFunctionEnv hcell (by intro y hy; simp at hy) (fun h₁ hns₁ hsb₁ => ?_) hkind)
  dsimp only at hns₁ hsb₁ ⊢
  have hltl : l < s₂.heap.objs.size := by obtain ⟨_, e, _⟩ := id hl; exact Heap.lt_size e
  generalize hH1 : s₂.heap.push { cls := .type "list_iterator", data := .fields #[.ref l, .int 0 0] } = H1 at hns₁ hsb₁ ⊢
  have hD : H1.objs.size = s₂.heap.objs.size + 1 := by rw [← hH1, Heap.size_push]
  generalize hH2 : H1.push { cls := .type "list", dict := none, data := .seq ([] : List Value).toArray } = H2 at hns₁ hsb₁ ⊢
  have hC : H2.objs.size = s₂.heap.objs.size + 2 := by rw [← hH2, Heap.size_push, hD]
  have hDI : H1.objs.size ≠ s₂.heap.objs.size := by rw [hD]; exact Nat.succ_ne_self _
  have hDC : H1.objs.size ≠ H2.objs.size := by rw [hD, hC]; exact Nat.ne_of_lt (Nat.lt_succ_self _)
  have hIC : s₂.heap.objs.size ≠ H2.objs.size := by rw [hC]; exact Nat.ne_of_lt (Nat.lt_succ_of_lt (Nat.lt_succ_self _))
  have below : ∀ b, b < s₂.heap.objs.size → b ≠ H2.objs.size ∧ b ≠ s₂.heap.objs.size ∧ b ≠ H1.objs.size := fun b hb =>
    ⟨by rw [hC]; exact Nat.ne_of_lt (Nat.lt_succ_of_lt (Nat.lt_succ_of_lt hb)), Nat.ne_of_lt hb, by rw [hD]; exact Nat.ne_of_lt (Nat.lt_succ_of_lt hb)⟩
  have old : ∀ b o, s₂.heap.get? b = some o → h₁.get? b = some o := fun b o e =>
    hsb₁.extBut b o (below b (Heap.lt_size e)).1 (Heap.get?_push_of_some _ (hH2 ▸ Heap.get?_push_of_some _ (hH1 ▸ Heap.get?_push_of_some _ e)))
  have hit : h₁.IsListIter s₂.heap.objs.size l 0 :=
    ⟨_, hsb₁.extBut _ _ hIC (Heap.get?_push_of_some _ (hH2 ▸ Heap.get?_push_of_some _ (hH1 ▸ Heap.get?_push_size _ rfl))), rfl, rfl⟩
  have hacc : h₁.PlainList H1.objs.size #[] := ⟨_, hsb₁.extBut _ _ hDC (Heap.get?_push_of_some _ (hH2 ▸ Heap.get?_push_size _ rfl))⟩
  have hl₁ : h₁.IsList l vs.toArray := hl.at fun o e => old _ o e
  have fresh : ∀ q, s₂.heap.objs.size ≤ q → s₂.heap.get? q = none := fun q hq => Heap.get?_none_of_le hq
  have loop : ∀ s₃ : Shared, s₃ = { s₂ with heap := h₁, toks := s₂.toks + ([] : List (Str × Value)).length } →
      codeAny (model prog w) A (.compLoop (.ListComp elt [⟨.Name x px, iter, [], 0⟩] scope pos) 0 (.ref s₂.heap.objs.size) (.ref H1.objs.size) (compEnvC scope cl H2.objs.size env))
        (compPost (model prog w) A E (some (assign (.Name y py) env)) (fun _ s' => Q .next s') (.ref H1.objs.size) H2.objs.size) s₃ := by
    rintro s₃ rfl
    refine loop_tup2 f g (cenv := compEnvC scope cl H2.objs.size env) hh hI hsz (lookup_relabel_local hx) (by simp [compEnvC, relabel, hkind]) hDC hIC hDI (below l hltl).2.1 (below l hltl).1 (below l hltl).2.2 hit hl₁ hacc hns₁
      (fun a t s₃ m₃ E' hn hm => helt _ a t s₃ m₃ E' hn hm) ?_
    intro h' tk m' Ts hn hp hTl hTs hk
    obtain ⟨kn, hpl⟩ := hp
    have hLlt : env.locals < s₂.heap.objs.size := F.ns.lt
    have hLb := below env.locals hLlt
    have ns' : h'.Ns env.locals m := F.ns.at' fun o e => hk _ o hLb.1 hLb.2.1 hLb.2.2 (old _ o e)
    show wpAny _ A (assign (.Name y py) env (.ref H1.objs.size)) _ _ _
    refine wpAny_assign_Name (wpAny_storeName_local hy ns' (fun h₃ hn₃ hs₃ => ?_) hp2)
    refine ⟨m', hn.sameBut hs₃ hLb.1.symm, fun h'' hs'' => ?_⟩
    have hDL : H1.objs.size ≠ env.locals := Ne.symm hLb.2.2
    have keep : ∀ q o, q ≠ env.locals → s₂.heap.get? q = some o → h''.get? q = some o := fun q o hq e => by
      obtain ⟨b1, b2, b3⟩ := below q (Heap.lt_size e)
      exact hs''.extBut q o b1 (hs₃.extBut q o hq (hk q o b1 b2 b3 (old q o e)))
    have isNew : ∀ q, s₂.heap.get? q = none → q ≠ env.locals ∧ h₀.get? q = none := fun q hq => by
      refine ⟨fun z => ?_, ?_⟩
      · obtain ⟨oL, _, _, hL, _⟩ := F.ns
        rw [z, hL] at hq; cases hq
      · cases e : h₀.get? q with
        | none => rfl
        | some o => rw [F.keep _ _ e] at hq; cases hq
    refine hQ _ h'' _ Ts kn (Ts.filterMap fun T => (h''.get? T).map fun o => (T, o)) ⟨hn₃.sameBut hs'' hLb.1, fun b o e => keep b o (fun z => by rw [z, Heap.get?_none_of_le F.above] at e; cases e) (F.keep b o e), F.above⟩ (fun p hp => ?_) hTl (fun j T hj => ?_)
    · rcases List.mem_cons.mp hp with rfl | hp
      · exact ⟨hs''.extBut _ _ hDC (hs₃.extBut _ _ hDL hpl), isNew _ (fresh _ (by rw [hD]; exact Nat.le_succ _))⟩
      · rcases List.mem_append.mp hp with hp | hp
        · obtain ⟨T, hT, hp⟩ := List.mem_filterMap.mp hp
          obtain ⟨j, hj⟩ := List.getElem?_of_mem hT
          obtain ⟨b1, b2, b3, b4, ta, tb, a, ha, hg⟩ := hTs j T hj
          have hT0 : s₂.heap.get? T = none := by
            cases e : s₂.heap.get? T with
            | none => rfl
            | some o => rw [old _ _ e] at b4; cases b4
          have hg' := hs''.extBut T _ b1 (hs₃.extBut T _ (isNew T hT0).1 hg)
          rw [hg'] at hp
          simp only [Option.map_some, Option.some.injEq] at hp
          subst hp
          exact ⟨hg', isNew T hT0⟩
        · exact ⟨keep _ _ (N p hp).2.1 (N p hp).1, (N p hp).2⟩
    · obtain ⟨b1, b2, b3, b4, ta, tb, a, ha, hg⟩ := hTs j T hj
      have hT0 : s₂.heap.get? T = none := by
        cases e : s₂.heap.get? T with
        | none => rfl
        | some o => rw [old _ _ e] at b4; cases b4
      refine ⟨ta, tb, a, ha, List.mem_filterMap.mpr ⟨T, List.mem_of_getElem? hj, ?_⟩⟩
      rw [hs''.extBut T _ b1 (hs₃.extBut T _ (isNew T hT0).1 hg)]
      rfl
  exact codeAny_compStart_list (loop _ rfl) (wpAny_pyIter_listiter hit (loop _ rfl))
end
end Mine

-- MA
namespace Mine
open PySem PySem.W PyProof.Rows PySem.Calls
set_option maxRecDepth 10000
theorem perm_eq {a b : List Int} (h : a.Perm b) (ha : a.Pairwise (· ≤ ·)) (hb : b.Pairwise (· ≤ ·)) : a = b :=
  List.Perm.eq_of_pairwise (fun _ _ _ _ h1 h2 => Int.le_antisymm h1 h2) ha hb h
theorem dw_sub (x : Int) (l : List Int) : (dw x l).Sublist l := List.dropWhile_sublist _

/-- induction over the walk side by side -/
theorem sld_ind (P : List Int → List Int → Prop) (h1 : ∀ ys, P [] ys) (h2 : ∀ xs, P xs [])
    (h3 : ∀ x xs y ys, x < y → P (dw x xs) (y :: ys) → P (x :: xs) (y :: ys))
    (h4 : ∀ x xs y ys, y < x → P (x :: xs) (dw y ys) → P (x :: xs) (y :: ys))
    (h5 : ∀ x xs ys, P (dw x xs) (dw x ys) → P (x :: xs) (x :: ys)) : ∀ (n : Nat) (a b : List Int), a.length + b.length ≤ n → P a b := by
  intro n
  induction n with
  | zero =>
    intro a b h
    have ha : a = [] := List.eq_nil_of_length_eq_zero (by omega)
    subst ha
    exact h1 b
  | succ n ih =>
    intro a b h
    cases a with
    | nil => exact h1 b
    | cons x xs =>
      cases b with
      | nil => exact h2 _
      | cons y ys =>
        have l1 := dw_length x xs
        have l2 := dw_length y ys
        simp only [List.length_cons] at h
        by_cases c1 : x < y
        · exact h3 x xs y ys c1 (ih _ _ (by simp only [List.length_cons]; omega))
        · by_cases c2 : y < x
          · exact h4 x xs y ys c2 (ih _ _ (by simp only [List.length_cons]; omega))
          · obtain rfl : x = y := by omega
            exact h5 x xs ys (ih _ _ (by omega))

theorem sld_swap (a b : List Int) : sld b a = ((sld a b).2, (sld a b).1) := by
  refine sld_ind (fun a b => sld b a = ((sld a b).2, (sld a b).1)) ?_ ?_ ?_ ?_ ?_ _ a b (Nat.le_refl _)
  · intro ys; rw [sld_nil, sld_nil2]
  · intro xs; rw [sld_nil, sld_nil2]
  · intro x xs y ys h ih
    rw [sld_cons, sld_cons, if_neg (by omega), if_pos h, if_pos h, ih]
  · intro x xs y ys h ih
    rw [sld_cons, sld_cons, if_pos h, if_neg (by omega), if_pos h, ih]
  · intro x xs ys ih
    rw [sld_cons, sld_cons, if_neg (by omega), if_neg (by omega), if_neg (by omega), if_neg (by omega), ih]

theorem sld_sub (a b : List Int) : (sld a b).1.Sublist a := by
  refine sld_ind (fun a b => (sld a b).1.Sublist a) ?_ ?_ ?_ ?_ ?_ _ a b (Nat.le_refl _)
  · intro ys; rw [sld_nil]; exact List.Sublist.refl _
  · intro xs; rw [sld_nil2]; exact List.Sublist.refl _
  · intro x xs y ys h ih
    rw [sld_cons, if_pos h]
    exact (ih.trans (dw_sub x xs)).cons_cons x
  · intro x xs y ys h ih
    rw [sld_cons, if_neg (by omega), if_pos h]
    exact ih
  · intro x xs ys ih
    rw [sld_cons, if_neg (by omega), if_neg (by omega)]
    exact (ih.trans (dw_sub x xs)).cons x

theorem sorted_dw {x : Int} {l : List Int} (h : (x :: l).Pairwise (· ≤ ·)) : (dw x l).Pairwise (· ≤ ·) ∧ (∀ z ∈ dw x l, x < z) ∧ ∀ z, z ≠ x → (dw x l).count z = l.count z := by
  induction l with
  | nil => exact ⟨.nil, by simp [dw], by simp [dw]⟩
  | cons y r ih =>
    rw [dw_cons]
    have hxy : x ≤ y := by
      have := (List.pairwise_cons.mp h).1 y (.head _)
      exact this
    by_cases hy : y = x
    · subst hy
      rw [if_pos rfl]
      obtain ⟨a, b, c⟩ := ih (List.pairwise_cons.mp h).2
      refine ⟨a, b, fun z hz => ?_⟩
      rw [c z hz, List.count_cons, if_neg (by simpa using Ne.symm hz)]
      rfl
    · rw [if_neg hy]
      refine ⟨(List.pairwise_cons.mp h).2, fun z hz => ?_, fun z hz => rfl⟩
      rcases List.mem_cons.mp hz with rfl | hz
      · omega
      · have := (List.pairwise_cons.mp (List.pairwise_cons.mp h).2).1 z hz
        omega

theorem sld_count (a b : List Int) : a.Pairwise (· ≤ ·) → b.Pairwise (· ≤ ·) → ∀ z, (z ∈ b → (sld a b).1.count z = 0) ∧ (z ∉ b → (∀ y ∈ b, y < z) → (sld a b).1.count z = a.count z) ∧ (z ∉ b → (∃ y ∈ b, z < y) → (sld a b).1.count z = if z ∈ a then 1 else 0) := by
  refine sld_ind (fun a b => a.Pairwise (· ≤ ·) → b.Pairwise (· ≤ ·) → ∀ z, (z ∈ b → (sld a b).1.count z = 0) ∧ (z ∉ b → (∀ y ∈ b, y < z) → (sld a b).1.count z = a.count z) ∧ (z ∉ b → (∃ y ∈ b, z < y) → (sld a b).1.count z = if z ∈ a then 1 else 0)) ?_ ?_ ?_ ?_ ?_ _ a b (Nat.le_refl _)
  · intro ys _ _ z
    rw [sld_nil]
    exact ⟨fun _ => rfl, fun _ _ => rfl, fun _ _ => by simp⟩
  · intro xs _ _ z
    rw [sld_nil2]
    exact ⟨fun h => (nomatch h), fun _ _ => rfl, fun _ ⟨_, h, _⟩ => (nomatch h)⟩
  · intro x xs y ys hxy ih ha hb z
    obtain ⟨d1, d2, d3⟩ := sorted_dw ha
    obtain ⟨i1, i2, i3⟩ := ih d1 hb z
    rw [sld_cons, if_pos hxy]
    have hxb : x ∉ y :: ys := by
      intro h
      rcases List.mem_cons.mp h with h | h
      · omega
      · have := (List.pairwise_cons.mp hb).1 x h; omega
    simp only [List.count_cons, beq_iff_eq]
    by_cases hz : x = z
    · subst hz
      have c0 : (sld (dw x xs) (y :: ys)).1.count x = 0 := by
        rw [List.count_eq_zero]
        intro h
        have := d2 x ((sld_sub _ _).subset h)
        omega
      refine ⟨fun h => absurd h hxb, fun _ h => ?_, fun _ _ => ?_⟩
      · have := h y (.head _); omega
      · rw [c0]; simp
    · simp only [if_neg hz, Nat.add_zero]
      have e1 := d3 z (Ne.symm hz)
      refine ⟨i1, fun h h' => by rw [i2 h h', e1], fun h h' => ?_⟩
      rw [i3 h h']
      have e2 : z ∈ dw x xs ↔ z ∈ x :: xs := by
        rw [List.mem_cons, ← List.count_pos_iff, e1, List.count_pos_iff]
        exact ⟨.inr, fun h => h.resolve_left (Ne.symm hz)⟩
      by_cases hm : z ∈ x :: xs
      · rw [if_pos hm, if_pos (e2.mpr hm)]
      · rw [if_neg hm, if_neg (fun h => hm (e2.mp h))]
  · intro x xs y ys hxy ih ha hb z
    obtain ⟨d1, d2, d3⟩ := sorted_dw hb
    obtain ⟨i1, i2, i3⟩ := ih ha d1 z
    rw [sld_cons, if_neg (by omega), if_pos hxy]
    dsimp only
    have hya : ∀ z ∈ x :: xs, y < z := by
      intro z h
      rcases List.mem_cons.mp h with rfl | h
      · exact hxy
      · have := (List.pairwise_cons.mp ha).1 z h; omega
    have hmem : ∀ z, z ≠ y → (z ∈ dw y ys ↔ z ∈ y :: ys) := by
      intro z hz
      rw [List.mem_cons, ← List.count_pos_iff, d3 z hz, List.count_pos_iff]
      exact ⟨.inr, fun h => h.resolve_left hz⟩
    by_cases hz : z = y
    · subst hz
      have hna : z ∉ x :: xs := fun h => by have := hya z h; omega
      have c0 : (sld (x :: xs) (dw z ys)).1.count z = 0 := by
        rw [List.count_eq_zero]
        exact fun h => hna ((sld_sub _ _).subset h)
      exact ⟨fun _ => c0, fun h => absurd (.head _) h, fun h => absurd (.head _) h⟩
    · refine ⟨fun h => i1 ((hmem z hz).mpr h), fun h h' => i2 (fun k => h ((hmem z hz).mp k)) (fun q hq => h' q ?_), fun h ⟨q, hq, hzq⟩ => ?_⟩
      · exact .tail _ ((dw_sub y ys).subset hq)
      · by_cases hza : z ∈ x :: xs
        · have := hya z hza
          exact i3 (fun k => h ((hmem z hz).mp k)) ⟨q, (hmem q (by omega)).mpr hq, hzq⟩
        · rw [if_neg hza, List.count_eq_zero]
          exact fun h => hza ((sld_sub _ _).subset h)
  · intro x xs ys ih ha hb z
    obtain ⟨d1, d2, d3⟩ := sorted_dw ha
    obtain ⟨f1, f2, f3⟩ := sorted_dw hb
    obtain ⟨i1, i2, i3⟩ := ih d1 f1 z
    rw [sld_cons, if_neg (by omega), if_neg (by omega)]
    have hmem : ∀ z, z ≠ x → (z ∈ dw x ys ↔ z ∈ x :: ys) := by
      intro z hz
      rw [List.mem_cons, ← List.count_pos_iff, f3 z hz, List.count_pos_iff]
      exact ⟨.inr, fun h => h.resolve_left hz⟩
    by_cases hz : z = x
    · subst hz
      have c0 : (sld (dw z xs) (dw z ys)).1.count z = 0 := by
        rw [List.count_eq_zero]
        intro h
        have := d2 z ((sld_sub _ _).subset h)
        omega
      exact ⟨fun _ => c0, fun h => absurd (.head _) h, fun h => absurd (.head _) h⟩
    · have e1 := d3 z hz
      have e3 : (x :: xs).count z = xs.count z := by rw [List.count_cons, if_neg (by simpa using Ne.symm hz)]; rfl
      have e2 : z ∈ dw x xs ↔ z ∈ x :: xs := by
        rw [List.mem_cons, ← List.count_pos_iff, e1, List.count_pos_iff]
        exact ⟨.inr, fun h => h.resolve_left hz⟩
      refine ⟨fun h => i1 ((hmem z hz).mpr h), fun h h' => ?_, fun h ⟨q, hq, hzq⟩ => ?_⟩
      · rw [i2 (fun k => h ((hmem z hz).mp k)) (fun q hq => h' q (.tail _ ((dw_sub x ys).subset hq))), e1, e3]
      · by_cases hza : z ∈ x :: xs
        · have hxz : x < z := d2 z (e2.mpr hza)
          rw [i3 (fun k => h ((hmem z hz).mp k)) ⟨q, (hmem q (by omega)).mpr hq, hzq⟩, if_pos hza, if_pos (e2.mpr hza)]
        · rw [if_neg hza, List.count_eq_zero]
          exact fun h => hza (e2.mp ((sld_sub _ _).subset h))

theorem onceAux_props (l : List Int) : ∀ pre, (onceAux pre l).Sublist l ∧ (∀ z, z ∈ onceAux pre l ↔ z ∈ l ∧ z ∉ pre) ∧ (onceAux pre l).Nodup := by
  induction l with
  | nil => intro pre; exact ⟨List.Sublist.refl _, fun z => by simp [onceAux], List.nodup_nil⟩
  | cons x r ih =>
    intro pre
    obtain ⟨a, b, c⟩ := ih (pre ++ [x])
    unfold onceAux
    by_cases hx : x ∈ pre
    · rw [if_pos hx]
      refine ⟨a.cons x, fun z => ?_, c⟩
      rw [b z]
      simp only [List.mem_append, List.mem_cons, List.not_mem_nil, or_false, not_or]
      constructor
      · rintro ⟨h1, h2, h3⟩; exact ⟨.inr h1, h2⟩
      · rintro ⟨rfl | h1, h2⟩
        · exact absurd hx h2
        · exact ⟨h1, h2, fun e => h2 (by rw [e]; exact hx)⟩
    · rw [if_neg hx]
      refine ⟨a.cons_cons x, fun z => ?_, List.nodup_cons.mpr ⟨fun h => ((b x).mp h).2 (by simp), c⟩⟩
      simp only [List.mem_cons, b z, List.mem_append, List.not_mem_nil, or_false, not_or]
      constructor
      · rintro (rfl | ⟨h1, h2, h3⟩)
        · exact ⟨.inl rfl, hx⟩
        · exact ⟨.inr h1, h2⟩
      · rintro ⟨rfl | h1, h2⟩
        · exact .inl rfl
        · by_cases e : z = x
          · exact .inl e
          · exact .inr ⟨h1, h2, e⟩
theorem once_sub (l : List Int) : (once l).Sublist l := (onceAux_props l []).1
theorem mem_once (l : List Int) (z : Int) : z ∈ once l ↔ z ∈ l := by
  have := (onceAux_props l []).2.1 z
  unfold once
  rw [this]; simp
theorem once_nodup (l : List Int) : (once l).Nodup := (onceAux_props l []).2.2

theorem sld_mem (a b : List Int) (ha : a.Pairwise (· ≤ ·)) (hb : b.Pairwise (· ≤ ·)) (z : Int) : z ∈ (sld a b).1 ↔ z ∈ a ∧ z ∉ b := by
  obtain ⟨c1, c2, c3⟩ := sld_count a b ha hb z
  constructor
  · intro h
    refine ⟨(sld_sub _ _).subset h, fun hzb => ?_⟩
    have := List.count_pos_iff.mpr h
    rw [c1 hzb] at this
    omega
  · rintro ⟨h1, h2⟩
    rw [← List.count_pos_iff]
    by_cases h3 : ∃ y ∈ b, z < y
    · rw [c3 h2 h3, if_pos h1]; omega
    · rw [c2 h2 fun y hy => ?_]
      · exact List.count_pos_iff.mpr h1
      · have : y ≠ z := fun e => h2 (e ▸ hy)
        have : ¬ z < y := fun e => h3 ⟨y, hy, e⟩
        omega
theorem sld_sorted1 (a b : List Int) (ha : a.Pairwise (· ≤ ·)) (xhb : b.Pairwise (· ≤ ·)) : (sld a b).1.Pairwise (· ≤ ·) := ha.sublist (sld_sub a b)
theorem sld_once1 (a b : List Int) (ha : a.Pairwise (· ≤ ·)) (hb : b.Pairwise (· ≤ ·)) : once (sld a b).1 = (once a).filter (fun z => !b.any (· == z)) := by
  refine perm_eq ((List.perm_ext_iff_of_nodup (once_nodup _) ((once_nodup a).sublist List.filter_sublist)).mpr fun z => ?_) ((sld_sorted1 a b ha hb).sublist (once_sub _)) (ha.sublist (List.filter_sublist.trans (once_sub a)))
  rw [mem_once, sld_mem a b ha hb, List.mem_filter, mem_once, List.any_beq']
  simp
theorem sld_once2 (a b : List Int) (ha : a.Pairwise (· ≤ ·)) (hb : b.Pairwise (· ≤ ·)) : once (sld a b).2 = (once b).filter (fun z => !a.any (· == z)) := by
  have := sld_once1 b a hb ha
  rw [sld_swap a b] at this
  exact this
theorem sld_len1 (a b : List Int) : (sld a b).1.length ≤ a.length := (sld_sub a b).length_le
theorem sld_len2 (a b : List Int) : (sld a b).2.length ≤ b.length := by
  have := sld_len1 b a
  rw [sld_swap a b] at this
  exact this
def countsOk (told row other : List Int) : Prop := ∀ M, M ∈ other ++ [-1] → (∀ a ∈ other ++ [-1], a ≤ M) → ∀ x ∈ once told, told.count x = if x > M then row.count x else 1
theorem sld_counts1 (a b : List Int) (ha : a.Pairwise (· ≤ ·)) (hb : b.Pairwise (· ≤ ·)) (za : ∀ x ∈ a, 0 ≤ x) : countsOk (sld a b).1 a b := by
  intro M hM hmx x hx
  rw [mem_once, sld_mem a b ha hb] at hx
  obtain ⟨c1, c2, c3⟩ := sld_count a b ha hb x
  by_cases h : x > M
  · rw [if_pos h, c2 hx.2]
    intro y hy
    have := hmx y (List.mem_append_left _ hy)
    omega
  · rw [if_neg h, c3 hx.2, if_pos hx.1]
    have h0 := za x hx.1
    rcases List.mem_append.mp hM with hM | hM
    · refine ⟨M, hM, ?_⟩
      have : x ≠ M := fun e => hx.2 (e ▸ hM)
      omega
    · rw [List.mem_singleton.mp hM] at h
      omega
theorem sld_counts2 (a b : List Int) (ha : a.Pairwise (· ≤ ·)) (hb : b.Pairwise (· ≤ ·)) (zb : ∀ x ∈ b, 0 ≤ x) : countsOk (sld a b).2 b a := by
  have := sld_counts1 b a hb ha zb
  rw [sld_swap a b] at this
  exact this
theorem uld_props : ∀ (l b : List Int), (uldGo l b).1.length ≤ l.length ∧ (uldGo l b).2.length ≤ b.length ∧ ∀ z, (uldGo l b).1.count z = l.count z - b.count z ∧ (uldGo l b).2.count z = b.count z - l.count z
  | [], b => ⟨Nat.le_refl _, Nat.le_refl _, fun z => by simp [uldGo]⟩
  | x :: r, b => by
    unfold uldGo
    by_cases hx : x ∈ b
    · rw [if_pos hx]
      obtain ⟨h1, h2, h3⟩ := uld_props r (b.erase x)
      refine ⟨Nat.le_succ_of_le h1, Nat.le_trans h2 List.length_erase_le, fun z => ?_⟩
      obtain ⟨e1, e2⟩ := h3 z
      rw [e1, e2, List.count_erase, List.count_cons]
      by_cases hz : (x == z) = true
      · rw [if_pos hz]
        have := List.count_pos_iff.mpr hx
        have e : x = z := by simpa using hz
        subst e
        omega
      · rw [if_neg hz]
        omega
    · rw [if_neg hx]
      obtain ⟨h1, h2, h3⟩ := uld_props r b
      refine ⟨Nat.succ_le_succ h1, h2, fun z => ?_⟩
      obtain ⟨e1, e2⟩ := h3 z
      dsimp only
      rw [List.count_cons, List.count_cons, e1, e2]
      by_cases hz : (x == z) = true
      · rw [if_pos hz]
        have e : x = z := by simpa using hz
        subst e
        have := List.count_eq_zero.mpr hx
        omega
      · rw [if_neg hz]
        omega
theorem uld_len1 (l b : List Int) : (uldGo l b).1.length ≤ l.length := (uld_props l b).1
theorem uld_len2 (l b : List Int) : (uldGo l b).2.length ≤ b.length := (uld_props l b).2.1
theorem more_sorted (a b : List Int) : ∀ l : List Int, l.Pairwise (· ≤ ·) → (moreOf a b l).Pairwise (· ≤ ·) := by
  intro l h
  unfold moreOf
  refine List.pairwise_flatMap.mpr ⟨fun x _ => ?_, h.imp fun hxy u hu v hv => ?_⟩
  · exact List.pairwise_replicate.mpr (.inr (Int.le_refl _))
  · rw [List.eq_of_mem_replicate hu, List.eq_of_mem_replicate hv]
    exact hxy
theorem more_count (a b : List Int) (z : Int) : ∀ l : List Int, l.Nodup → (moreOf a b l).count z = if z ∈ l then a.count z - b.count z else 0
  | [], _ => rfl
  | x :: r, h => by
    have ih := more_count a b z r (List.nodup_cons.mp h).2
    have e : moreOf a b (x :: r) = List.replicate (a.count x - b.count x) x ++ moreOf a b r := by simp [moreOf]
    rw [e, List.count_append, ih, List.count_replicate]
    by_cases hz : x = z
    · subst hz
      rw [if_pos (by simp), if_neg (List.nodup_cons.mp h).1, if_pos (.head _), Nat.add_zero]
    · rw [if_neg (by simpa using hz), Nat.zero_add]
      by_cases hm : z ∈ r
      · rw [if_pos hm, if_pos (.tail _ hm)]
      · rw [if_neg hm, if_neg (fun k => (List.mem_cons.mp k).elim (fun e => hz e.symm) hm)]
theorem more_of_counts (a b n3 s : List Int) (h : ∀ z, s.count z = a.count z - b.count z) (hs : s.Pairwise (· ≤ ·)) (h3 : n3.Perm (once a)) (hs3 : n3.Pairwise (· ≤ ·)) : s = moreOf a b n3 := by
  refine perm_eq (List.perm_iff_count.mpr fun z => ?_) hs (more_sorted a b n3 hs3)
  rw [h z, more_count a b z n3 (h3.nodup_iff.mpr (once_nodup a))]
  by_cases hm : z ∈ n3
  · rw [if_pos hm]
  · rw [if_neg hm]
    have : z ∉ a := fun k => hm (h3.mem_iff.mpr ((mem_once a z).mpr k))
    rw [List.count_eq_zero.mpr this]
    exact Nat.zero_sub _
theorem uld_more1 (a b n3 s : List Int) (h : s.Perm (uldGo a.reverse b).1) (hs : s.Pairwise (· ≤ ·)) (h3 : n3.Perm (once a)) (hs3 : n3.Pairwise (· ≤ ·)) : s = moreOf a b n3 :=
  more_of_counts a b n3 s (fun z => by rw [h.count_eq, ((uld_props _ _).2.2 z).1, List.count_reverse]) hs h3 hs3
theorem uld_more2 (a b n3 s : List Int) (h : s.Perm (uldGo a.reverse b).2) (hs : s.Pairwise (· ≤ ·)) (h3 : n3.Perm (once b)) (hs3 : n3.Pairwise (· ≤ ·)) : s = moreOf b a n3 :=
  more_of_counts b a n3 s (fun z => by rw [h.count_eq, ((uld_props _ _).2.2 z).2, List.count_reverse]) hs h3 hs3
end Mine

-- LA
namespace Mine
open PySem PySem.W PyProof.Rows PySem.Calls
set_option maxRecDepth 100000
set_option maxHeartbeats 1000000
def lawP : List Stmt × Scope :=
  match PySem.Challenge.pw_xb0010_01.main.body.getLast? with
  | some (.FunctionDef _ _ body _ _ _ sc _ _ _) => (body, sc)
  | _ => ([], default)

def lawB.Ok : Prop := ∀ {w : World} {mean : ExcName → Option Value} {mg mb : Str → Option Value} {base : Heap} {fa cd : Addr} {m : Str → Option Value} {s : Shared} {Q : Flow → Shared → Prop} {E : Value → Shared → Prop}
    {lsc lf ls : Addr} {o1 o2 o3 : Obj} {vs vs1 vs2 : List Value} {c1 c2 : Nat} {ns ns1 ns2 : List Int}
    (xF : Fr base base.objs.size s.heap m) (xB : Below callerA base [] base) (xX : (hd.heap_39 w.params).In base) (xT : Top hd.view_39 (looseW hd.view_39 []) mean mg mb base)
    (xN : News base base.objs.size s.heap [(ls, listOf vs2.toArray c2), (lf, listOf vs1.toArray c1), (base.objs.size + 1 + 1 + 1, o3), (base.objs.size + 1 + 1, o2), (base.objs.size + 1, o1)])
    (xd1 : o1.data = .cell (some (.ref lsc))) (xd2 : o2.data = .cell (some (.ref lf))) (xd3 : o3.data = .cell (some (.ref ls)))
    (xhL : base.IsList lsc vs.toArray) (xhI : IntsAre vs ns) (xI1 : IntsAre vs1 ns1) (xI2 : IntsAre vs2 ns2) (xhlen : ns.length ≤ 63) (xl1 : ns1.length ≤ 63) (xl2 : ns2.length ≤ 63)
    (xp1 : ns1.Pairwise (· ≤ ·)) (xp2 : ns2.Pairwise (· ≤ ·)) (xz1 : ∀ x ∈ ns1, 0 ≤ x) (xz2 : ∀ x ∈ ns2, 0 ≤ x) (xhne : lf ≠ ls)
    (xhQ : ∀ h' tk' m', Fr base base.objs.size h' m' → Q (.ret (.bool true)) { s with heap := h', toks := tk' })
    (xhE : PassesOwn (model PySem.Challenge.rw_xb0010_01.row.prog w) (callerA.deeper (envOfC (Str.ofString "law") lawP.2 base.objs.size fa (.ref cd))) (envOfC (Str.ofString "law") lawP.2 base.objs.size fa (.ref cd)) E),
    wpAny (model PySem.Challenge.rw_xb0010_01.row.prog w) (callerA.deeper (envOfC (Str.ofString "law") lawP.2 base.objs.size fa (.ref cd))) (execs (lawP.1.drop 2) (envOfC (Str.ofString "law") lawP.2 base.objs.size fa (.ref cd))) Q E s

def lawC.Ok : Prop := ∀ {w : World} {mean : ExcName → Option Value} {mg mb : Str → Option Value} {base : Heap} {fa cd : Addr} {m : Str → Option Value} {s : Shared} {Q : Flow → Shared → Prop} {E : Value → Shared → Prop}
    {lsc lf ls : Addr} {o1 o2 o3 : Obj} {vs vs1 vs2 : List Value} {c1 c2 : Nat} {ns ns1 ns2 : List Int} {lm lu : Addr} {us ws : List Value} {q k : Nat}
    (xF : Fr base base.objs.size s.heap m) (xB : Below callerA base [] base) (xX : (hd.heap_39 w.params).In base) (xT : Top hd.view_39 (looseW hd.view_39 []) mean mg mb base)
    (xN : News base base.objs.size s.heap [(lm, listOf us.toArray q), (lu, listOf ws.toArray k), (ls, listOf vs2.toArray c2), (lf, listOf vs1.toArray c1), (base.objs.size + 1 + 1 + 1, o3), (base.objs.size + 1 + 1, o2), (base.objs.size + 1, o1)])
    (xd1 : o1.data = .cell (some (.ref lsc))) (xd2 : o2.data = .cell (some (.ref lf))) (xd3 : o3.data = .cell (some (.ref ls)))
    (xhL : base.IsList lsc vs.toArray) (xhI : IntsAre vs ns) (xI1 : IntsAre vs1 ns1) (xI2 : IntsAre vs2 ns2) (xhlen : ns.length ≤ 63) (xl1 : ns1.length ≤ 63) (xl2 : ns2.length ≤ 63)
    (xp1 : ns1.Pairwise (· ≤ ·)) (xp2 : ns2.Pairwise (· ≤ ·)) (xz1 : ∀ x ∈ ns1, 0 ≤ x) (xz2 : ∀ x ∈ ns2, 0 ≤ x) (xhne : lf ≠ ls) (xm1 : m (Str.ofString "missing") = some (.ref lm)) (xm2 : m (Str.ofString "unexpected") = some (.ref lu)) (xJ1 : IntsAre us (sld ns1 ns2).1) (xJ2 : IntsAre ws (sld ns1 ns2).2)
    (xhQ : ∀ h' tk' m', Fr base base.objs.size h' m' → Q (.ret (.bool true)) { s with heap := h', toks := tk' })
    (xhE : PassesOwn (model PySem.Challenge.rw_xb0010_01.row.prog w) (callerA.deeper (envOfC (Str.ofString "law") lawP.2 base.objs.size fa (.ref cd))) (envOfC (Str.ofString "law") lawP.2 base.objs.size fa (.ref cd)) E),
    wpAny (model PySem.Challenge.rw_xb0010_01.row.prog w) (callerA.deeper (envOfC (Str.ofString "law") lawP.2 base.objs.size fa (.ref cd))) (execs (lawP.1.drop 5) (envOfC (Str.ofString "law") lawP.2 base.objs.size fa (.ref cd))) Q E s

def lawD.Ok : Prop := ∀ {w : World} {mean : ExcName → Option Value} {mg mb : Str → Option Value} {base : Heap} {fa cd : Addr} {m : Str → Option Value} {s : Shared} {Q : Flow → Shared → Prop} {E : Value → Shared → Prop}
    {lsc lf ls : Addr} {o1 o2 o3 : Obj} {vs vs1 vs2 : List Value} {c1 c2 : Nat} {ns ns1 ns2 : List Int}
    (xF : Fr base base.objs.size s.heap m) (xB : Below callerA base [] base) (xX : (hd.heap_39 w.params).In base) (xT : Top hd.view_39 (looseW hd.view_39 []) mean mg mb base)
    (xN : News base base.objs.size s.heap [(ls, listOf vs2.toArray c2), (lf, listOf vs1.toArray c1), (base.objs.size + 1 + 1 + 1, o3), (base.objs.size + 1 + 1, o2), (base.objs.size + 1, o1)])
    (xd1 : o1.data = .cell (some (.ref lsc))) (xd2 : o2.data = .cell (some (.ref lf))) (xd3 : o3.data = .cell (some (.ref ls)))
    (xhL : base.IsList lsc vs.toArray) (xhI : IntsAre vs ns) (xI1 : IntsAre vs1 ns1) (xI2 : IntsAre vs2 ns2) (xhlen : ns.length ≤ 63) (xl1 : ns1.length ≤ 63) (xl2 : ns2.length ≤ 63)
    (xp1 : ns1.Pairwise (· ≤ ·)) (xp2 : ns2.Pairwise (· ≤ ·)) (xz1 : ∀ x ∈ ns1, 0 ≤ x) (xz2 : ∀ x ∈ ns2, 0 ≤ x) (xhne : lf ≠ ls)
    (xhQ : ∀ h' tk' m', Fr base base.objs.size h' m' → Q (.ret (.bool true)) { s with heap := h', toks := tk' })
    (xhE : PassesOwn (model PySem.Challenge.rw_xb0010_01.row.prog w) (callerA.deeper (envOfC (Str.ofString "law") lawP.2 base.objs.size fa (.ref cd))) (envOfC (Str.ofString "law") lawP.2 base.objs.size fa (.ref cd)) E),
    wpAny (model PySem.Challenge.rw_xb0010_01.row.prog w) (callerA.deeper (envOfC (Str.ofString "law") lawP.2 base.objs.size fa (.ref cd))) (execs (lawP.1.drop 6) (envOfC (Str.ofString "law") lawP.2 base.objs.size fa (.ref cd))) Q E s

def lawE.Ok : Prop := ∀ {w : World} {mean : ExcName → Option Value} {mg mb : Str → Option Value} {base : Heap} {fa cd : Addr} {m : Str → Option Value} {s : Shared} {Q : Flow → Shared → Prop} {E : Value → Shared → Prop}
    {lsc : Addr} {o1 : Obj} {vs : List Value} {ns : List Int}
    (xF : Fr base base.objs.size s.heap m) (xB : Below callerA base [] base) (xX : (hd.heap_39 w.params).In base) (xT : Top hd.view_39 (looseW hd.view_39 []) mean mg mb base)
    (xN : News base base.objs.size s.heap [(base.objs.size + 1, o1)])
    (xd1 : o1.data = .cell (some (.ref lsc)))
    (xhL : base.IsList lsc vs.toArray) (xhI : IntsAre vs ns) (xhlen : ns.length ≤ 63)
    (xhQ : ∀ h' tk' m', Fr base base.objs.size h' m' → Q (.ret (.bool true)) { s with heap := h', toks := tk' })
    (xhE : PassesOwn (model PySem.Challenge.rw_xb0010_01.row.prog w) (callerA.deeper (envOfC (Str.ofString "law") lawP.2 base.objs.size fa (.ref cd))) (envOfC (Str.ofString "law") lawP.2 base.objs.size fa (.ref cd)) E),
    wpAny (model PySem.Challenge.rw_xb0010_01.row.prog w) (callerA.deeper (envOfC (Str.ofString "law") lawP.2 base.objs.size fa (.ref cd))) (execs (lawP.1.drop 8) (envOfC (Str.ofString "law") lawP.2 base.objs.size fa (.ref cd))) Q E s

def lawF.Ok : Prop := ∀ {w : World} {mean : ExcName → Option Value} {mg mb : Str → Option Value} {base : Heap} {fa cd : Addr} {m : Str → Option Value} {s : Shared} {Q : Flow → Shared → Prop} {E : Value → Shared → Prop}
    {lsc : Addr} {o1 : Obj} {vs : List Value} {ns : List Int} {lp : Addr} {Ts : List Addr} {kn : Nat} {news : List (Addr × Obj)} {t : Sem Flow}
    (xF : Fr base base.objs.size s.heap m) (xB : Below callerA base [] base) (xX : (hd.heap_39 w.params).In base) (xT : Top hd.view_39 (looseW hd.view_39 []) mean mg mb base)
    (xN : News base base.objs.size s.heap news)
    (xhc : (base.objs.size + 1, o1) ∈ news) (xhp : (lp, listOf (Ts.map Value.ref).toArray kn) ∈ news) (xm1 : m (Str.ofString "pairs") = some (.ref lp)) (xhTl : Ts.length = ns.length) (xhTs : ∀ (j : Nat) (T : Addr), Ts[j]? = some T → ∃ ta tb a, ns[j]? = some a ∧ (T, tup2 (a.fmod 5) ((a.fdiv 5).fmod 5) ta tb 0) ∈ news)
    (xd1 : o1.data = .cell (some (.ref lsc)))
    (xhL : base.IsList lsc vs.toArray) (xhI : IntsAre vs ns) (xhlen : ns.length ≤ 63)
    (xhQ : ∀ h' tk' m', Fr base base.objs.size h' m' → Q (.ret (.bool true)) { s with heap := h', toks := tk' })
    (xhb : execs (lawP.1.drop 9) (envOfC (Str.ofString "law") lawP.2 base.objs.size fa (.ref cd)) = t) (xhE : PassesOwn (model PySem.Challenge.rw_xb0010_01.row.prog w) (callerA.deeper (envOfC (Str.ofString "law") lawP.2 base.objs.size fa (.ref cd))) (envOfC (Str.ofString "law") lawP.2 base.objs.size fa (.ref cd)) E),
    wpAny (model PySem.Challenge.rw_xb0010_01.row.prog w) (callerA.deeper (envOfC (Str.ofString "law") lawP.2 base.objs.size fa (.ref cd))) t Q E s

end Mine

-- LB
namespace Mine
open PySem PySem.W PyProof.Rows PySem.Calls
set_option maxRecDepth 100000
set_option maxHeartbeats 1000000
theorem offLB : True := by (w_top off; trivial)
theorem lawB_ok (hC : lawC.Ok) : lawB.Ok := by
  intro w mean mg mb base fa cd m s Q E lsc lf ls o1 o2 o3 vs vs1 vs2 c1 c2 ns ns1 ns2 F B X T N d1 d2 d3 hL hI I1 I2 hlen l1 l2 p1 p2 z1 z2 hne hQ hE
  revert X; k_fill; intro X
  unfold lawP at hE ⊢
  dsimp only [PySem.Challenge.pw_xb0010_01, List.getLast?, List.getLast, List.drop]
  iterate 11 walk1
  refine call21 F X N T (by rfl) (.tail _ (.head _)) (.head _) (by decide) (by decide) I1 I2 l1 l2 (fun r lm lu us q ws' k' nt h' tk' F1 N1 J1 J2 => ?_)
  clear N F
  iterate 19 walk1
  (rename Fr _ _ _ _ => F2)
  (rename News _ _ _ _ => N2)
  (try clear F1); (try clear N1)
  have lj1 := J1.length
  have lj2 := J2.length
  refine call68m (n := q) B F2 X N2 T (by simp) J1 (by rfl) (by decide) (by decide) (Nat.le_trans (sld_len1 ns1 ns2) l1) fun r3 us3 k3 h3 tk3 F3 N3 J3 => ?_
  clear F2 N2
  refine comp_notin (h₀ := base) (L := base.objs.size) (c := base.objs.size + 1 + 1 + 1) (oc := o3) (l := ls) (ws := vs2) (ms := ns2) (kw := c2) (by rfl) (by with_unfolding_all rfl) (by decide) (by rfl) (by decide) (by rfl) (fun _ => by rfl) (fun _ => by rfl) (by decide) (by decide) ?_
  iterate 7 walk1
  refine call68m (n := c1) B F3 X N3 T (by simp) I1 (by rfl) (by decide) (by decide) l1 fun r4 us4 k4 h4 tk4 F4 N4 J4 => ?_
  clear F3 N3
  refine ⟨r4, us4, _, _, _, rfl, ⟨_, (N4 _ (.head _)).1, rfl, _, rfl⟩, J4, by have := once_length ns1; rw [sizeLine_eq]; omega, F4, N4, by simp, d3, by simp, I2, fun D ys h5 tk5 F5 N5 hD hl5 hI5 => ?_⟩
  clear F4 N4
  refine ne_intsK ⟨_, (N5 _ (.tail _ (.head _))).1, rfl, _, rfl⟩ J3 hl5 hI5 (by units_room) ?_
  refine wpAny_truthy_bool ?_
  rw [if_neg (by rw [sld_once1 ns1 ns2 p1 p2]; simp)]
  iterate 12 walk1
  refine call68m (n := k') B F5 X N5 T (by simp) J2 (by rfl) (by decide) (by decide) (Nat.le_trans (sld_len2 ns1 ns2) l2) fun r5 us5 k5 h6 tk6 F7 N7 J7 => ?_
  clear F5 N5
  refine comp_notin (h₀ := base) (L := base.objs.size) (c := base.objs.size + 1 + 1) (oc := o2) (l := lf) (ws := vs1) (ms := ns1) (kw := c1) (by rfl) (by with_unfolding_all rfl) (by decide) (by rfl) (by decide) (by rfl) (fun _ => by rfl) (fun _ => by rfl) (by decide) (by decide) ?_
  iterate 7 walk1
  refine call68m (n := c2) B F7 X N7 T (by simp) I2 (by rfl) (by decide) (by decide) l2 fun r8 us8 k8 h8 tk8 F8 N8 J8 => ?_
  clear F7 N7
  refine ⟨r8, us8, _, _, _, rfl, ⟨_, (N8 _ (.head _)).1, rfl, _, rfl⟩, J8, by have := once_length ns2; rw [sizeLine_eq]; omega, F8, N8, by simp, d2, by simp, I1, fun D9 ys9 h9 tk9 F9 N9 hD9 hl9 hI9 => ?_⟩
  clear F8 N8
  refine ne_intsK ⟨_, (N9 _ (.tail _ (.head _))).1, rfl, _, rfl⟩ J7 hl9 hI9 (by units_room) ?_
  refine wpAny_truthy_bool ?_
  rw [if_neg (by rw [sld_once2 ns1 ns2 p1 p2]; simp)]
  iterate 9 walk1
  refine sorted_N F9 N9 ⟨_, (N9 (lm, listOf us.toArray q) (by simp)).1, rfl, _, rfl⟩ J1 (by have := sld_len1 ns1 ns2; omega) fun h10 vs10 ns10 e10 F10 N10 I10 P10 S10 => ?_
  clear F9 N9
  obtain rfl := perm_eq P10 S10 (sld_sorted1 ns1 ns2 p1 p2)
  refine ne_intsK ⟨_, (N10 (lm, listOf us.toArray q) (by simp)).1, rfl, _, rfl⟩ J1 ⟨_, (N10 _ (.head _)).1, rfl, _, rfl⟩ I10 (by units_room) ?_
  refine wpAny_truthy_bool ?_
  simp only [decide_true, Bool.not_true, Bool.false_eq_true, if_false]
  iterate 3 walk1
  refine hC (c1 := c1) (c2 := c2) (q := q) (k := k') F10 B X T (fun p hp => N10 p ?_) d1 d2 d3 hL hI I1 I2 hlen l1 l2 p1 p2 z1 z2 hne (by rfl) (by rfl) J1 J2 hQ hE
  simp only [List.mem_cons, List.not_mem_nil, or_false] at hp ⊢
  rcases hp with rfl | rfl | rfl | rfl | rfl | rfl | rfl <;> simp
end Mine

-- LC
namespace Mine
open PySem PySem.W PyProof.Rows PySem.Calls
set_option maxRecDepth 100000
set_option maxHeartbeats 1000000
theorem offLC : True := by (w_top off; trivial)
theorem lawC_ok (hD : lawD.Ok) : lawC.Ok := by
  intro w mean mg mb base fa cd m s Q E lsc lf ls o1 o2 o3 vs vs1 vs2 c1 c2 ns ns1 ns2 lm lu us ws q k F B X T N d1 d2 d3 hL hI I1 I2 hlen l1 l2 p1 p2 z1 z2 hne e1 e2 J1 J2 hQ hE
  revert X; k_fill; intro X
  replace F := pin2 F e1 e2
  unfold lawP at hE ⊢
  dsimp only [PySem.Challenge.pw_xb0010_01, List.getLast?, List.getLast, List.drop]
  walk1
  refine for_made F (.inr ⟨_, _, _, rfl⟩) ?_ (hE := hE)
  iterate 11 walk1
  (rename Addr => t1)
  iterate 11 walk1
  (rename Fr _ _ _ _ => F1)
  (rename News _ _ _ _ => N1)
  (rename Addr => t2)
  (try clear F); (try clear N)
  refine newList_K F1 N1 (fun la h2 F2 N2 _ => ?_)
  clear F1 N1
  obtain ⟨all, hall, N2⟩ : ∃ all, all = [(t2, ({ cls := .type "tuple", data := .seq #[.ref lu, .ref ls, .ref lf] } : Obj)), (t1, ({ cls := .type "tuple", data := .seq #[.ref lm, .ref lf, .ref ls] } : Obj)), (lm, listOf us.toArray q), (lu, listOf ws.toArray k), (ls, listOf vs2.toArray c2), (lf, listOf vs1.toArray c1), (base.objs.size + 1 + 1 + 1, o3), (base.objs.size + 1 + 1, o2), (base.objs.size + 1, o1)] ∧ News base base.objs.size h2 ((la, listOf #[.ref t1, .ref t2] 0) :: all) := ⟨_, rfl, N2⟩
  refine ⟨la, #[.ref t1, .ref t2], 0, _, all, fun _ _ nx => nx = all, rfl, rfl, F2, N2, rfl, ?_, ?_⟩
  · intro I i v m₁ nx h tk oI hoffk hcls hv hJ hoff F5 N5
    obtain rfl : nx = all := hJ
    clear F2 N2
    obtain ⟨t, lt, lr, lo, vt, vr, vo, qt, qr, qo, tn, rn, on, rfl, ht, hlt, hlr, hlo, It, Ir, Io, nt, nr, no, hco⟩ : ∃ t lt lr lo, ∃ vt vr vo : List Value, ∃ qt qr qo : Nat, ∃ tn rn on : List Int, v = .ref t ∧ (t, ({ cls := .type "tuple", data := .seq #[.ref lt, .ref lr, .ref lo] } : Obj)) ∈ nx ∧ (lt, listOf vt.toArray qt) ∈ nx ∧ (lr, listOf vr.toArray qr) ∈ nx ∧ (lo, listOf vo.toArray qo) ∈ nx ∧
        IntsAre vt tn ∧ IntsAre vr rn ∧ IntsAre vo on ∧ tn.length ≤ 63 ∧ rn.length ≤ 63 ∧ on.length ≤ 63 ∧ countsOk tn rn on := by
      rcases i with _ | _ | i
      · exact ⟨t1, lm, lf, ls, us, vs1, vs2, q, c1, c2, (sld ns1 ns2).1, ns1, ns2, by simpa using hv.symm, by simp [hall], by simp [hall], by simp [hall], by simp [hall], J1, I1, I2, Nat.le_trans (sld_len1 ns1 ns2) l1, l1, l2, sld_counts1 ns1 ns2 p1 p2 z1⟩
      · exact ⟨t2, lu, ls, lf, ws, vs2, vs1, k, c2, c1, (sld ns1 ns2).2, ns2, ns1, by simpa using hv.symm, by simp [hall], by simp [hall], by simp [hall], by simp [hall], J2, I2, I1, Nat.le_trans (sld_len2 ns1 ns2) l2, l2, l1, sld_counts2 ns1 ns2 p1 p2 z2⟩
      · simp at hv
    clear hall hv
    refine assign_tup (items := #[.ref lt, .ref lr, .ref lo]) (n := 0) (by rfl) F5 N5 (.tail _ (.tail _ ht)) (by rfl) (by rfl) (fun h' F6 N6 => ?_)
    clear F5 N5
    iterate 12 walk1
    iterate 14 walk1
    (rename Fr _ _ _ _ => F7)
    (rename News _ _ _ _ => N7)
    (try clear F6); (try clear N6)
    refine newList_K F7 N7 (fun l9 h8 F8 N8 hl9 => ?_)
    have hlo9 := N8 _ (.tail _ (.tail _ (.tail _ hlo)))
    refine add_lists_ints F8 N8 ⟨_, hlo9.1, rfl, _, rfl⟩ ⟨_, (N8 _ (.head _)).1, rfl, _, rfl⟩ Io (ms := [-1]) (vs := vo) (ws := [_]) (.cons _ _ .nil) (fun h10 F10 N10 I10 => ?_) (by simp only [List.length_singleton]; rw [sizeLine_eq]; omega)
    clear F7 N7 F8 N8
    walk1
    refine max_list_N (by rfl) F10 N10 ⟨_, (N10 _ (.head _)).1, rfl, _, rfl⟩ I10 (by simp) (fun h11 M tM tk11 F11 N11 hM hmx => ?_)
    clear F10 N10
    replace N11 : News base base.objs.size h11 ((I, oI) :: (la, listOf #[.ref t1, .ref t2] 0) :: nx) := fun p hp => N11 p (.tail _ (.tail _ hp))
    iterate 3 walk1
    (rename Fr _ _ _ _ => F12)
    (rename News _ _ _ _ => N12)
    (try clear F11); (try clear N11)
    refine for_made F12 (.inl fun _ _ => rfl) ?_ (hE := hE)
    iterate 7 walk1
    refine call68m (n := qt) B F12 X N12 T (.tail _ (.tail _ hlt)) It (by rfl) (by decide) (by decide) nt fun r13 us13 k13 h13 tk13 F13 N13 I13 => ?_
    clear F12 N12
    refine ⟨r13, us13.toArray, k13, _, (I, oI) :: (la, listOf #[.ref t1, .ref t2] 0) :: nx, fun _ m₂ nx2 => m₂ (Str.ofString "told") = some (.ref lt) ∧ m₂ (Str.ofString "row") = some (.ref lr) ∧ m₂ (Str.ofString "top") = some (.int M tM) ∧ nx2 = (I, oI) :: (la, listOf #[.ref t1, .ref t2] 0) :: nx, rfl, rfl, F13, N13, ⟨by rfl, by rfl, by rfl, rfl⟩, ?_, ?_⟩
    · intro I2 i2 v2 m₂ nx2 h14 tk14 oI2 hoffk2 hcls2 hv2 hJ2 hoff2 F14 N14
      obtain ⟨g1, g2, g3, rfl⟩ := hJ2
      obtain ⟨x, tx, rfl, hx⟩ := IntsAre.at I13 i2 v2 (by simpa using hv2)
      have hxm : x ∈ once tn := List.mem_of_getElem? hx
      have hc := hco M hM hmx x hxm
      replace F14 := pin3 F14 g1 g2 g3
      clear F13 N13
      obtain ⟨all2, hal2, N14⟩ : ∃ all2, (∀ p ∈ (I2, oI2) :: (r13, listOf us13.toArray k13) :: (I, oI) :: (la, listOf #[.ref t1, .ref t2] 0) :: nx, p ∈ all2) ∧ News base base.objs.size h14 all2 := ⟨_, fun _ h => h, N14⟩
      replace N14 : News base base.objs.size h14 ((lt, listOf vt.toArray qt) :: (lr, listOf vr.toArray qr) :: all2) := fun p hp => by
        rcases List.mem_cons.mp hp with rfl | hp
        · exact N14 _ (hal2 _ (.tail _ (.tail _ (.tail _ (.tail _ hlt)))))
        · rcases List.mem_cons.mp hp with rfl | hp
          · exact N14 _ (hal2 _ (.tail _ (.tail _ (.tail _ (.tail _ hlr)))))
          · exact N14 _ hp
      iterate 20 walk1
      have fin : ∀ h' m' tk', Fr base base.objs.size h' m' → News base base.objs.size h' ((lt, listOf vt.toArray qt) :: (lr, listOf vr.toArray qr) :: all2) → m' (Str.ofString "told") = some (.ref lt) → m' (Str.ofString "row") = some (.ref lr) → m' (Str.ofString "top") = some (.int M tM) →
          ∃ h'' tk'' m'' nx', ({ s with heap := h', toks := tk' } : Shared) = { s with heap := h'', toks := tk'' } ∧ Fr base base.objs.size h'' m'' ∧ News base base.objs.size h'' ((I2, oI2) :: ([(r13, listOf us13.toArray k13)] ++ nx')) ∧ (∀ p ∈ nx', p.1 ≠ I2) ∧ m'' (Str.ofString "told") = some (.ref lt) ∧ m'' (Str.ofString "row") = some (.ref lr) ∧ m'' (Str.ofString "top") = some (.int M tM) ∧ nx' = (I, oI) :: (la, listOf #[.ref t1, .ref t2] 0) :: nx :=
        fun h' m' tk' F' N' a1 a2 a3 => ⟨h', tk', m', _, rfl, F', fun p hp => N' p (.tail _ (.tail _ (hal2 p hp))), hoff2, a1, a2, a3, rfl⟩
      by_cases hMx : M < x
      · rw [if_pos (by simpa using hMx)]
        iterate 10 walk1
        rw [if_neg (by rw [hc, if_pos hMx]; simp)]
        iterate 3 walk1
        (rename Fr _ _ _ _ => F15)
        (rename News _ _ _ _ => N15)
        exact fin _ _ _ F15 N15 (by rfl) (by rfl) (by rfl)
      · rw [if_neg (by simpa using hMx)]
        iterate 3 walk1
        rw [if_neg (by rw [hc, if_neg hMx]; simp)]
        iterate 3 walk1
        (rename Fr _ _ _ _ => F15)
        (rename News _ _ _ _ => N15)
        exact fin _ _ _ F15 N15 (by rfl) (by rfl) (by rfl)
    · intro h14 tk14 m₂ nx2 hJ2 F14 N14
      obtain ⟨g1, g2, g3, rfl⟩ := hJ2
      walk1
      exact ⟨h14, _, m₂, nx, rfl, F14, fun p hp => N14 p (by simp only [List.cons_append, List.nil_append, List.mem_cons] at hp ⊢; rcases hp with rfl | rfl | hp <;> simp_all), hoff, rfl⟩
  · intro h tk m₁ nx hJ F5 N5
    obtain rfl : nx = all := hJ
    clear F2 N2
    subst hall
    refine hD (c1 := c1) (c2 := c2) F5 B X T (fun p hp => N5 p ?_) d1 d2 d3 hL hI I1 I2 hlen l1 l2 p1 p2 z1 z2 hne hQ hE
    simp only [List.mem_cons, List.not_mem_nil, or_false] at hp ⊢
    rcases hp with rfl | rfl | rfl | rfl | rfl <;> simp
end Mine

-- LD
namespace Mine
open PySem PySem.W PyProof.Rows PySem.Calls
set_option maxRecDepth 100000
set_option maxHeartbeats 1000000
theorem offLD : True := by (w_top off; trivial)
theorem lawD_ok (hE8 : lawE.Ok) : lawD.Ok := by
  intro w mean mg mb base fa cd m s Q E lsc lf ls o1 o2 o3 vs vs1 vs2 c1 c2 ns ns1 ns2 F B X T N d1 d2 d3 hL hI I1 I2 hlen l1 l2 p1 p2 z1 z2 hne hQ hE
  revert X; k_fill; intro X
  unfold lawP at hE ⊢
  dsimp only [PySem.Challenge.pw_xb0010_01, List.getLast?, List.getLast, List.drop]
  iterate 13 walk1
  (rename Addr => A1)
  (rename _ ∧ _ => g1)
  iterate 10 walk1
  (rename Fr _ _ _ _ => F1)
  (rename News _ _ _ _ => N1)
  (rename Addr => A2)
  (rename _ ∧ _ => g2)
  (try clear F); (try clear N)
  refine call28 F1 X N1 T (by rfl) (by decide) (by decide) I1 I2 l1 l2 (Nat.ne_of_gt g2.1) (fun p hp => ?_) (fun p hp => ?_) (fun r lm us q ws k nt h3 tk3 F3 N3 J1 J2 => ?_)
  · obtain ⟨_, b1, b2, b3, b4, b5⟩ := g2
    simp only [List.mem_cons, List.not_mem_nil, or_false] at hp
    rcases hp with rfl | rfl | rfl | rfl | rfl <;> (apply Nat.ne_of_lt; assumption)
  · obtain ⟨b1, b2, b3, b4, b5⟩ := g1
    simp only [List.mem_cons, List.not_mem_nil, or_false] at hp
    rcases hp with rfl | rfl | rfl | rfl | rfl <;> (apply Nat.ne_of_lt; assumption)
  clear F1 N1
  have k1 : us.length ≤ 63 := by rw [J1.length]; exact Nat.le_trans (uld_len1 _ _) (by rw [List.length_reverse]; exact l1)
  have k2 : ws.length ≤ 63 := by rw [J2.length]; exact Nat.le_trans (uld_len2 _ _) l2
  iterate 19 walk1
  (rename Fr _ _ _ _ => F4)
  (rename News _ _ _ _ => N4)
  (try clear F3); (try clear N3)
  refine sorted_N F4 N4 ⟨_, (N4 (lm, listOf us.toArray q) (by simp)).1, rfl, _, rfl⟩ J1 (by omega) fun h5 vs5 ns5 e5 F5 N5 I5 P5 S5 => ?_
  clear F4 N4
  iterate 9 walk1
  refine call75m (n := c1) (k := c2) B F5 X N5 T (by rfl) (by simp) (by simp) (by decide) (by decide) I1 I2 l1 l2 (fun r6 us6 k6 h6 tk6 n6 F6 N6 P6 S6 I6 => ?_)
  obtain rfl := uld_more1 ns1 ns2 n6 ns5 P5 S5 P6 S6
  refine ne_intsK ⟨_, (N6 _ (.tail _ (.head _))).1, rfl, _, rfl⟩ I5 ⟨_, (N6 _ (.head _)).1, rfl, _, rfl⟩ I6 (by units_room) ?_
  refine wpAny_truthy_bool ?_
  rw [if_neg (by simp)]
  iterate 8 walk1
  refine sorted_N F6 N6 ⟨_, (N6 _ (.tail _ (.tail _ (.tail _ (.tail _ (.head _)))))).1, rfl, _, rfl⟩ J2 (by omega) fun h7 vs7 ns7 e7 F7 N7 I7 P7 S7 => ?_
  clear F6 N6
  iterate 9 walk1
  refine call75m (n := c2) (k := c1) B F7 X N7 T (by rfl) (by simp) (by simp) (by decide) (by decide) I2 I1 l2 l1 (fun r8 us8 k8 h8 tk8 n8 F8 N8 P8 S8 I8 => ?_)
  obtain rfl := uld_more2 ns1 ns2 n8 ns7 P7 S7 P8 S8
  refine ne_intsK ⟨_, (N8 _ (.tail _ (.head _))).1, rfl, _, rfl⟩ I7 ⟨_, (N8 _ (.head _)).1, rfl, _, rfl⟩ I8 (by units_room) ?_
  refine wpAny_truthy_bool ?_
  clear F7 N7
  simp only [decide_true, Bool.not_true, Bool.false_eq_true, if_false]
  iterate 3 walk1
  refine hE8 F8 B X T (fun p hp => N8 p ?_) d1 hL hI hlen hQ hE
  rw [List.mem_singleton.mp hp]
  simp
end Mine

-- LE
namespace Mine
open PySem PySem.W PyProof.Rows PySem.Calls
set_option maxRecDepth 100000
set_option maxHeartbeats 1000000
theorem offLE : True := by (w_top off; trivial)
theorem lawE_ok (hF : lawF.Ok) : lawE.Ok := by
  intro w mean mg mb base fa cd m s Q E lsc o1 vs ns F B X T N d1 hL hI hlen hQ hE
  revert X; k_fill; intro X
  have hE0 := hE
  unfold lawP at hE ⊢
  dsimp only [PySem.Challenge.pw_xb0010_01, List.getLast?, List.getLast, List.drop]
  walk1
  refine asg_tup2 (h₀ := base) (L := base.objs.size) (fun a => a.fmod 5) (fun a => (a.fdiv 5).fmod 5) (by with_unfolding_all rfl) (by rfl) (by rfl) (by with_unfolding_all rfl) (by decide) (by rfl) (by decide) (by rfl) (by rfl) (by with_unfolding_all rfl) ?_
  walk1
  refine ⟨lsc, vs, ns, m, [(base.objs.size + 1, o1)], rfl, hL.at fun o e => F.keep _ o e, hI, hlen, F, N, ?_, ?_⟩
  · intro C a t s₂ m₂ E' hn hm
    clear F N
    iterate 15 walk1
    unfold newTuple
    refine wpAny_newObj_type ⟨_, _, _, _, rfl, fun _ _ e => e, rfl⟩
  · intro D h' tk Ts kn tups F' N' hTl hTs
    dsimp only
    obtain ⟨nw, hnw, N'⟩ : ∃ nw, nw = (D, listOf (Ts.map Value.ref).toArray kn) :: (tups ++ [(base.objs.size + 1, o1)]) ∧ News base base.objs.size h' nw := ⟨_, rfl, N'⟩
    have hc : (base.objs.size + 1, o1) ∈ nw := by rw [hnw]; simp
    have hp : (D, listOf (Ts.map Value.ref).toArray kn) ∈ nw := by rw [hnw]; exact .head _
    have hTs' : ∀ (j : Nat) (T : Addr), Ts[j]? = some T → ∃ ta tb a, ns[j]? = some a ∧ (T, tup2 (a.fmod 5) ((a.fdiv 5).fmod 5) ta tb 0) ∈ nw := fun j T hj => by
      obtain ⟨ta, tb, a, ha, hm⟩ := hTs j T hj
      exact ⟨ta, tb, a, ha, by rw [hnw]; exact List.mem_cons_of_mem _ (List.mem_append_left _ hm)⟩
    clear hnw hTs F N
    generalize hb : execs _ _ = t
    exact hF F' B X T N' hc hp (if_pos rfl) hTl hTs' d1 hL hI hlen hQ hb hE0
end Mine

-- LG0
namespace Mine
open PySem PySem.W PyProof.Rows PySem.Calls
set_option maxRecDepth 100000
set_option maxHeartbeats 1000000
theorem offLG0 : True := by (w_top off; trivial)
theorem pin7 {h₀ h : Heap} {L : Addr} {m : Str → Option Value} {x₁ x₂ x₃ x₄ x₅ x₆ x₇ : Str} {v₁ v₂ v₃ v₄ v₅ v₆ v₇ : Value} (F : Fr h₀ L h m) (h1 : m x₁ = some v₁) (h2 : m x₂ = some v₂) (h3 : m x₃ = some v₃) (h4 : m x₄ = some v₄) (h5 : m x₅ = some v₅) (h6 : m x₆ = some v₆) (h7 : m x₇ = some v₇) :
    Fr h₀ L h (fun y => if y = x₁ then some v₁ else if y = x₂ then some v₂ else if y = x₃ then some v₃ else if y = x₄ then some v₄ else if y = x₅ then some v₅ else if y = x₆ then some v₆ else if y = x₇ then some v₇ else m y) :=
  pin1 (pin6 F h2 h3 h4 h5 h6 h7) (by (repeat' split) <;> simp_all)
theorem cmp3_val (x y : Int) : cmp3 x y = if x < y then -1 else if y < x then 1 else 0 := by
  unfold cmp3 b2i
  by_cases h1 : y < x
  · simp [h1, show ¬ x < y by omega]
  · by_cases h2 : x < y <;> simp [h1, h2]
theorem cmpT_lt {i e : Int} {p q : Int × Int} {r : List (Int × Int)} (h : pairSel i p < pairSel i q) : cmpT ((i, e) :: r) p q = -e := if_pos h
theorem cmpT_gt {i e : Int} {p q : Int × Int} {r : List (Int × Int)} (h : pairSel i q < pairSel i p) : cmpT ((i, e) :: r) p q = e := (if_neg (by omega)).trans (if_pos h)
theorem cmpT_eq {i e : Int} {p q : Int × Int} {r : List (Int × Int)} (h : ¬ pairSel i p < pairSel i q) (h' : ¬ pairSel i q < pairSel i p) : cmpT ((i, e) :: r) p q = cmpT r p q := (if_neg h).trans (if_neg h')
theorem cmpT_snoc (ix d : Int) (p q : Int × Int) : ∀ (l : List (Int × Int)), (∀ y ∈ l, y.2 = 1 ∨ y.2 = -1) → cmpT (l ++ [(ix, d)]) p q = if cmpT l p q = 0 then d * cmp3 (pairSel ix p) (pairSel ix q) else cmpT l p q
  | [], _ => by
    show cmpT [(ix, d)] p q = if (0 : Int) = 0 then _ else _
    rw [if_pos rfl, cmp3_val]
    by_cases c1 : pairSel ix p < pairSel ix q
    · rw [cmpT_lt c1, if_pos c1]; omega
    · by_cases c2 : pairSel ix q < pairSel ix p
      · rw [cmpT_gt c2, if_neg c1, if_pos c2]; omega
      · rw [cmpT_eq c1 c2, if_neg c1, if_neg c2]; simp [cmpT]
  | (i, e) :: r, h => by
    have ih := cmpT_snoc ix d p q r fun y hy => h y (.tail _ hy)
    have he : e = 1 ∨ e = -1 := h (i, e) (.head _)
    rw [List.cons_append]
    by_cases c1 : pairSel i p < pairSel i q
    · rw [cmpT_lt c1, cmpT_lt c1, if_neg (by omega)]
    · by_cases c2 : pairSel i q < pairSel i p
      · rw [cmpT_gt c2, cmpT_gt c2, if_neg (by omega)]
      · rw [cmpT_eq c1 c2, cmpT_eq c1 c2, ih]
theorem cmpT_swap (p q : Int × Int) : ∀ l : List (Int × Int), cmpT l q p = 0 - cmpT l p q
  | [] => rfl
  | (i, e) :: r => by
    have ih := cmpT_swap p q r
    simp only [cmpT]
    by_cases c1 : pairSel i p < pairSel i q
    · rw [if_pos c1, if_neg (by omega), if_pos c1]; omega
    · by_cases c2 : pairSel i q < pairSel i p
      · rw [if_pos c2, if_neg c1, if_pos c2]; omega
      · rw [if_neg c2, if_neg c1, if_neg c1, if_neg c2]; exact ih
theorem cmpT_self (p : Int × Int) : ∀ l : List (Int × Int), cmpT l p p = 0
  | [] => rfl
  | (i, e) :: r => by
    simp only [cmpT]
    rw [if_neg (by omega), if_neg (by omega)]
    exact cmpT_self p r
theorem cmpT_bound (p q : Int × Int) : ∀ l : List (Int × Int), (∀ y ∈ l, y.2 = 1 ∨ y.2 = -1) → (cmpT l p q).natAbs ≤ 1
  | [], _ => by simp [cmpT]
  | (i, e) :: r, h => by
    have ih := cmpT_bound p q r fun y hy => h y (.tail _ hy)
    have he := h (i, e) (.head _)
    simp only [cmpT] at he ⊢
    split
    · omega
    · split
      · omega
      · exact ih
def wayB : List Stmt :=
  match lawP.1.drop 9 with
  | .For _ _ body _ _ :: _ => body
  | _ => []
def kB : List Stmt :=
  match wayB with
  | [_, .For _ _ body _ _] => body
  | _ => []
section
variable {prog : Program} {w : World} {A : Around} {E : Value → Shared → Prop} {s : Shared} {env : Env} {h₀ : Heap} {m : Str → Option Value} {news : List (Addr × Obj)} {Q : Flow → Shared → Prop} {body : List Stmt} {target : Expr}
/-- for_made at a tree that is named -/
theorem for_made_t {iter : Expr} {pos : Pos} {t : Sem Flow} {ti : Sem Value} (hb : exec (.For target iter body [] pos) env = t) (hi : eval iter env = ti) (F₀ : Fr h₀ env.locals s.heap m)
    (ht : (∀ it v, letOwnedTupleGo target it v = pure ()) ∨ ∃ elts k p, target = .Tuple elts k p)
    (h : wpAny (model prog w) A ti (fun xv s₁ => ∃ ax its k m news, ∃ J : Nat → (Str → Option Value) → List (Addr × Obj) → Prop, xv = .ref ax ∧ A.handled = none ∧ Fr h₀ env.locals s₁.heap m ∧ News h₀ env.locals s₁.heap ((ax, listOf its k) :: news) ∧ J 0 m news ∧
      (∀ I i v m₁ nx h tk oI, (∀ p ∈ (ax, listOf its k) :: news, p.1 ≠ I) → oI.cls = .type "list_iterator" → its[i]? = some v → J i m₁ nx → (∀ p ∈ nx, p.1 ≠ I) → Fr h₀ env.locals h m₁ → News h₀ env.locals h ((I, oI) :: (ax, listOf its k) :: nx) →
        wpAny (model prog w) A (assign target env (v : Value)) (fun _ s₂ => wpAny (model prog w) A (execs body env) (LStep h₀ env.locals I oI [(ax, listOf its k)] (J (i + 1)) s₁ Q) E s₂) E { s₁ with heap := h, toks := tk }) ∧
      (∀ h tk m₁ nx, J its.size m₁ nx → Fr h₀ env.locals h m₁ → News h₀ env.locals h ((ax, listOf its k) :: nx) → Q .next { s₁ with heap := h, toks := tk })) E s)
    (hs : ∀ x, foldedSetIterable iter env x = pure x)
    (hE : PassesOwn (model prog w) A env E) : wpAny (model prog w) A t Q E s := by
  subst hb
  subst hi
  exact for_made F₀ ht h hs hE
/-- for_range at a tree that is named -/
theorem for_range_t {iter : Expr} {pos : Pos} {x : Str} {px : Pos} {t : Sem Flow} {ti : Sem Value} (hb : exec (.For (.Name x px) iter body [] pos) env = t) (hi : eval iter env = ti) (F₀ : Fr h₀ env.locals s.heap m)
    (h : wpAny (model prog w) A ti (fun xv s₁ => ∃ r a b t u v n m news, ∃ J : Nat → (Str → Option Value) → List (Addr × Obj) → Prop, xv = .ref r ∧ A.handled = none ∧ IsRange s₁.heap r a b 1 t u v ∧ Builtin.Range.small a b 1 = true ∧ Builtin.Range.rangeSize a b 1 = ((n : Nat) : Int) ∧
      Fr h₀ env.locals s₁.heap m ∧ News h₀ env.locals s₁.heap news ∧ J 0 m news ∧
      (∀ I i ti m₁ nx h tk oI, (∀ p ∈ news, p.1 ≠ I) → oI.cls = .type "range_iterator" → i < n → J i m₁ nx → (∀ p ∈ nx, p.1 ≠ I) → Fr h₀ env.locals h m₁ → News h₀ env.locals h ((I, oI) :: nx) →
        wpAny (model prog w) A (assign (.Name x px) env (.int (a + (i : Nat)) ti)) (fun _ s₂ => wpAny (model prog w) A (execs body env) (LStep h₀ env.locals I oI [] (J (i + 1)) s₁ Q) E s₂) E { s₁ with heap := h, toks := tk }) ∧
      (∀ h tk m₁ nx, J n m₁ nx → Fr h₀ env.locals h m₁ → News h₀ env.locals h nx → Q .next { s₁ with heap := h, toks := tk })) E s)
    (hs : ∀ x, foldedSetIterable iter env x = pure x)
    (hE : PassesOwn (model prog w) A env E) : wpAny (model prog w) A t Q E s := by
  subst hb
  subst hi
  exact for_range F₀ h hs hE
end
/-- the ways, written out -/
def WaysIn (news : List (Addr × Obj)) (its : List Value) (ways : List (Int × Int)) : Prop :=
  its.length = ways.length ∧ ∀ (i : Nat) (v : Value), its[i]? = some v → ∃ p ix d k k' n, v = .ref p ∧ (p, tup2 ix d k k' n) ∈ news ∧ ways[i]? = some (ix, d) ∧ (ix = 0 ∨ ix = 1) ∧ (d = 1 ∨ d = -1)

theorem WaysIn.mono {news news' : List (Addr × Obj)} {its : List Value} {ways : List (Int × Int)} (h : WaysIn news its ways) (hs : ∀ p ∈ news, p ∈ news') : WaysIn news' its ways := by
  refine ⟨h.1, fun i v hv => ?_⟩
  obtain ⟨p, ix, d, k, k', n, e, hm, r⟩ := h.2 i v hv
  exact ⟨p, ix, d, k, k', n, e, hs _ hm, r⟩

theorem WaysIn.dir {news : List (Addr × Obj)} {its : List Value} {ways : List (Int × Int)} (h : WaysIn news its ways) : ∀ y ∈ ways, y.2 = 1 ∨ y.2 = -1 := by
  intro y hy
  obtain ⟨i, hi, rfl⟩ := List.getElem_of_mem hy
  have hl := h.1
  obtain ⟨p, ix, d, _, _, _, _, _, e, _, hd⟩ := h.2 i its[i] (List.getElem?_eq_getElem (by omega))
  rw [List.getElem?_eq_getElem hi] at e
  rw [Option.some.inj e]
  exact hd

def lawG.Ok : Prop := ∀ {w : World} {mean : ExcName → Option Value} {mg mb : Str → Option Value} {base : Heap} {fa cd : Addr} {m : Str → Option Value} {s : Shared} {Q : Flow → Shared → Prop} {E : Value → Shared → Prop}
    {lsc : Addr} {o1 : Obj} {vs : List Value} {ns : List Int} {lp : Addr} {Ts : List Addr} {kn : Nat} {news : List (Addr × Obj)} {wl : Addr} {its : List Value} {nw : Nat} {ways : List (Int × Int)} {t : Sem Flow}
    (xF : Fr base base.objs.size s.heap m) (xB : Below callerA base [] base) (xX : (hd.heap_39 w.params).In base) (xT : Top hd.view_39 (looseW hd.view_39 []) mean mg mb base)
    (xN : News base base.objs.size s.heap news)
    (xhc : (base.objs.size + 1, o1) ∈ news) (xhp : (lp, listOf (Ts.map Value.ref).toArray kn) ∈ news) (xm1 : m (Str.ofString "pairs") = some (.ref lp)) (xm2 : m (Str.ofString "way") = some (.ref wl)) (xhTl : Ts.length = ns.length) (xhTs : ∀ (j : Nat) (T : Addr), Ts[j]? = some T → ∃ ta tb a, ns[j]? = some a ∧ (T, tup2 (a.fmod 5) ((a.fdiv 5).fmod 5) ta tb 0) ∈ news)
    (xhwl : (wl, listOf its.toArray nw) ∈ news) (xhW : WaysIn news its ways)
    (xd1 : o1.data = .cell (some (.ref lsc)))
    (xhL : base.IsList lsc vs.toArray) (xhI : IntsAre vs ns) (xhlen : ns.length ≤ 63)
    (xhQ : ∀ h' tk' m', Fr base base.objs.size h' m' → News base base.objs.size h' news → m' (Str.ofString "pairs") = some (.ref lp) → Q .next { s with heap := h', toks := tk' })
    (xhb : execs wayB (envOfC (Str.ofString "law") lawP.2 base.objs.size fa (.ref cd)) = t) (xhE : PassesOwn (model PySem.Challenge.rw_xb0010_01.row.prog w) (callerA.deeper (envOfC (Str.ofString "law") lawP.2 base.objs.size fa (.ref cd))) (envOfC (Str.ofString "law") lawP.2 base.objs.size fa (.ref cd)) E),
    wpAny (model PySem.Challenge.rw_xb0010_01.row.prog w) (callerA.deeper (envOfC (Str.ofString "law") lawP.2 base.objs.size fa (.ref cd))) t Q E s


abbrev kNews (base : Heap) (q x dx lp wl : Addr) (hsh : Int) (tk0 : Tok) (nd kn nw : Nat) (Ts : List Addr) (its : List Value) (o1 : Obj) (news : List (Addr × Obj)) : List (Addr × Obj) :=
  (q, methodObj (.ref 56) (.ref x)) :: (x, instObj 59 dx) :: (dx, dictOf [⟨hsh, .str "comp_select_list" tk0, .ref wl⟩] nd) :: (lp, listOf (Ts.map Value.ref).toArray kn) :: (wl, listOf its.toArray nw) :: (base.objs.size + 1, o1) :: news
def lawK.Ok : Prop := ∀ {w : World} {mean : ExcName → Option Value} {mg mb : Str → Option Value} {base : Heap} {fa cd : Addr} {m : Str → Option Value} {s : Shared} {Q : Flow → Shared → Prop} {E : Value → Shared → Prop}
    {lsc : Addr} {o1 : Obj} {vs : List Value} {ns : List Int} {lp : Addr} {Ts : List Addr} {kn : Nat} {news : List (Addr × Obj)} {wl : Addr} {its : List Value} {nw : Nat} {ways : List (Int × Int)} {q x dx : Addr} {hsh : Int} {tk0 tkk : Tok} {nd i : Nat} {t : Sem Flow}
    (xF : Fr base base.objs.size s.heap m) (xB : Below callerA base [] base) (xX : (hd.heap_39 w.params).In base) (xT : Top hd.view_39 (looseW hd.view_39 []) mean mg mb base)
    (xN : News base base.objs.size s.heap (kNews base q x dx lp wl hsh tk0 nd kn nw Ts its o1 news))
    (xm1 : m (Str.ofString "pairs") = some (.ref lp)) (xm2 : m (Str.ofString "way") = some (.ref wl)) (xm3 : m (Str.ofString "compare") = some (.ref q)) (xm4 : m (Str.ofString "k") = some (.int (1 + (i : Nat)) tkk)) (xhi : i + 1 < ns.length) (xhTl : Ts.length = ns.length) (xhTs : ∀ (j : Nat) (T : Addr), Ts[j]? = some T → ∃ ta tb a, ns[j]? = some a ∧ (T, tup2 (a.fmod 5) ((a.fdiv 5).fmod 5) ta tb 0) ∈ news)
    (xhW : WaysIn news its ways)
    (xd1 : o1.data = .cell (some (.ref lsc)))
    (xhL : base.IsList lsc vs.toArray) (xhI : IntsAre vs ns) (xhlen : ns.length ≤ 63)
    (xhQ : ∀ h' tk' m', Fr base base.objs.size h' m' → News base base.objs.size h' (kNews base q x dx lp wl hsh tk0 nd kn nw Ts its o1 news) → m' (Str.ofString "pairs") = some (.ref lp) → m' (Str.ofString "way") = some (.ref wl) → m' (Str.ofString "compare") = some (.ref q) → Q .next { s with heap := h', toks := tk' })
    (xhb : execs kB (envOfC (Str.ofString "law") lawP.2 base.objs.size fa (.ref cd)) = t) (xhE : PassesOwn (model PySem.Challenge.rw_xb0010_01.row.prog w) (callerA.deeper (envOfC (Str.ofString "law") lawP.2 base.objs.size fa (.ref cd))) (envOfC (Str.ofString "law") lawP.2 base.objs.size fa (.ref cd)) E),
    wpAny (model PySem.Challenge.rw_xb0010_01.row.prog w) (callerA.deeper (envOfC (Str.ofString "law") lawP.2 base.objs.size fa (.ref cd))) t Q E s

def lawL.Ok : Prop := ∀ {w : World} {mean : ExcName → Option Value} {mg mb : Str → Option Value} {base : Heap} {fa cd : Addr} {m : Str → Option Value} {s : Shared} {Q : Flow → Shared → Prop} {E : Value → Shared → Prop}
    {lsc : Addr} {o1 : Obj} {vs : List Value} {ns : List Int} {lp : Addr} {Ts : List Addr} {kn : Nat} {news : List (Addr × Obj)} {wl : Addr} {its : List Value} {nw : Nat} {ways : List (Int × Int)} {q x dx : Addr} {hsh : Int} {tk0 tkk : Tok} {nd i : Nat} {T1 T2 : Addr} {a1 a2 : Int} {ta1 tb1 ta2 tb2 tkd : Tok} {t : Sem Flow}
    (xF : Fr base base.objs.size s.heap m) (xB : Below callerA base [] base) (xX : (hd.heap_39 w.params).In base) (xT : Top hd.view_39 (looseW hd.view_39 []) mean mg mb base)
    (xN : News base base.objs.size s.heap (kNews base q x dx lp wl hsh tk0 nd kn nw Ts its o1 news))
    (xm1 : m (Str.ofString "pairs") = some (.ref lp)) (xm2 : m (Str.ofString "way") = some (.ref wl)) (xm3 : m (Str.ofString "compare") = some (.ref q)) (xm4 : m (Str.ofString "k") = some (.int (1 + (i : Nat)) tkk)) (xhi : i + 1 < ns.length)
    (xm5 : m (Str.ofString "one") = some (.ref T1)) (xm6 : m (Str.ofString "other") = some (.ref T2)) (xm7 : m (Str.ofString "due") = some (.int (cmpT ways (a1.fmod 5, (a1.fdiv 5).fmod 5) (a2.fmod 5, (a2.fdiv 5).fmod 5)) tkd)) (xha1 : ns[i + 1]? = some a1) (xha2 : ns[i]? = some a2) (xhm1 : (T1, tup2 (a1.fmod 5) ((a1.fdiv 5).fmod 5) ta1 tb1 0) ∈ news) (xhm2 : (T2, tup2 (a2.fmod 5) ((a2.fdiv 5).fmod 5) ta2 tb2 0) ∈ news)
    (xhW : WaysIn news its ways)
    (xd1 : o1.data = .cell (some (.ref lsc)))
    (xhL : base.IsList lsc vs.toArray) (xhI : IntsAre vs ns) (xhlen : ns.length ≤ 63)
    (xhQ : ∀ h' tk' m', Fr base base.objs.size h' m' → News base base.objs.size h' (kNews base q x dx lp wl hsh tk0 nd kn nw Ts its o1 news) → m' (Str.ofString "pairs") = some (.ref lp) → m' (Str.ofString "way") = some (.ref wl) → m' (Str.ofString "compare") = some (.ref q) → Q .next { s with heap := h', toks := tk' })
    (xhb : execs (kB.drop 3) (envOfC (Str.ofString "law") lawP.2 base.objs.size fa (.ref cd)) = t) (xhE : PassesOwn (model PySem.Challenge.rw_xb0010_01.row.prog w) (callerA.deeper (envOfC (Str.ofString "law") lawP.2 base.objs.size fa (.ref cd))) (envOfC (Str.ofString "law") lawP.2 base.objs.size fa (.ref cd)) E),
    wpAny (model PySem.Challenge.rw_xb0010_01.row.prog w) (callerA.deeper (envOfC (Str.ofString "law") lawP.2 base.objs.size fa (.ref cd))) t Q E s

end Mine

-- LG
namespace Mine
open PySem PySem.W PyProof.Rows PySem.Calls
set_option maxRecDepth 100000
set_option maxHeartbeats 1000000
theorem offLG : True := by (w_top off; trivial)
theorem lawG_ok (hK : lawK.Ok) : lawG.Ok := by
  intro w mean mg mb base fa cd m s Q E lsc o1 vs ns lp Ts kn news wl its nw ways t0 F B X T N hc hp m1 m2 hTl hTs hwl hW d1 hL hI hlen hQ hb0 hE
  subst hb0
  revert X; k_fill; intro X
  replace F := pin2 F m1 m2
  have hE0 := hE
  unfold wayB lawP at ⊢
  unfold lawP at hE
  dsimp only [PySem.Challenge.pw_xb0010_01, List.getLast?, List.getLast, List.drop]
  iterate 22 walk1
  (rename Fr base base.objs.size _ _ => F1)
  (rename News base base.objs.size _ _ => N1)
  (try clear F); (try clear N)
  obtain ⟨q, x, dx, hsh, tk0, F2, N2⟩ : ∃ q x dx hsh tk0, Fr base base.objs.size _ (fun y => if y = Str.ofString "compare" then some (.ref q) else if y = Str.ofString "pairs" then some (.ref lp) else if y = Str.ofString "way" then some (.ref wl) else m y) ∧ News base base.objs.size _ ((q, methodObj (.ref 56) (.ref x)) :: (x, instObj 59 dx) :: (dx, dictOf [⟨hsh, .str (Str.ofString "comp_select_list") tk0, .ref wl⟩] 1) :: news) := ⟨_, _, _, _, _, F1, N1⟩
  clear F1 N1
  obtain ⟨all, hall, N2⟩ : ∃ all, all = _ ∧ News base base.objs.size _ all := ⟨_, rfl, N2⟩
  walk1
  generalize hb : exec _ _ = t
  refine for_range_t hb rfl F2 ?_ (by intro _; rfl) hE
  clear hb t
  try clear qk
  try clear ek
  iterate 12 walk1
  refine len_list (items := (Ts.map Value.ref).toArray) ⟨_, (N2 (lp, listOf (Ts.map Value.ref).toArray kn) (by rw [hall]; simp [hp])).1, rfl, _, rfl⟩ (by simp; omega) ?_
  iterate 1 walk1
  refine call_range_2 ?_
  dsimp only
  have hTl63 : Ts.length ≤ 63 := by omega
  refine ⟨_, _, _, _, _, _, Ts.length - 1, _, all, fun _ m₁ nx => m₁ (Str.ofString "pairs") = some (.ref lp) ∧ m₁ (Str.ofString "way") = some (.ref wl) ∧ m₁ (Str.ofString "compare") = some (.ref q) ∧ nx = all, rfl, rfl, IsRange.new _ _ _ _ _ _ _, small_one (by decide) (by decide) (by simp) (by simp; omega), ?_, F2.keeps (fun _ _ e => Heap.get?_push_of_some _ e), N2.grown (fun _ _ e => Heap.get?_push_of_some _ e), ⟨by rfl, by rfl, by rfl, rfl⟩, ?_, ?_⟩
  · rw [rangeSize_one]; simp; omega
  · intro I i ti m₁ nx h tk oI hoffk hcls hi hJ hoff F5 N5
    obtain ⟨g1, g2, g3, rfl⟩ := hJ
    clear F2 N2
    replace F5 := pin3 F5 g1 g2 g3
    iterate 2 walk1
    (rename Fr base base.objs.size _ _ => F6)
    (rename News base base.objs.size _ _ => N6)
    clear F5 N5
    generalize hb : execs _ _ = t
    have hmem : ∀ p ∈ kNews base q x dx lp wl hsh tk0 1 kn nw Ts its o1 ((I, oI) :: nx), p ∈ (I, oI) :: nx := by
      intro p hp'
      simp only [List.mem_cons] at hp'
      rcases hp' with rfl | rfl | rfl | rfl | rfl | rfl | hp'
      · rw [hall]; simp
      · rw [hall]; simp
      · rw [hall]; simp
      · rw [hall]; simp [hp]
      · rw [hall]; simp [hwl]
      · rw [hall]; simp [hc]
      · exact List.mem_cons.mpr hp'
    have hup : ∀ p ∈ news, p ∈ (I, oI) :: nx := fun p hp' => by rw [hall]; simp [hp']
    refine hK F6 B X T (fun p hp' => N6 p (hmem p hp')) (by rfl) (by rfl) (by rfl) (by rfl) (i := i) (by omega) hTl (fun j U hj => ?_) (hW.mono hup) d1 hL hI hlen ?_ hb hE0
    · obtain ⟨ta, tb, a, ha, hm⟩ := hTs j U hj
      exact ⟨ta, tb, a, ha, hup _ hm⟩
    · intro h' tk' m' F7 N7 e1 e2 e3
      refine LStep.mk F7 N7 (fun p hp' => ?_) hoff ⟨e1, e2, e3, rfl⟩
      have : p ∈ (I, oI) :: nx := by simpa using hp'
      simp only [List.mem_cons] at this ⊢
      simp [this]
  · intro h tk m₁ nx hJ F5 N5
    obtain ⟨g1, g2, g3, rfl⟩ := hJ
    clear F2 N2
    walk1
    exact hQ _ _ _ F5 (fun p hp' => N5 p (by rw [hall]; simp [hp'])) g1
end Mine

-- LK
namespace Mine
open PySem PySem.W PyProof.Rows PySem.Calls
set_option maxRecDepth 100000
set_option maxHeartbeats 1000000
theorem offLK : True := by (w_top off; trivial)
local macro_rules | `(tactic| walk_at "subscriptTail") => `(tactic| ((with_reducible show wpAny _ _ (subscriptTail _ _ (Value.ref _) (Value.int 0 _)) _ _ _); refine sub_t0 (by assumption) (by k_mem) ?_))
local macro_rules | `(tactic| walk_at "subscriptTail") => `(tactic| ((with_reducible show wpAny _ _ (subscriptTail _ _ (Value.ref _) (Value.int 1 _)) _ _ _); refine sub_t1 (by assumption) (by k_mem) ?_))
theorem lawK_ok (hL0 : lawL.Ok) : lawK.Ok := by
  intro w mean mg mb base fa cd m s Q E lsc o1 vs ns lp Ts kn news wl its nw ways q x dx hsh tk0 tkk nd i t0 F B X T N m1 m2 m3 m4 hi hTl hTs hW d1 hL hI hlen hQ hb0 hE
  subst hb0
  have hE0 := hE
  revert X; k_fill; intro X
  replace F := pin4 F m1 m2 m3 m4
  obtain ⟨T1, hT1⟩ : ∃ T1, Ts[i + 1]? = some T1 := ⟨_, List.getElem?_eq_getElem (by omega)⟩
  obtain ⟨T2, hT2⟩ : ∃ T2, Ts[i]? = some T2 := ⟨_, List.getElem?_eq_getElem (by omega)⟩
  obtain ⟨ta1, tb1, a1, ha1, hm1⟩ := hTs _ _ hT1
  obtain ⟨ta2, tb2, a2, ha2, hm2⟩ := hTs _ _ hT2
  unfold kB wayB lawP at ⊢
  unfold lawP at hE
  dsimp only [PySem.Challenge.pw_xb0010_01, List.getLast?, List.getLast, List.drop]
  iterate 7 walk1
  have hlp : s.heap.IsList lp (Ts.map Value.ref).toArray := ⟨_, (N (lp, listOf (Ts.map Value.ref).toArray kn) (by simp)).1, rfl, _, rfl⟩
  have ii : ((1 : Int) + (i : Nat)).toNat = i + 1 := by omega
  refine tail_any hlp.typeIs slot_list_getitem.lookup (wpAny_getItem_list hlp (by omega) (by omega) (x := .ref T1) (by rw [ii]; simp [hT1]) ?_) (by with_unfolding_all rfl)
  iterate 7 walk1
  have jj : ((1 : Int) + (i : Nat) - 1).toNat = i := by omega
  refine tail_any hlp.typeIs slot_list_getitem.lookup (wpAny_getItem_list hlp (by omega) (by omega) (x := .ref T2) (by rw [jj]; simp [hT2]) ?_) (by with_unfolding_all rfl)
  iterate 16 walk1
  (rename Fr base base.objs.size _ _ => F1)
  (rename News base base.objs.size _ _ => N1)
  (try clear F); (try clear N)
  generalize hb : exec _ _ = t
  obtain ⟨all, N1, hall⟩ : ∃ all, News base base.objs.size _ all ∧ (∀ p ∈ kNews base q x dx lp wl hsh tk0 nd kn nw Ts its o1 news, p ∈ all) := ⟨_, N1, fun _ h => .tail _ h⟩
  have hup : ∀ p ∈ news, p ∈ all := fun p hp => hall p (by simp [hp])
  refine for_made_t hb rfl F1 (.inr ⟨_, _, _, rfl⟩) ?_ (by intro _; rfl) hE
  clear hb t
  walk1
  refine ⟨wl, its.toArray, nw, _, all, fun j m₁ nx => (∃ tk', m₁ (Str.ofString "due") = some (.int (cmpT (ways.take j) (a1.fmod 5, (a1.fdiv 5).fmod 5) (a2.fmod 5, (a2.fdiv 5).fmod 5)) tk')) ∧ m₁ (Str.ofString "one") = some (.ref T1) ∧ m₁ (Str.ofString "other") = some (.ref T2) ∧ m₁ (Str.ofString "pairs") = some (.ref lp) ∧ m₁ (Str.ofString "way") = some (.ref wl) ∧ m₁ (Str.ofString "compare") = some (.ref q) ∧ m₁ (Str.ofString "k") = some (.int (1 + (i : Nat)) tkk) ∧ nx = all, rfl, rfl, F1, ?_, ⟨⟨_, by rfl⟩, by rfl, by rfl, by rfl, by rfl, by rfl, by rfl, rfl⟩, ?_, ?_⟩
  · intro p hp
    rcases List.mem_cons.mp hp with rfl | hp
    · exact N1 _ (hall _ (by simp))
    · exact N1 _ hp
  · intro I j v m₁ nx h tk oI hoffk hcls hv hJ hoff F5 N5
    obtain ⟨⟨tk', g0⟩, g1, g2, g3, g4, g5, g6, rfl⟩ := hJ
    clear F1 N1
    replace F5 := pin7 F5 g0 g1 g2 g3 g4 g5 g6
    obtain ⟨p, ix, d, kk, kk', n, rfl, hp, hw, hix, hdd⟩ := hW.2 j v (by simpa using hv)
    refine assign_tup (n := n) (by rfl) F5 N5 (.tail _ (.tail _ (hup _ hp))) (by rfl) (by rfl) fun h6 F6 N6 => ?_
    clear F5 N5
    have hct := cmpT_snoc ix d (a1.fmod 5, (a1.fdiv 5).fmod 5) (a2.fmod 5, (a2.fdiv 5).fmod 5) (ways.take j) fun y hy => hW.dir y (List.mem_of_mem_take hy)
    have htk : ways.take (j + 1) = ways.take j ++ [(ix, d)] := by rw [List.take_add_one, hw]; rfl
    rw [← htk] at hct
    have hcb := cmpT_bound (a1.fmod 5, (a1.fdiv 5).fmod 5) (a2.fmod 5, (a2.fdiv 5).fmod 5) (ways.take j) fun y hy => hW.dir y (List.mem_of_mem_take hy)
    generalize cmpT (ways.take j) (a1.fmod 5, (a1.fdiv 5).fmod 5) (a2.fmod 5, (a2.fdiv 5).fmod 5) = c at hct hcb F6
    obtain ⟨all2, N6, hal2⟩ : ∃ all2, News base base.objs.size h6 all2 ∧ ∀ p ∈ (I, oI) :: (wl, listOf its.toArray nw) :: nx, p ∈ all2 := ⟨_, N6, fun _ h => h⟩
    have ht1 := hal2 _ (.tail _ (.tail _ (hup _ hm1)))
    have ht2 := hal2 _ (.tail _ (.tail _ (hup _ hm2)))
    clear hm1 hm2
    rcases hix with rfl | rfl
    all_goals
      simp only [pairSel, if_true, if_false, Int.one_ne_zero] at hct
      iterate 17 walk1
      · iterate 3 walk1
        (rename Fr base base.objs.size _ _ => F9)
        (rename News base base.objs.size _ _ => N9)
        rw [if_neg (by first | assumption | omega)] at hct
        refine LStep.mk F9 N9 hal2 hoff ⟨⟨tk', by rw [hct]; rfl⟩, by rfl, by rfl, by rfl, by rfl, by rfl, by rfl, rfl⟩
      · iterate 17 walk1
        (rename Fr base base.objs.size _ _ => F9)
        (rename News base base.objs.size _ _ => N9)
        refine call35 B F9 X N9 T (by rfl) (by decide) (by decide) fun t3 h8 tk8 F8 N8 => ?_
        (try clear F9); (try clear N9)
        rw [if_pos (by assumption)] at hct
        have h3 := cmp3_val (a1.fmod 5) (a2.fmod 5)
        have h4 := cmp3_val ((a1.fdiv 5).fmod 5) ((a2.fdiv 5).fmod 5)
        refine mul_int ?_ ?_
        · iterate 3 walk1
          (rename Fr base base.objs.size _ _ => F9)
          (rename News base base.objs.size _ _ => N9)
          refine LStep.mk F9 N9 hal2 hoff ⟨⟨_, by rw [hct]; rfl⟩, by rfl, by rfl, by rfl, by rfl, by rfl, by rfl, rfl⟩
        · refine IntMulOk.of_left (intBits_le_64 (by omega) (by omega))
  · intro h tk m₁ nx hJ F5 N5
    obtain ⟨⟨tk', g0⟩, g1, g2, g3, g4, g5, g6, rfl⟩ := hJ
    rw [show its.toArray.size = ways.length by simp [hW.1], List.take_length] at g0
    replace F5 := pin7 F5 g0 g1 g2 g3 g4 g5 g6
    generalize hb : execs _ _ = t
    refine hL0 (t := t) (news := nx) (x := x) (dx := dx) (hsh := hsh) (tk0 := tk0) (nd := nd) (kn := kn) (nw := nw) (Ts := Ts) F5 B X T (fun p hp => ?_) (by rfl) (by rfl) (by rfl) (by rfl) hi (by rfl) (by rfl) (by rfl) ha1 ha2 (hup _ hm1) (hup _ hm2) (hW.mono hup) d1 hL hI hlen (fun h' tk' m' F9 N9 e1 e2 e3 => ?_) hb hE0
    · simp only [List.mem_cons] at hp
      rcases hp with rfl | rfl | rfl | rfl | rfl | rfl | hp
      iterate 6 exact N5 _ (.tail _ (hall _ (by simp)))
      exact N5 _ (.tail _ hp)
    · refine hQ _ _ _ F9 (fun p hp => N9 p ?_) e1 e2 e3
      have := hall p hp
      simp only [List.mem_cons]
      simp [this]
end Mine

-- LL
namespace Mine
open PySem PySem.W PyProof.Rows PySem.Calls
set_option maxRecDepth 100000
set_option maxHeartbeats 1000000
theorem offLL : True := by (w_top off; trivial)
theorem lawL_ok : lawL.Ok := by
  intro w mean mg mb base fa cd m s Q E lsc o1 vs ns lp Ts kn news wl its nw ways q x dx hsh tk0 tkk nd i T1 T2 a1 a2 ta1 tb1 ta2 tb2 tkd t0 F B X T N m1 m2 m3 m4 hi m5 m6 m7 ha1 ha2 hm1 hm2 hW d1 hL hI hlen hQ hb0 hE
  subst hb0
  revert X; k_fill; intro X
  replace F := pin7 F m1 m2 m3 m4 m5 m6 m7
  unfold kB wayB lawP at ⊢
  unfold lawP at hE
  dsimp only [PySem.Challenge.pw_xb0010_01, List.getLast?, List.getLast, List.drop]
  have hw2 : ∀ (i : Nat) (v : Value), its[i]? = some v → ∃ p ix d k k' n, v = .ref p ∧ (p, tup2 ix d k k' n) ∈ kNews base q x dx lp wl hsh tk0 nd kn nw Ts its o1 news ∧ ways[i]? = some (ix, d) ∧ (ix = 0 ∨ ix = 1) ∧ d.natAbs ≤ 1 := fun i v hv => by
    obtain ⟨p, ix, d, k, k', n, e1, e2, e3, e4, e5⟩ := hW.2 i v hv
    exact ⟨p, ix, d, k, k', n, e1, by simp [e2], e3, e4, by omega⟩
  have hn1 : (T1, tup2 (a1.fmod 5) ((a1.fdiv 5).fmod 5) ta1 tb1 0) ∈ kNews base q x dx lp wl hsh tk0 nd kn nw Ts its o1 news := by simp [hm1]
  have hn2 : (T2, tup2 (a2.fmod 5) ((a2.fdiv 5).fmod 5) ta2 tb2 0) ∈ kNews base q x dx lp wl hsh tk0 nd kn nw Ts its o1 news := by simp [hm2]
  have hs12 := cmpT_swap (a1.fmod 5, (a1.fdiv 5).fmod 5) (a2.fmod 5, (a2.fdiv 5).fmod 5) ways
  have hs11 := cmpT_self (a1.fmod 5, (a1.fdiv 5).fmod 5) ways
  iterate 12 walk1
  refine ⟨methP N (.head _) (X.keeps F.keep), ?_⟩
  (try dsimp only [List.nil_append, List.cons_append])
  refine call_meth N (.head _) (call56 B F X N (x := x) (dx := dx) (.tail _ (.head _)) (.tail _ (.tail _ (.head _))) (.tail _ (.tail _ (.tail _ (.tail _ (.head _))))) hn1 hn2 hW.1 hw2 T (by rfl) (by decide) (by decide) fun t3 h3 tk3 F3 N3 => ?_)
  iterate 3 walk1
  rw [if_neg (by simp)]
  clear F N
  iterate 10 walk1
  refine ⟨methP N3 (.head _) (X.keeps F3.keep), ?_⟩
  (try dsimp only [List.nil_append, List.cons_append])
  refine call_meth N3 (.head _) (call56 B F3 X N3 (x := x) (dx := dx) (.tail _ (.head _)) (.tail _ (.tail _ (.head _))) (.tail _ (.tail _ (.tail _ (.tail _ (.head _))))) hn2 hn1 hW.1 hw2 T (by rfl) (by decide) (by decide) fun t4 h4 tk4 F4 N4 => ?_)
  clear F3 N3
  iterate 6 walk1
  rw [if_neg (by rw [hs12]; simp)]
  iterate 10 walk1
  refine ⟨methP N4 (.head _) (X.keeps F4.keep), ?_⟩
  (try dsimp only [List.nil_append, List.cons_append])
  refine call_meth N4 (.head _) (call56 B F4 X N4 (x := x) (dx := dx) (.tail _ (.head _)) (.tail _ (.tail _ (.head _))) (.tail _ (.tail _ (.tail _ (.tail _ (.head _))))) hn1 hn1 hW.1 hw2 T (by rfl) (by decide) (by decide) fun t5 h5 tk5 F5 N5 => ?_)
  clear F4 N4
  iterate 3 walk1
  rw [if_neg (by rw [hs11]; simp)]
  iterate 14 walk1
  obtain ⟨u1, hv1⟩ := hI.get (i + 1) _ ha1
  obtain ⟨u2, hv2⟩ := hI.get i _ ha2
  have ii : ((1 : Int) + (i : Nat)).toNat = i + 1 := by omega
  have jj : ((1 : Int) + (i : Nat) - 1).toNat = i := by omega
  have hl5 : h5.IsList lsc vs.toArray := hL.at fun o e => F5.keep _ o e
  refine tail_any hl5.typeIs slot_list_getitem.lookup (wpAny_getItem_list hl5 (by omega) (by omega) (x := .int a1 u1) (by rw [ii]; simpa using hv1) ?_) (by with_unfolding_all rfl)
  iterate 7 walk1
  refine tail_any hl5.typeIs slot_list_getitem.lookup (wpAny_getItem_list hl5 (by omega) (by omega) (x := .int a2 u2) (by rw [jj]; simpa using hv2) ?_) (by with_unfolding_all rfl)
  iterate 2 walk1
  refine call35 B F5 X N5 T (by rfl) (by decide) (by decide) fun t6 h6 tk6 F6 N6 => ?_
  clear F5 N5
  iterate 10 walk1
  have hl6 : h6.IsList lsc vs.toArray := hL.at fun o e => F6.keep _ o e
  refine tail_any hl6.typeIs slot_list_getitem.lookup (wpAny_getItem_list hl6 (by omega) (by omega) (x := .int a1 u1) (by rw [ii]; simpa using hv1) ?_) (by with_unfolding_all rfl)
  iterate 6 walk1
  refine tail_any hl6.typeIs slot_list_getitem.lookup (wpAny_getItem_list hl6 (by omega) (by omega) (x := .int a2 u2) (by rw [jj]; simpa using hv2) ?_) (by with_unfolding_all rfl)
  iterate 4 walk1
  iterate 10 walk1
  refine tail_any hl6.typeIs slot_list_getitem.lookup (wpAny_getItem_list hl6 (by omega) (by omega) (x := .int a1 u1) (by rw [ii]; simpa using hv1) ?_) (by with_unfolding_all rfl)
  iterate 6 walk1
  refine tail_any hl6.typeIs slot_list_getitem.lookup (wpAny_getItem_list hl6 (by omega) (by omega) (x := .int a2 u2) (by rw [jj]; simpa using hv2) ?_) (by with_unfolding_all rfl)
  iterate 7 walk1
  walk1
  have hfin : (if decide (0 < a1 - a2) = true then (1 : Int) else 0) - (if decide (a1 - a2 < 0) = true then 1 else 0) = cmp3 a1 a2 := by
    rw [cmp3_val]
    simp only [decide_eq_true_eq]
    by_cases c1 : a1 < a2
    · rw [if_pos c1, if_neg (by omega), if_pos (by omega)]; rfl
    · by_cases c2 : a2 < a1
      · rw [if_neg c1, if_pos c2, if_pos (by omega), if_neg (by omega)]; rfl
      · rw [if_neg c1, if_neg c2, if_neg (by omega), if_neg (by omega)]; rfl
  rw [if_neg (by rw [hfin]; simp)]
  iterate 3 walk1
  exact hQ _ _ _ F6 N6 (by rfl) (by rfl) (by rfl)
end Mine

-- LF
namespace Mine
open PySem PySem.W PyProof.Rows PySem.Calls
set_option maxRecDepth 100000
set_option maxHeartbeats 1000000
theorem offLF : True := by (w_top off; trivial)
theorem ways1 {news : List (Addr × Obj)} {p1 : Addr} {a b : Int} {k1 k2 : Tok} {n : Nat} (h1 : (p1, tup2 a b k1 k2 n) ∈ news) (ha : a = 0 ∨ a = 1) (hb : b = 1 ∨ b = -1) : WaysIn news [.ref p1] [(a, b)] := by
  refine ⟨rfl, fun i v hv => ?_⟩
  rcases i with _ | i
  · exact ⟨p1, a, b, k1, k2, n, by simpa using hv.symm, h1, rfl, ha, hb⟩
  · simp at hv
theorem ways2 {news : List (Addr × Obj)} {p1 p2 : Addr} {a b c d : Int} {k1 k2 k3 k4 : Tok} {n n' : Nat} (h1 : (p1, tup2 a b k1 k2 n) ∈ news) (h2 : (p2, tup2 c d k3 k4 n') ∈ news) (ha : a = 0 ∨ a = 1) (hb : b = 1 ∨ b = -1) (hc : c = 0 ∨ c = 1) (hd : d = 1 ∨ d = -1) : WaysIn news [.ref p1, .ref p2] [(a, b), (c, d)] := by
  refine ⟨rfl, fun i v hv => ?_⟩
  rcases i with _ | _ | i
  · exact ⟨p1, a, b, k1, k2, n, by simpa using hv.symm, h1, rfl, ha, hb⟩
  · exact ⟨p2, c, d, k3, k4, n', by simpa using hv.symm, h2, rfl, hc, hd⟩
  · simp at hv
theorem lawF_ok (hG : lawG.Ok) : lawF.Ok := by
  intro w mean mg mb base fa cd m s Q E lsc o1 vs ns lp Ts kn news t F B X T N hc hp m1 hTl hTs d1 hL hI hlen hQ hb hE
  subst hb
  have hE0 := hE
  revert X; k_fill; intro X
  replace F := pin1 F m1
  unfold lawP at hE ⊢
  dsimp only [PySem.Challenge.pw_xb0010_01, List.getLast?, List.getLast, List.drop]
  walk1
  generalize hb : exec _ _ = t
  refine for_made_t hb rfl F (.inl fun _ _ => rfl) ?_ (by intro _; rfl) hE
  clear hb t
  iterate 84 walk1
  (rename Fr base base.objs.size _ _ => F1)
  (rename News base base.objs.size _ _ => N1)
  (try clear F); (try clear N)
  obtain ⟨W, all, hw, hsub, N2⟩ : ∃ (W : Array Value) (all : List (Addr × Obj)), (∀ (i : Nat) (v : Value), W[i]? = some v → ∃ wl its nw ways, v = .ref wl ∧ (wl, listOf its.toArray nw) ∈ all ∧ WaysIn all its ways) ∧ (∀ p ∈ news, p ∈ all) ∧ News base base.objs.size _ ((_, listOf W 0) :: all) := by
    refine ⟨_, _, fun i v hv => ?_, fun p hp => ?_, N1⟩
    · rcases i with _ | _ | _ | _ | i
      · exact ⟨_, [.ref _, .ref _], 0, [(0, 1), (1, 1)], by simpa using hv.symm, (List.mem_of_getElem? (i := 8) rfl), ways2 (n := 0) (n' := 0) (List.mem_of_getElem? (i := 10) rfl) (List.mem_of_getElem? (i := 9) rfl) (by decide) (by decide) (by decide) (by decide)⟩
      · exact ⟨_, [.ref _, .ref _], 0, [(1, 1), (0, 0 - 1)], by simpa using hv.symm, (List.mem_of_getElem? (i := 5) rfl), ways2 (n := 0) (n' := 0) (List.mem_of_getElem? (i := 7) rfl) (List.mem_of_getElem? (i := 6) rfl) (by decide) (by decide) (by decide) (by decide)⟩
      · exact ⟨_, [.ref _, .ref _], 0, [(0, 0 - 1), (1, 1)], by simpa using hv.symm, (List.mem_of_getElem? (i := 2) rfl), ways2 (n := 0) (n' := 0) (List.mem_of_getElem? (i := 4) rfl) (List.mem_of_getElem? (i := 3) rfl) (by decide) (by decide) (by decide) (by decide)⟩
      · exact ⟨_, [.ref _], 0, [(1, 0 - 1)], by simpa using hv.symm, (List.mem_of_getElem? (i := 0) rfl), ways1 (n := 0) (List.mem_of_getElem? (i := 1) rfl) (by decide) (by decide)⟩
      · simp at hv
    · simp [hp]
  clear N1
  refine ⟨_, W, 0, _, all, fun _ m₁ nx => m₁ (Str.ofString "pairs") = some (.ref lp) ∧ nx = all, rfl, rfl, F1, N2, ⟨by rfl, rfl⟩, ?_, ?_⟩
  · intro I i v m₁ nx h tk oI hoffk hcls hv hJ hoff F5 N5
    obtain ⟨g1, rfl⟩ := hJ
    obtain ⟨wl, its, nw, ways, rfl, hwm, hW⟩ := hw i v hv
    clear F1 N2 hw hv
    replace F5 := pin1 F5 g1
    iterate 2 walk1
    (rename Fr base base.objs.size _ _ => F6)
    (rename News base base.objs.size _ _ => N6)
    (try clear F5); (try clear N5)
    generalize hb : execs _ _ = t
    obtain ⟨al2, N7, hal2⟩ : ∃ al2, News base base.objs.size _ al2 ∧ ∀ p ∈ _ :: _ :: nx, p ∈ al2 := ⟨_, N6, fun _ h => h⟩
    have hup : ∀ p ∈ nx, p ∈ al2 := fun p hp => hal2 p (.tail _ (.tail _ hp))
    refine hG (t := t) F6 B X T N7 (hup _ (hsub _ hc)) (hup _ (hsub _ hp)) (by rfl) (by rfl) hTl (fun j U hj => ?_) (hup _ hwm) (hW.mono hup) d1 hL hI hlen (fun h' tk' m' F9 N9 e1 => ?_) hb hE0
    · obtain ⟨ta, tb, a, ha, hm⟩ := hTs j U hj
      exact ⟨ta, tb, a, ha, hup _ (hsub _ hm)⟩
    · exact LStep.mk F9 N9 hal2 hoff ⟨e1, rfl⟩
  · intro h tk m₁ nx hJ F5 N5
    obtain ⟨g1, rfl⟩ := hJ
    clear F1 N2
    iterate 3 walk1
    exact hQ _ _ _ F5
end Mine

-- LW
namespace Mine
open PySem PySem.W PyProof.Rows
set_option maxRecDepth 100000
set_option maxHeartbeats 4000000
theorem offLW : True := by (w_top off; trivial)
theorem wp_at {M : Model} {A : Around} {t t' : Sem Flow} {Q : Flow → Shared → Prop} {E : Value → Shared → Prop} {s : Shared} (h : t' = t) (x : wpAny M A t' Q E s) : wpAny M A t Q E s := h ▸ x
theorem fold_pos (c : Int) (f : Int → Int) (p : Int → Int) : ∀ (ks l : List Int), (∀ x ∈ l, 0 ≤ x) → ∀ x ∈ ks.foldl (fun l' k' => if p k' = c then l' ++ [(f k').fmod 12] else l') l, 0 ≤ x
  | [], _, h => h
  | k :: r, l, h => by
    rw [List.foldl_cons]
    refine fold_pos c f p r _ ?_
    split
    · intro x hx
      rcases List.mem_append.mp hx with hx | hx
      · exact h x hx
      · rw [List.mem_singleton.mp hx]
        exact Int.fmod_nonneg_of_pos _ (by decide)
    · exact h
theorem pick7 {b h : Heap} {L : Addr} {a1 a2 a3 a4 c1 c2 c3 : Addr × Obj} (N : News b L h [a1, a2, a3, a4, c1, c2, c3]) : News b L h [a1, a3, c1, c2, c3] := fun p hp => N p (by
  simp only [List.mem_cons, List.not_mem_nil, or_false] at hp ⊢
  rcases hp with rfl | rfl | rfl | rfl | rfl <;> simp)
theorem lawB_all : lawB.Ok := lawB_ok (lawC_ok (lawD_ok (lawE_ok (lawF_ok (lawG_ok (lawK_ok lawL_ok))))))
theorem t (hB : lawB.Ok) : PySem.Challenge.rw_xb0010_01.Holds := hd (by
  k_go0
  (all_goals try k_fold)
  skip
  iterate 66 walk1
  (case' refine'_8 => skip)
  generalize hb : execs _ _ = t
  (rename Fr _ _ _ _ => F)
  (rename News _ _ _ _ => N)
  (rename Frag.In _ _ => X)
  (rename Top _ _ _ _ _ _ => T)
  refine wp_at (t' := execs (lawP.1.drop 2) (envOfC (Str.ofString "law") lawP.2 _ _ (.ref _))) hb ?_
  refine' hB F ?B X T (pick7 N) ?d1 ?d2 ?d3 ?hL ?hI ?I1 ?I2 ?l0 ?l1 ?l2 ?p1 ?p2 ?z1 ?z2 ?hne ?hQ ?hE
  case B => assumption
  case hL => assumption
  case hI => assumption
  case d1 => assumption
  case d2 => assumption
  case d3 => assumption
  case I1 => assumption
  case I2 => assumption
  case l0 => omega
  case l1 => omega
  case l2 => omega
  case p1 => assumption
  case p2 => assumption
  case z1 =>
    intro x hx
    refine fold_pos _ _ _ _ _ ?_ x ((List.Perm.mem_iff (by assumption)).mp hx)
    simp
  case z2 =>
    intro x hx
    refine fold_pos _ _ _ _ _ ?_ x ((List.Perm.mem_iff (by assumption)).mp hx)
    simp
  case hne =>
    obtain ⟨_, hlt, _⟩ := ‹_ < _ ∧ _ < _ ∧ _›
    exact Nat.ne_of_lt hlt
  case hE => passes_own
  case hQ =>
    intro h' tk' m' F'
    clear hb F N
    k_unfold
    (try dsimp only)
    k_end; wrow_close
  all_goals walk1)
end Mine

open PySem PySem.W PyProof.Rows
theorem PySem.Challenge.cw_xb0010_01_holds : PySem.Challenge.rw_xb0010_01.Holds :=
  Mine.t Mine.lawB_all
#print axioms PySem.Challenge.cw_xb0010_01_holds
