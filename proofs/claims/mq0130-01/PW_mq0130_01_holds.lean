import PyProof.Rows.All
import Wide.All
import OpenK.AllK
import Wide.FinOn
import PySem.Challenge.RW_mq0130_01
set_option Elab.async false
set_option maxRecDepth 100000
set_option maxHeartbeats 8000000
open PySem PySem.W PyProof.Rows PySem.Spec PySem.Calls

-- part Top1
namespace Mine
open_top hd for PySem.Challenge.rw_mq0130_01
end Mine

-- part M1
namespace Mine

/-- a goal at which the walk is to stop -/
def Stop (P : Prop) : Prop := P
theorem stop {P : Prop} (h : Stop P) : P := h
theorem Stop.out {P : Prop} (h : P) : Stop P := h

/-- the ambient facts: the text's own objects, the top's names, room for n calls more, the frames below -/
structure Ok (n : Nat) (w : World) (p : Program) (loose : List Str) (mean : ExcName → Option Value) (mg mb : Str → Option Value) (A : Around) (base : Heap) (outer : List Env) (h : Heap) : Prop where
  XB : (hd.heap_39 w.params).In base
  TB : Top p loose mean mg mb base
  hd : A.handled = none
  depth : A.depth + n < recursionLimit
  units : A.units + 20 * n + 20 < cLine
  B : Below A base outer h
  dicts : KtsDicts (outer.filterMap (·.frame)) h

/-- all stands, but the slots of the frames fs -/
def Turned (fs : List Addr) (h h' : Heap) : Prop :=
  (∀ b o, h.get? b = some o → b ∉ fs → h'.get? b = some o) ∧ (∀ b o, h.get? b = some o → b ∈ fs → ∃ sl, h'.get? b = some { o with slots := sl })
theorem Turned.of_stays {fs : List Addr} {h h' : Heap} (k : h.StaysIn h') : Turned fs h h' := ⟨fun b o e _ => k b o e, fun b o e _ => ⟨o.slots, k b o e⟩⟩
theorem Turned.stays {h h' : Heap} (T : Turned [] h h') : h.StaysIn h' := fun b o e => T.1 b o e (fun hm => nomatch hm)
theorem Turned.up {fs : List Addr} {h h' : Heap} (T : Turned fs h h') {b : Addr} {o : Obj} (e : h.get? b = some o) : ∃ sl, h'.get? b = some { o with slots := sl } := by
  by_cases m : b ∈ fs
  · exact T.2 b o e m
  · exact ⟨o.slots, T.1 b o e m⟩
theorem Turned.ns {fs : List Addr} {h h' : Heap} (T : Turned fs h h') {a : Addr} {m : Str → Option Value} (hn : h.Ns a m) : h'.Ns a m := by
  obtain ⟨o, es, ep, ho, hd, r⟩ := hn
  obtain ⟨sl, e⟩ := T.up ho
  exact ⟨_, es, ep, e, hd, r⟩

theorem dicts_keeps {fs : List Addr} {h h' : Heap} (D : KtsDicts fs h) (k : h.StaysIn h') : KtsDicts fs h' := fun b m => by
  obtain ⟨o, es, n, ho, hd⟩ := D b m
  exact ⟨o, es, n, k b o ho, hd⟩
theorem dicts_cons {fs : List Addr} {h : Heap} {L : Addr} {m : Str → Option Value} (D : KtsDicts fs h) (hn : h.Ns L m) : KtsDicts (L :: fs) h := fun b hm => by
  rcases List.mem_cons.mp hm with rfl | hm
  · obtain ⟨o, es, ep, ho, hd, _⟩ := hn
    exact ⟨o, _, _, ho, hd⟩
  · exact D b hm
section
variable {n : Nat} {w : World} {p : Program} {loose : List Str} {mean : ExcName → Option Value} {mg mb : Str → Option Value} {A : Around} {base : Heap} {outer : List Env} {h h' h₀ : Heap} {L a : Addr} {m : Str → Option Value} {name : Str} {scope : Scope} {cd : Value}
theorem Ok.X (O : Ok n w p loose mean mg mb A base outer h) : (hd.heap_39 w.params).In h := O.XB.keeps O.B.stays
theorem Ok.T (O : Ok n w p loose mean mg mb A base outer h) : Top p loose mean mg mb h := O.TB.keeps O.B.stays
theorem Ok.keeps (O : Ok n w p loose mean mg mb A base outer h) (k : h.StaysIn h') : Ok n w p loose mean mg mb A base outer h' :=
  ⟨O.XB, O.TB, O.hd, O.depth, O.units, ⟨O.B.stack, fun b o e => k b o (O.B.stays b o e), O.B.frames.of_keeps fun b o e _ => ⟨o, k b o e, rfl⟩⟩, dicts_keeps O.dicts k⟩
theorem Ok.deeper (O : Ok (n + 1) w p loose mean mg mb A base outer h₀) (F : Fr h₀ L h m) (hk : scope.kind = .function := by rfl) : Ok n w p loose mean mg mb (A.deeper (envOf name scope L a cd)) base (envOf name scope L a cd :: outer) h :=
  ⟨O.XB, O.TB, O.hd, by have := O.depth; show A.depth + 1 + n < _; omega, by have := O.units; show A.units + 3 + 20 * n + 20 < _; omega, O.B.push F hk, dicts_cons (dicts_keeps O.dicts F.keep) F.ns⟩
theorem Ok.deeperX {cl : List (Str × Addr)} (O : Ok (n + 1) w p loose mean mg mb A base outer h₀) (F : Fr h₀ L h m) (hk : scope.kind = .function := by rfl) : Ok n w p loose mean mg mb (A.deeper (envX name scope L a cd cl)) base (envX name scope L a cd cl :: outer) h :=
  ⟨O.XB, O.TB, O.hd, by have := O.depth; show A.depth + 1 + n < _; omega, by have := O.units; show A.units + 3 + 20 * n + 20 < _; omega, pushX O.B F rfl hk, dicts_cons (dicts_keeps O.dicts F.keep) F.ns⟩
theorem Ok.less (O : Ok (n + 1) w p loose mean mg mb A base outer h) : Ok n w p loose mean mg mb A base outer h :=
  ⟨O.XB, O.TB, O.hd, by have := O.depth; omega, by have := O.units; omega, O.B, O.dicts⟩
end

def itemF (k : Str) (n : Int) (v : Str) : Str := if n < 0 then k ++ v else k ++ Str.ofString "=\"" ++ v ++ Str.ofString "\""

section
variable {n : Nat} {w : World} {p : Program} {loose : List Str} {mean : ExcName → Option Value} {mg mb : Str → Option Value} {A : Around} {base : Heap} {outer : List Env} {s : Shared}

theorem enterF {name qual : Str} {params : Arguments} {body : List Stmt} {scope : Scope} {dV kV doc pm cdv ct oc : Value} {an od : Option Addr} {osl : Array (Option Value)} {f : Addr} {args : List Value} {Q E : Value → Shared → Prop}
    (binds : List (Str × Value))
    (O : Ok n w p loose mean mg mb A base outer s.heap)
    (ho : (hd.heap_39 w.params).lookup f = some ⟨oc, od, .func (fnOf name qual params body scope dV kV doc pm an cdv ct), osl⟩) 
    (hcd : codeIn (hd.heap_39 w.params) cdv qual = true)
    (hbind : BindsTo s (fnOf name qual params body scope dV kV doc pm an cdv ct) ⟨args, []⟩ binds) (hloc : (binds.all fun x => decide (scope.names.lookup x.1 = some .local)) = true)
    (hcell : ∀ x ∈ scope.names, x.2 ≠ .cell)
    (h : ∀ h₁, Fr s.heap s.heap.objs.size h₁ (fun y => binds.reverse.lookup y) → News s.heap s.heap.objs.size h₁ [] →
      wpAny (model Challenge.rw_mq0130_01.row.prog w) (A.deeper (envOf qual scope s.heap.objs.size f cdv)) (execs body (envOf qual scope s.heap.objs.size f cdv))
        (fun fl s' => Q (match fl with | .ret v => v | _ => .none) s')
        (fun e s' => wpAny (model Challenge.rw_mq0130_01.row.prog w) (A.deeper (envOf qual scope s.heap.objs.size f cdv)) (leaving (envOf qual scope s.heap.objs.size f cdv) e) (fun _ s'' => E e s'') (fun e' s'' => E e' s'') s')
        { s with heap := h₁, toks := s.toks + binds.length })
    (hco : scope.isCoroutine = false := by rfl) (hgen : scope.isGenerator = false := by rfl) (hk : scope.kind = .function := by rfl) :
    wpAny (model Challenge.rw_mq0130_01.row.prog w) A (call (.ref f) args) Q E s := by
  refine wpAny_call ?_
  refine codeAny_call_def (fd := fnOf name qual params body scope dV kV doc pm an cdv ct) (body := body) (binds := binds) (by have := O.depth; omega) (O.X _ _ ho) rfl O.T.nolimit (codeRec_of O.X hcd) rfl hbind hcell (locs hloc) (fun h₁ hns hk₁ => ?_) hco hgen hk
  exact h h₁ ⟨hns, hk₁, Nat.le_refl _⟩ News.nil

theorem item_spec {k v : Str} {z : Int} {t1 t2 t3 : Tok} {Q E : Value → Shared → Prop} (O : Ok n w p loose mean mg mb A base outer s.heap)
   (hk : k.length ≤ 10) (hv : v.length ≤ 100)
   (h : ∀ t h' tk', s.heap.StaysIn h' → Q (.str (itemF k z v) t) { s with heap := h', toks := tk' }) :
   wpAny (model Challenge.rw_mq0130_01.row.prog w) A (call (.ref 52) [.str k t1, .int z t2, .str v t3]) Q E s := by
  k_fill
  refine enterF [(Str.ofString "key", .str k t1), (Str.ofString "size", .int z t2), (Str.ofString "value", .str v t3)] O rfl rfl (BindsTo.of_eq rfl) rfl (by decide) (fun h₁ F N => ?_)
  have X := O.X
  have T := O.T
  show wpAny _ _ _ _ _ _
  k_fold
  k_steps
  · exact (show itemF k z v = k ++ v from if_pos (by assumption)) ▸ h _ _ _ F.keep
  · exact (show itemF k z v = k ++ Str.ofString "=\"" ++ v ++ Str.ofString "\"" from if_neg (by assumption)) ▸ h _ _ _ F.keep
end
end Mine

-- part MC
namespace Mine

/-- the tests of a comprehension's turn -/
abbrev testsOf (ifs : List Expr) (env : Env) : Sem Bool :=
  forIn ifs true fun c r => if r = true then do let ok ← isTrue c env (eval c env); pure (ForInStep.yield ok) else pure (ForInStep.yield r)

/-- where a turn ends: the source is one further, the block's own places are sound, all else stands -/
def TurnEnd (St : Nat → Heap → Prop) (Ow : Heap → Prop) (wr ow : List Addr) (pr : Nat → Bool) (R : Nat → Value → Heap → Prop) (i : Nat) (s' : Shared) (o : Option Value) (s₄ : Shared) : Prop :=
  ∃ h' tk', s₄ = { s' with heap := h', toks := tk' } ∧ St (i + 1) h' ∧ Ow h' ∧ (∀ b o, b ∉ wr → b ∉ ow → s'.heap.get? b = some o → h'.get? b = some o) ∧
    match o with | some y => pr i = true ∧ R i y h' | none => pr i = false

/-- one turn of a list comprehension -/
def TurnGoal (prog : Program) (w : World) (A : Around) (target elt : Expr) (ifs : List Expr) (cenv : Env) (I : Addr) (St : Nat → Heap → Prop) (Ow : Heap → Prop) (wr ow : List Addr) (pr : Nat → Bool) (R : Nat → Value → Heap → Prop) (i : Nat) (v : Value) (E : Value → Shared → Prop) (s' : Shared) : Prop :=
  wpAny (model prog w) A (letOwnedTupleGo target (.ref I) v) (fun _ s₁ => wpAny (model prog w) A (assign target cenv v) (fun _ s₂ =>
    wpAny (model prog w) A (testsOf ifs cenv) (fun ok s₃ => if ok = true then wpAny (model prog w) A (eval elt cenv) (fun y s₄ => TurnEnd St Ow wr ow pr R i s' (some y) s₄) E s₃
      else TurnEnd St Ow wr ow pr R i s' none s₃) E s₂) E s₁) E s'

/-- a source of a comprehension -/
structure Src (prog : Program) (w : World) (A : Around) (I : Addr) (fp wr : List Addr) (n : Nat) (P : Nat → Value → Prop) (St : Nat → Heap → Prop) (Mid : Nat → Value → Heap → Prop) : Prop where
  sub : ∀ b ∈ wr, b ∈ fp
  frame : ∀ i h h', St i h → (∀ b ∈ fp, ∀ o, h.get? b = some o → h'.get? b = some o) → St i h'
  item : ∀ i (s : Shared) (Q : Option Value → Shared → Prop) (E : Value → Shared → Prop), i < n → St i s.heap →
    (∀ v h' tk, P i v → Mid i v h' → (∀ b o, b ∉ wr → s.heap.get? b = some o → h'.get? b = some o) → Q (some v) { s with heap := h', toks := tk }) → wpAny (model prog w) A (pyNext (.ref I)) Q E s
  done : ∀ (s : Shared) (Q : Option Value → Shared → Prop) (E : Value → Shared → Prop), St n s.heap →
    (∀ h' tk, (∀ b o, b ∉ wr → s.heap.get? b = some o → h'.get? b = some o) → Q none { s with heap := h', toks := tk }) → wpAny (model prog w) A (pyNext (.ref I)) Q E s
  self : ∀ i (s : Shared) (Q : Value → Shared → Prop) (E : Value → Shared → Prop), St i s.heap → Q (.ref I) s → wpAny (model prog w) A (pyIter (.ref I)) Q E s
  noTup : ∀ i h a items, St i h → IsTup h a items → a ∉ wr

theorem Src.ofWalks {prog : Program} {w : World} {A : Around} {I : Addr} {fp wr : List Addr} {n : Nat} {P : Nat → Value → Prop} {St : Nat → Heap → Prop} (W : Walks prog w A I fp wr n P St)
    (hT : ∀ i h a items, St i h → IsTup h a items → a ∉ wr) : Src prog w A I fp wr n P St (fun i _ h => St (i + 1) h) :=
  ⟨W.sub, W.frame, W.item, W.done, W.self, hT⟩

theorem Src.list {prog : Program} {w : World} {A : Around} (hh : A.handled = none) (I ax : Addr) (hne : ax ≠ I) (items : Array Value) :
    Src prog w A I [I, ax] [I] items.size (fun i v => items[i]? = some v) (fun i h => h.IsListIter I ax i ∧ h.IsList ax items) (fun i _ h => h.IsListIter I ax (i + 1) ∧ h.IsList ax items) :=
  Src.ofWalks (Walks.list hh I ax hne items) fun i h a its st ht hm => by
    obtain ⟨⟨o, ho, hc, _⟩, _⟩ := st
    obtain ⟨o', ho', hc', _⟩ := ht
    rw [List.mem_singleton.mp hm, ho] at ho'
    cases ho'
    rw [hc] at hc'
    exact absurd hc' (by decide)

theorem range_filter_succ (pr : Nat → Bool) (i : Nat) : (List.range (i + 1)).filter pr = (List.range i).filter pr ++ (if pr i = true then [i] else []) := by
  rw [List.range_succ, List.filter_append]
  cases h : pr i <;> simp [h]

theorem Paired.monoH {R : Nat → Value → Heap → Prop} {h h' : Heap} (hm : ∀ i y, R i y h → R i y h') {l : List Nat} {ys : List Value} (p : Paired (fun i y => R i y h) l ys) : Paired (fun i y => R i y h') l ys :=
  p.mono fun i y => hm i y

section
variable {prog : Program} {w : World} {A : Around} {s : Shared}

theorem compLoopG {elt target iter : Expr} {ifs : List Expr} {scope : Scope} {pos : Pos} {I D : Addr} {fp wr ow : List Addr} {n : Nat} {P : Nat → Value → Prop} {St : Nat → Heap → Prop} {Mid : Nat → Value → Heap → Prop}
    {cenv : Env} {RR : Result → Shared → Prop} (W : Src prog w A I fp wr n P St Mid) (pr : Nat → Bool) (R : Nat → Value → Heap → Prop) (Ow : Heap → Prop)
    (hmono : ∀ i y h h', (∀ a items, IsTup h a items → IsTup h' a items) → R i y h → R i y h')
    (hOw : ∀ h h', Ow h → (∀ b ∈ ow, ∀ o, h.get? b = some o → h'.get? b = some o) → Ow h')
    (hOwT : ∀ h a items, Ow h → IsTup h a items → a ∉ ow)
    (hDo : D ∉ ow) (hDf : D ∉ fp) (hof : ∀ b ∈ ow, b ∉ fp)
    (hst : St 0 s.heap) (hacc : s.heap.PlainList D #[]) (ho : Ow s.heap)
    (turn : ∀ i v h tk, i < n → P i v → Mid i v h → Ow h → (∀ b o, b ∉ wr → b ∉ ow → b ≠ D → s.heap.get? b = some o → h.get? b = some o) → D < h.objs.size →
      TurnGoal prog w A target elt ifs cenv I St Ow wr ow pr R i v (notedBy (model prog w) A cenv fun e s' => RR (.error e) s') { s with heap := h, toks := tk })
    (fin : ∀ h tk ys, Ow h → h.PlainList D ys → Paired (fun i y => R i y h) ((List.range n).filter pr) ys.toList → (∀ b o, b ∉ wr → b ∉ ow → b ≠ D → s.heap.get? b = some o → h.get? b = some o) → RR (.ok .next) { s with heap := h, toks := tk })
    (hsz : n ≤ 1000) :
    codeAny (model prog w) A (.compLoop (.ListComp elt [⟨target, iter, ifs, 0⟩] scope pos) 0 (.ref I) (.ref D) cenv) RR s := by
  have hsL : (1000 : Nat) ≤ sizeLine := by rw [sizeLine_eq]; omega
  have hDw : D ∉ wr := fun h => hDf (W.sub _ h)
  refine codeAny_loop rfl (fun k s' => ∃ h tk ys i, s' = { s with heap := h, toks := tk } ∧ St i h ∧ h.PlainList D ys ∧ Ow h ∧ Paired (fun i y => R i y h) ((List.range i).filter pr) ys.toList ∧ i ≤ n ∧ k = n + 1 - i ∧
      (∀ b o, b ∉ wr → b ∉ ow → b ≠ D → s.heap.get? b = some o → h.get? b = some o)) ?_ (n + 1) ⟨s.heap, s.toks, #[], 0, rfl, hst, hacc, ho, by simpa using Paired.nil, Nat.zero_le _, rfl, fun _ _ _ _ _ e => e⟩
  rintro k s' ⟨H, tk, ys, i, rfl, hst', hacc', ho', hF, hi, rfl, hk⟩
  show wpAny _ A ((compTurn (.ListComp elt [⟨target, iter, ifs, 0⟩] scope pos) 0 (.ref I) (.ref D) cenv).onRaise (fun x => do noteFrame x cenv; theTreesLotGoes x)) _ _ _
  refine wpAny_noted ?_
  rw [compTurn_list]
  refine wpAny_bind (wpAny_standAt (wpAny_bind ?_))
  by_cases hlt : i < n
  · refine W.item i _ _ _ hlt hst' fun v h₁ tk₁ hPv hM hk₁ => ?_
    have ho₁ : Ow h₁ := hOw _ _ ho' fun b hb o e => hk₁ b o (fun hw => hof b hb (W.sub _ hw)) e
    have hD₁ : h₁.PlainList D ys := hacc'.at fun o e => hk₁ _ o hDw e
    have T := turn i v h₁ tk₁ hlt hPv hM ho₁ (fun b o hw ho hD e => hk₁ b o hw (hk b o hw ho hD e)) (by obtain ⟨_, e⟩ := hD₁; exact Heap.lt_size e)
    unfold TurnGoal at T
    have tup₁ : ∀ a items, IsTup H a items → IsTup h₁ a items := fun a items ht => by
      have := W.noTup _ _ _ _ hst' ht
      obtain ⟨o, e, r⟩ := ht
      exact ⟨o, hk₁ _ _ this e, r⟩
    refine wpAny_bind (wpAny_mono T (fun _ s₁ T₁ => wpAny_bind (wpAny_mono T₁ (fun _ s₂ T₂ => wpAny_bind (wpAny_mono T₂ (fun ok s₃ T₃ => ?_) fun _ _ x => x)) fun _ _ x => x)) fun _ _ x => x)
    have after : ∀ h' , Ow h' → (∀ b o, b ∉ wr → b ∉ ow → h₁.get? b = some o → h'.get? b = some o) → (∀ a items, IsTup H a items → IsTup h' a items) := fun h' o' hk' a items ht => by
      have nw := W.noTup _ _ _ _ hst' ht
      have t₁ := tup₁ a items ht
      have no := hOwT _ _ _ ho₁ t₁
      obtain ⟨o, e, r⟩ := t₁
      exact ⟨o, hk' a o nw no e, r⟩
    cases ok with
    | false =>
      simp only [Bool.false_eq_true, if_false] at T₃ ⊢
      obtain ⟨h', tk', rfl, hst₂, ho₂, hk₂, hpr⟩ := T₃
      refine wpAny_pure ⟨rfl, n + 1 - (i + 1), by omega, h', tk', ys, i + 1, rfl, hst₂, hD₁.at fun o e => hk₂ _ o hDw hDo e, ho₂, ?_, hlt, rfl, fun b o hw hoo hD e => hk₂ b o hw hoo (hk₁ b o hw (hk b o hw hoo hD e))⟩
      rw [range_filter_succ, hpr]
      simpa using Paired.monoH (fun j y => hmono j y _ _ (after h' ho₂ hk₂)) hF
    | true =>
      simp only [if_true] at T₃ ⊢
      refine wpAny_bind (wpAny_bind (wpAny_mono T₃ (fun y s₄ T₄ => ?_) fun _ _ x => x))
      obtain ⟨h', tk', rfl, hst₂, ho₂, hk₂, hpr, hR⟩ := T₄
      have hys : ys.size ≤ sizeLine := by
        have e1 := hF.length
        have e2 : ((List.range i).filter pr).length ≤ (List.range i).length := List.length_filter_le _ _
        rw [List.length_range] at e2
        have e4 : ys.toList.length = ys.size := by simp
        omega
      have hD₂ : h'.PlainList D ys := hD₁.at fun o e => hk₂ _ o hDw hDo e
      refine wpAny_bind (wpAny_list_append_plain (hsz := hys) hD₂ fun h₅ hl₅ hs₅ => wpAny_pure (wpAny_pure ⟨rfl, n + 1 - (i + 1), by omega, h₅, tk', ys.push y, i + 1, rfl, ?_, hl₅, ?_, ?_, hlt, rfl, ?_⟩))
      · exact W.frame _ _ _ hst₂ fun b hb o e => hs₅.extBut b o (fun q => hDf (q ▸ hb)) e
      · exact hOw _ _ ho₂ fun b hb o e => hs₅.extBut b o (fun q => hDo (q ▸ hb)) e
      · have up : ∀ a items, IsTup h' a items → IsTup h₅ a items := fun a items ht => by
          obtain ⟨o, e, hc, r⟩ := ht
          refine ⟨o, hs₅.extBut a o (fun q => ?_) e, hc, r⟩
          obtain ⟨nn, e'⟩ := hD₂
          rw [q, e'] at e
          cases e
          exact (show (Value.type "list") ≠ Value.type "tuple" by decide) hc
        rw [range_filter_succ, hpr]
        simpa using Paired.snoc (Paired.monoH (fun j z => hmono j z _ _ fun a items ht => up a items (after h' ho₂ hk₂ a items ht)) hF) (hmono _ _ _ _ up hR)
      · exact fun b o hw hoo hD e => hs₅.extBut b o hD (hk₂ b o hw hoo (hk₁ b o hw (hk b o hw hoo hD e)))
  · obtain rfl : i = n := Nat.le_antisymm hi (Nat.not_lt.mp hlt)
    refine W.done _ _ _ hst' fun h₁ tk₁ hk₁ => wpAny_pure ?_
    have tup₁ : ∀ a items, IsTup H a items → IsTup h₁ a items := fun a items ht => by
      have := W.noTup _ _ _ _ hst' ht
      obtain ⟨o, e, r⟩ := ht
      exact ⟨o, hk₁ _ _ this e, r⟩
    exact fin h₁ tk₁ ys (hOw _ _ ho' fun b hb o e => hk₁ b o (fun hw => hof b hb (W.sub _ hw)) e) (hacc'.at fun o e => hk₁ _ o hDw e) (Paired.monoH (fun j y => hmono j y _ _ tup₁) hF) fun b o hw hoo hD e => hk₁ b o hw (hk b o hw hoo hD e)
end

section
variable {prog : Program} {w : World} {A : Around} {E : Value → Shared → Prop} {env : Env}

theorem compBlockG {elt target iter : Expr} {ifs : List Expr} {scope : Scope} {cl : List (Str × Addr)} {pos : Pos} {s₂ : Shared} {I : Addr} {fp wr : List Addr} {n : Nat} {P : Nat → Value → Prop} {St : Nat → Heap → Prop} {Mid : Nat → Value → Heap → Prop}
    (W : Src prog w A I fp wr n P St Mid) (hsz : n ≤ 1000) (pr : Nat → Bool) (R : Nat → Value → Heap → Prop) {RR : Value → Addr → Result → Shared → Prop}
    (hmono : ∀ i y h h', (∀ a items, IsTup h a items → IsTup h' a items) → R i y h → R i y h')
    (hcell : ∀ y ∈ scope.names, y.2 ≠ .cell) (hkind : scope.kind = .function) (hst : St 0 s₂.heap) (hfp : ∀ b ∈ fp, b < s₂.heap.objs.size)
    (turn : ∀ C i v h tk m E', s₂.heap.objs.size ≤ C → i < n → P i v → Mid i v h → h.Ns C m → (∀ b o, b ∉ wr → s₂.heap.get? b = some o → h.get? b = some o) →
      TurnGoal prog w A target elt ifs (compEnvC scope cl C env) I St (fun h => ∃ m, h.Ns C m) wr [C] pr R i v E' { s₂ with heap := h, toks := tk })
    (hRR : ∀ D C h tk m ys, s₂.heap.get? D = none → s₂.heap.get? C = none → D ≠ C → h.Ns C m → h.PlainList D ys → Paired (fun i y => R i y h) ((List.range n).filter pr) ys.toList →
      (∀ b o, b ∉ wr → s₂.heap.get? b = some o → h.get? b = some o) → RR (.ref D) C (.ok .next) { s₂ with heap := h, toks := tk }) :
    wpAny (model prog w) A (newList []) (fun acc s₃ => wpAny (model prog w) A (newFunctionEnv scope env.globals cl [] env.qual none .none (some env)) (fun cenv s₄ =>
      codeAny (model prog w) A (.compStart (.ListComp elt [⟨target, iter, ifs, 0⟩] scope pos) 0 (.ref I) acc { cenv with scope := relabel scope env }) (RR acc cenv.locals) s₄) E s₃) E s₂ := by
  refine wpAny_newObj_type (wpAny_newFunctionEnv hcell (by intro y hy; simp at hy) (fun h₁ hns₁ hsb₁ => ?_) hkind)
  dsimp only at hns₁ hsb₁ ⊢
  generalize hH2 : s₂.heap.push { cls := .type "list", dict := none, data := .seq ([] : List Value).toArray } = H2 at hns₁ hsb₁ ⊢
  have hC : H2.objs.size = s₂.heap.objs.size + 1 := by rw [← hH2, Heap.size_push]
  have hDC : s₂.heap.objs.size ≠ H2.objs.size := by rw [hC]; exact Nat.ne_of_lt (Nat.lt_succ_self _)
  have below : ∀ b, b < s₂.heap.objs.size → b ≠ H2.objs.size ∧ b ≠ s₂.heap.objs.size := fun b hb => ⟨by rw [hC]; exact Nat.ne_of_lt (Nat.lt_succ_of_lt hb), Nat.ne_of_lt hb⟩
  have hDf : s₂.heap.objs.size ∉ fp := fun hm => Nat.lt_irrefl _ (hfp _ hm)
  have hCf : H2.objs.size ∉ fp := fun hm => by have := hfp _ hm; rw [hC] at this; exact Nat.lt_irrefl _ (Nat.lt_of_succ_lt this)
  have old : ∀ b o, s₂.heap.get? b = some o → h₁.get? b = some o := fun b o e => hsb₁.extBut b o (below b (Heap.lt_size e)).1 (Heap.get?_push_of_some _ (hH2 ▸ Heap.get?_push_of_some _ e))
  have hacc : h₁.PlainList s₂.heap.objs.size #[] := ⟨_, hsb₁.extBut _ _ hDC (Heap.get?_push_of_some _ (hH2 ▸ Heap.get?_push_size _ rfl))⟩
  have hst₁ : St 0 h₁ := W.frame _ _ _ hst fun b _ o e => old b o e
  have fresh : ∀ a, s₂.heap.objs.size ≤ a → s₂.heap.get? a = none := fun a ha => Heap.get?_none_of_le ha
  have noC : s₂.heap.get? H2.objs.size = none := fresh _ (by rw [hC]; exact Nat.le_succ _)
  have noD : s₂.heap.get? s₂.heap.objs.size = none := fresh _ (Nat.le_refl _)
  have loop : ∀ s₃ : Shared, s₃ = { s₂ with heap := h₁, toks := s₂.toks + ([] : List (Str × Value)).length } →
      codeAny (model prog w) A (.compLoop (.ListComp elt [⟨target, iter, ifs, 0⟩] scope pos) 0 (.ref I) (.ref s₂.heap.objs.size) (compEnvC scope cl H2.objs.size env))
        (RR (.ref s₂.heap.objs.size) H2.objs.size) s₃ := by
    rintro s₃ rfl
    refine compLoopG (cenv := compEnvC scope cl H2.objs.size env) (ow := [H2.objs.size]) W pr R (fun h => ∃ m, h.Ns H2.objs.size m) hmono ?_ ?_ ?_ hDf ?_ hst₁ hacc ⟨_, hns₁⟩ ?_ ?_ hsz
    · rintro h h' ⟨m, hm⟩ hk
      exact ⟨m, hm.at' fun o e => hk _ (List.mem_singleton.mpr rfl) o e⟩
    · rintro h a items ⟨m, o, es, ep, ho, hd, _⟩ ⟨o', ho', _, nn, hd'⟩ hm
      rw [List.mem_singleton.mp hm, ho] at ho'
      cases ho'
      rw [hd] at hd'
      cases hd'
    · intro hm
      exact hDC (List.mem_singleton.mp hm)
    · intro b hb
      rw [List.mem_singleton.mp hb]
      exact hCf
    · rintro i v h tk hi hP hM ⟨m, hm⟩ hk _
      refine turn _ i v h tk m _ (by rw [hC]; exact Nat.le_succ _) hi hP hM hm fun b o hw e => hk b o hw ?_ ?_ (old b o e)
      · intro hb
        rw [List.mem_singleton.mp hb, noC] at e
        cases e
      · rintro rfl
        rw [noD] at e
        cases e
    · rintro h tk ys ⟨m, hm⟩ hD hP hk
      refine hRR _ _ h tk m ys noD noC hDC hm hD hP fun b o hw e => hk b o hw ?_ ?_ (old b o e)
      · intro hb
        rw [List.mem_singleton.mp hb, noC] at e
        cases e
      · rintro rfl
        rw [noD] at e
        cases e
  exact codeAny_compStart_list (loop _ rfl) (W.self 0 _ _ _ hst₁ (loop _ rfl))

/-- the end of a turn's test, of a turn's element -/
def TestOk (b : Bool) (s : Shared) (ok : Bool) (s' : Shared) : Prop := ok = b ∧ Keeps s s'
def EltOk (R : Value → Heap → Prop) (s : Shared) (y : Value) (s' : Shared) : Prop := R y s'.heap ∧ Keeps s s'

/-- what a comprehension over a list asks of its source's end -/
def ListTurns (prog : Program) (w : World) (A : Around) (env : Env) (target elt : Expr) (ifs : List Expr) (scope : Scope) (cl : List (Str × Addr)) (pr : Nat → Bool) (B : Nat → (Str → Option Value) → Prop) (R : Nat → Value → Heap → Prop) (items : Array Value) (s₁ : Shared) : Prop :=
  (∀ C i v h tk m (Q : Unit → Shared → Prop) (E' : Value → Shared → Prop), items[i]? = some v → s₁.heap.get? C = none → h.Ns C m → s₁.heap.StaysIn h →
    (∀ h' m' tk', h'.Ns C m' → B i m' → (∀ b o, b ≠ C → h.get? b = some o → h'.get? b = some o) → Q () { s₁ with heap := h', toks := tk' }) → wpAny (model prog w) A (assign target (compEnvC scope cl C env) v) Q E' { s₁ with heap := h, toks := tk }) ∧
  (∀ C i h tk m (E' : Value → Shared → Prop), i < items.size → s₁.heap.get? C = none → h.Ns C m → B i m → s₁.heap.StaysIn h →
    wpAny (model prog w) A (testsOf ifs (compEnvC scope cl C env)) (TestOk (pr i) { s₁ with heap := h, toks := tk }) E' { s₁ with heap := h, toks := tk }) ∧
  (∀ C i h tk m (E' : Value → Shared → Prop), i < items.size → pr i = true → s₁.heap.get? C = none → h.Ns C m → B i m → s₁.heap.StaysIn h →
    wpAny (model prog w) A (eval elt (compEnvC scope cl C env)) (EltOk (R i) { s₁ with heap := h, toks := tk }) E' { s₁ with heap := h, toks := tk })

theorem goList {target : Expr} {I l : Addr} {j : Nat} {v : Value} {s : Shared} {Q : Unit → Shared → Prop} (ht : (∃ x p, target = .Name x p) ∨ ((∃ es k p, target = .Tuple es k p) ∧ ∃ T, v = .ref T)) (hit : s.heap.IsListIter I l j) (h : Q () s) :
    wpAny (model prog w) A (letOwnedTupleGo target (.ref I) v) Q E s := by
  rcases ht with ⟨x, p, rfl⟩ | ⟨⟨es, k, p, rfl⟩, T, rfl⟩
  · exact wpAny_pure h
  · exact wpAny_letOwnedTupleGo_listiter hit h

theorem lcBlock {elt target iter : Expr} {ifs : List Expr} {scope : Scope} {cl : List (Str × Addr)} {pos : Pos} {s₁ : Shared} {l : Addr} {items : Array Value} {pr : Nat → Bool} {B : Nat → (Str → Option Value) → Prop} {R : Nat → Value → Heap → Prop}
    {RR : Value → Addr → Result → Shared → Prop} (hh : A.handled = none) (hl : s₁.heap.IsList l items) (hsz : items.size ≤ 1000)
    (hmono : ∀ i y h h', (∀ a items, IsTup h a items → IsTup h' a items) → R i y h → R i y h')
    (hcell : ∀ y ∈ scope.names, y.2 ≠ .cell) (hkind : scope.kind = .function)
    (ht : ∀ (i : Nat) (v : Value), items[i]? = some v → (∃ x p, target = .Name x p) ∨ ((∃ es k p, target = .Tuple es k p) ∧ ∃ T, v = .ref T))
    (T : ListTurns prog w A env target elt ifs scope cl pr B R items s₁)
    (hRR : ∀ D C h tk m ys, s₁.heap.get? D = none → s₁.heap.get? C = none → D ≠ C → h.Ns C m → h.PlainList D ys → Paired (fun i y => R i y h) ((List.range items.size).filter pr) ys.toList →
      s₁.heap.StaysIn h → RR (.ref D) C (.ok .next) { s₁ with heap := h, toks := tk }) :
    wpAny (model prog w) A (pyIter (.ref l)) (fun it s₂ => wpAny (model prog w) A (newList []) (fun acc s₃ => wpAny (model prog w) A (newFunctionEnv scope env.globals cl [] env.qual none .none (some env)) (fun cenv s₄ =>
      codeAny (model prog w) A (.compStart (.ListComp elt [⟨target, iter, ifs, 0⟩] scope pos) 0 it acc { cenv with scope := relabel scope env }) (RR acc cenv.locals) s₄) E s₃) E s₂) E s₁ := by
  obtain ⟨ol, hol, _⟩ := id hl
  have hlt : l < s₁.heap.objs.size := Heap.lt_size hol
  refine wpAny_pyIter_list hl ?_
  have up : ∀ b o, s₁.heap.get? b = some o → (s₁.heap.push { cls := .type "list_iterator", data := .fields #[.ref l, .int 0 0] }).get? b = some o := fun b o e => Heap.get?_push_of_some _ e
  have old : ∀ h : Heap, (∀ b o, b ∉ [s₁.heap.objs.size] → (s₁.heap.push { cls := .type "list_iterator", data := .fields #[.ref l, .int 0 0] }).get? b = some o → h.get? b = some o) → s₁.heap.StaysIn h := fun h hk b o e =>
    hk b o (fun hm => absurd (Heap.lt_size e) ((List.mem_singleton.mp hm) ▸ Nat.lt_irrefl _)) (up b o e)
  have newer : ∀ a, (s₁.heap.push { cls := .type "list_iterator", data := .fields #[.ref l, .int 0 0] }).get? a = none → s₁.heap.get? a = none := fun a e => by
    cases q : s₁.heap.get? a with
    | none => rfl
    | some o => rw [up a o q] at e; cases e
  have W := Src.list (prog := prog) (w := w) hh s₁.heap.objs.size l (Nat.ne_of_lt hlt) items
  refine compBlockG W hsz pr R hmono hcell hkind ⟨⟨_, Heap.get?_push_size _ rfl, rfl, rfl⟩, hl.push _⟩ (fun b hb => ?_) ?_ ?_
  · show b < (s₁.heap.push _).objs.size
    rw [Heap.size_push]
    rcases List.mem_cons.mp hb with rfl | hb
    · exact Nat.lt_succ_self _
    · rw [List.mem_singleton.mp hb]; exact Nat.lt_succ_of_lt hlt
  · intro C i v h tk m E' hC hi hP hM hm hk
    have hS := old h hk
    have hC₁ := newer C (Heap.get?_none_of_le hC)
    have hCI : C ≠ s₁.heap.objs.size := by
      have hC' : (s₁.heap.push { cls := .type "list_iterator", data := .fields #[.ref l, .int 0 0] }).objs.size ≤ C := hC
      rw [Heap.size_push] at hC'
      exact Nat.ne_of_gt hC'
    unfold TurnGoal
    refine goList (ht i v hP) hM.1 ?_
    refine T.1 C i v h tk m _ _ hP hC₁ hm hS fun h₂ m₂ tk₂ hm₂ hB hk₂ => ?_
    have stay₂ : s₁.heap.StaysIn h₂ := fun b o e => hk₂ b o (by rintro rfl; rw [hC₁] at e; cases e) (hS b o e)
    have fin : ∀ h₃ : Heap, (∀ b o, h₂.get? b = some o → h₃.get? b = some o) → (h₃.IsListIter s₁.heap.objs.size l (i + 1) ∧ h₃.IsList l items) ∧ (∃ m, h₃.Ns C m) ∧ (∀ b o, b ∉ [s₁.heap.objs.size] → b ∉ [C] → h.get? b = some o → h₃.get? b = some o) := fun h₃ k₃ =>
      ⟨⟨hM.1.at fun o e => k₃ _ o (hk₂ _ o (Ne.symm hCI) e), hM.2.at fun o e => k₃ _ o (hk₂ _ o (by rintro rfl; rw [hC₁] at hol; cases hol) e)⟩, ⟨m₂, hm₂.keeps k₃⟩, fun b o _ hc e => k₃ b o (hk₂ b o (fun q => hc (List.mem_singleton.mpr q)) e)⟩
    refine wpAny_mono (T.2.1 C i h₂ tk₂ m₂ E' hi hC₁ hm₂ hB stay₂) (fun ok s₃ hok => ?_) fun _ _ x => x
    obtain ⟨rfl, h₃, tk₃, rfl, k₃⟩ := hok
    cases hpr : pr i with
    | false =>
      simp only [Bool.false_eq_true, if_false]
      obtain ⟨f1, f2, f3⟩ := fin h₃ k₃
      exact ⟨h₃, tk₃, rfl, f1, f2, f3, hpr⟩
    | true =>
      simp only [if_true]
      refine wpAny_mono (T.2.2 C i h₃ tk₃ m₂ E' hi hpr hC₁ (hm₂.keeps k₃) hB (fun b o e => k₃ b o (stay₂ b o e))) (fun y s₄ hy => ?_) fun _ _ x => x
      obtain ⟨hR, h₄, tk₄, rfl, k₄⟩ := hy
      obtain ⟨f1, f2, f3⟩ := fin h₄ fun b o e => k₄ b o (k₃ b o e)
      exact ⟨h₄, tk₄, rfl, f1, f2, f3, hpr, hR⟩
  · intro D C h tk m ys hD hC hDC hm hl' hP hk
    exact hRR D C h tk m ys (newer D hD) (newer C hC) hDC hm hl' hP (old h hk)

/-- a list comprehension over a list -/
theorem lcList {elt target iter : Expr} {ifs : List Expr} {scope : Scope} {cl : List (Str × Addr)} {pos : Pos} {s : Shared} {Q : Value → Shared → Prop} {items : Array Value} (pr : Nat → Bool) (B : Nat → (Str → Option Value) → Prop) (R : Nat → Value → Heap → Prop)
    (hh : A.handled = none) (hsz : items.size ≤ 1000)
    (hmono : ∀ i y h h', (∀ a items, IsTup h a items → IsTup h' a items) → R i y h → R i y h')
    (hclos : closureFor scope env = pure cl) (hcell : ∀ y ∈ scope.names, y.2 ≠ .cell) (hkind : scope.kind = .function) (hnames : ∀ y ∈ scope.names, y.2 = .local → scope.names.lookup y.1 = some .local)
    (ht : ∀ (i : Nat) (v : Value), items[i]? = some v → (∃ x p, target = .Name x p) ∨ ((∃ es k p, target = .Tuple es k p) ∧ ∃ T, v = .ref T))
    (h : wpAny (model prog w) A (eval iter env) (fun xv s₁ => ∃ l, xv = .ref l ∧ s₁.heap.IsList l items ∧ ListTurns prog w A env target elt ifs scope cl pr B R items s₁ ∧
      ∀ D h tk ys, s₁.heap.get? D = none → h.PlainList D ys → Paired (fun i y => R i y h) ((List.range items.size).filter pr) ys.toList → s₁.heap.StaysIn h → Q (.ref D) { s₁ with heap := h, toks := tk }) E s)
    (hs : ∀ x, foldedSetIterable iter env x = pure x := by intro _; rfl) :
    wpAny (model prog w) A (eval (.ListComp elt [⟨target, iter, ifs, 0⟩] scope pos) env) Q E s := by
  rw [eval_ListComp]
  refine wpAny_comprehension_free (use := none) rfl hs hclos hkind hnames (wpAny_mono h (fun xv s₁ h₁ => ?_) fun _ _ e => e)
  obtain ⟨l, rfl, hl, T, fin⟩ := h₁
  refine lcBlock (RR := fun acc C => compPost (model prog w) A E none Q acc C) hh hl hsz hmono hcell hkind ht T ?_
  intro D C h tk m ys hD hC hDC hm hl' hP hS
  refine ⟨m, hm, fun h'' hs'' => fin D h'' tk ys hD (hl'.extBut hs''.extBut hDC) (Paired.monoH (fun i y => hmono i y _ _ fun a its ht => ?_) hP) fun b o e => hs''.extBut b o (by rintro rfl; rw [hC] at e; cases e) (hS b o e)⟩
  obtain ⟨o, e, hc, nn, hd⟩ := ht
  refine ⟨o, hs''.extBut a o (fun q => ?_) e, hc, nn, hd⟩
  obtain ⟨o', es, ep, e', hd', _⟩ := hm
  rw [q, e'] at e
  cases e
  rw [hd'] at hd
  cases hd

/-- the same, bound at once to a local name -/
theorem lcListAssign {elt target iter : Expr} {ifs : List Expr} {scope : Scope} {cl : List (Str × Addr)} {pos spos py : Pos} {y : Str} {s : Shared} {Q : Flow → Shared → Prop} {items : Array Value} (pr : Nat → Bool) (B : Nat → (Str → Option Value) → Prop) (R : Nat → Value → Heap → Prop)
    (hsw : swapsWith (.ListComp elt [⟨target, iter, ifs, 0⟩] scope pos) (some (.Name y py)) spos.line env = pure true)
    (hy : env.kindOf y = some .local) (hp : (env.scope.kind == .class || (env.scope.kind == .module && env.locals != env.globals)) = false)
    (hh : A.handled = none) (hsz : items.size ≤ 1000)
    (hmono : ∀ i y h h', (∀ a items, IsTup h a items → IsTup h' a items) → R i y h → R i y h')
    (hclos : closureFor scope env = pure cl) (hcell : ∀ y ∈ scope.names, y.2 ≠ .cell) (hkind : scope.kind = .function) (hnames : ∀ y ∈ scope.names, y.2 = .local → scope.names.lookup y.1 = some .local)
    (ht : ∀ (i : Nat) (v : Value), items[i]? = some v → (∃ x p, target = .Name x p) ∨ ((∃ es k p, target = .Tuple es k p) ∧ ∃ T, v = .ref T))
    (h : wpAny (model prog w) A (eval iter env) (fun xv s₁ => ∃ l, xv = .ref l ∧ s₁.heap.IsList l items ∧ ListTurns prog w A env target elt ifs scope cl pr B R items s₁ ∧
      ∃ m, s₁.heap.Ns env.locals m ∧ ∀ D h tk ys, s₁.heap.get? D = none → h.PlainList D ys → Paired (fun i y => R i y h) ((List.range items.size).filter pr) ys.toList → h.Ns env.locals (fun z => if z = y then some (.ref D) else m z) →
        (∀ b o, b ≠ env.locals → s₁.heap.get? b = some o → h.get? b = some o) → Q .next { s₁ with heap := h, toks := tk }) E s)
    (hs : ∀ x, foldedSetIterable iter env x = pure x := by intro _; rfl) :
    wpAny (model prog w) A (exec (.Assign [.Name y py] (.ListComp elt [⟨target, iter, ifs, 0⟩] scope pos) spos) env) Q E s := by
  rw [exec_Assign_Name_used _ _ _ _ hsw]
  refine wpAny_bind (wpAny_standAt (wpAny_bind ?_))
  show wpAny _ A (do let _ ← comprehension (.ListComp elt [⟨target, iter, ifs, 0⟩] scope pos) scope env _ (newList []) false (eval iter env) (some (assign (.Name y py) env))) _ _ s
  refine wpAny_bind (wpAny_mono (wpAny_comprehension_free (use := some (assign (.Name y py) env)) (Q := fun _ s' => Q .next s') rfl hs hclos hkind hnames
    (wpAny_mono h (fun xv s₁ h₁ => ?_) fun _ _ e => e)) (fun _ s' hq => wpAny_pure (wpAny_pure hq)) fun _ _ e => e)
  obtain ⟨l, rfl, hl, T, m₀, hn, fin⟩ := h₁
  refine lcBlock (RR := fun acc C => compPost (model prog w) A E (some (assign (.Name y py) env)) (fun _ s' => Q .next s') acc C) hh hl hsz hmono hcell hkind ht T ?_
  intro D C h tk m ys hD hC hDC hm hl' hP hS
  have hLC : env.locals ≠ C := by rintro rfl; obtain ⟨o, _, _, ho, _⟩ := hn; rw [hC] at ho; cases ho
  have hLD : env.locals ≠ D := by rintro rfl; obtain ⟨o, _, _, ho, _⟩ := hn; rw [hD] at ho; cases ho
  show wpAny _ A (assign (.Name y py) env (.ref D)) _ _ _
  refine wpAny_assign_Name (wpAny_storeName_local hy (hn.at' fun o e => hS _ o e) (fun h₂ hn₂ hs₂ => ?_) hp)
  refine ⟨m, hm.sameBut hs₂ (Ne.symm hLC), fun h₃ hs₃ => ?_⟩
  have notDict : ∀ {h h' : Heap} {c : Addr} {mm : Str → Option Value} {a : Addr} {its : Array Value}, h.Ns c mm → (∀ b o, b ≠ c → h.get? b = some o → h'.get? b = some o) → IsTup h a its → IsTup h' a its := fun {h h' c mm a its} hn hk ht => by
    obtain ⟨o, e, hc, nn, hd⟩ := ht
    refine ⟨o, hk a o (fun q => ?_) e, hc, nn, hd⟩
    obtain ⟨o', es, ep, e', hd', _⟩ := hn
    rw [q, e'] at e
    cases e
    rw [hd'] at hd
    cases hd
  refine fin D h₃ _ ys hD ((hl'.extBut hs₂.extBut (Ne.symm hLD)).extBut hs₃.extBut hDC) (Paired.monoH (fun i z => hmono i z _ _ fun a its ht => ?_) hP) (hn₂.sameBut hs₃ hLC) fun b o hbL e =>
    hs₃.extBut b o (by rintro rfl; rw [hC] at e; cases e) (hs₂.extBut b o hbL (hS b o e))
  exact notDict (hm.sameBut hs₂ (Ne.symm hLC)) (fun b o q e => hs₃.extBut b o q e) (notDict (hn.at' fun o e => hS _ o e) (fun b o q e => hs₂.extBut b o q e) ht)

theorem asgName {x : Str} {px : Pos} {scope : Scope} {cl : List (Str × Addr)} {C : Addr} {v : Value} {s₁ : Shared} {h : Heap} {tk : Nat} {m : Str → Option Value} {Q : Unit → Shared → Prop} (hx : scope.names.lookup x = some .local) (hkind : scope.kind = .function) (hn : h.Ns C m)
    (H : ∀ h' m' tk', h'.Ns C m' → m' x = some v → (∀ b o, b ≠ C → h.get? b = some o → h'.get? b = some o) → Q () { s₁ with heap := h', toks := tk' }) :
    wpAny (model prog w) A (assign (.Name x px) (compEnvC scope cl C env) v) Q E { s₁ with heap := h, toks := tk } := by
  refine wpAny_assign_Name (wpAny_storeName_local (lookup_relabel_local hx) hn (fun h₂ hn₂ hs₂ => ?_) (by simp [compEnvC, relabel, hkind]))
  exact H h₂ _ _ hn₂ (by simp) fun b o q e => hs₂.extBut b o q e

theorem asgTup2 {x y : Str} {px py pt : Pos} {k : Nat} {scope : Scope} {cl : List (Str × Addr)} {C t : Addr} {v u : Value} {s₁ : Shared} {h : Heap} {tk : Nat} {m : Str → Option Value} {Q : Unit → Shared → Prop} (hh : A.handled = none)
    (hx : scope.names.lookup x = some .local) (hy : scope.names.lookup y = some .local) (hxy : x ≠ y) (hkind : scope.kind = .function) (hn : h.Ns C m) (ht : IsTup h t #[v, u])
    (H : ∀ h' m' tk', h'.Ns C m' → (m' x = some v ∧ m' y = some u) → (∀ b o, b ≠ C → h.get? b = some o → h'.get? b = some o) → Q () { s₁ with heap := h', toks := tk' }) :
    wpAny (model prog w) A (assign (.Tuple [.Name x px, .Name y py] k pt) (compEnvC scope cl C env) (.ref t)) Q E { s₁ with heap := h, toks := tk } := by
  refine assign_Tuple_tuple (s := { s₁ with heap := h, toks := tk }) hh ht rfl rfl fun h₅ he => ?_
  have he' : ∀ b o, h.get? b = some o → h₅.get? b = some o := fun b o e => he b o (Nat.ne_of_lt (Heap.lt_size e)) e
  refine assignInOrder_cons (wpAny_assign_Name (wpAny_storeName_local (lookup_relabel_local hx) (hn.keeps he') (fun h₆ hn₆ hs₆ => ?_) (by simp [compEnvC, relabel, hkind])))
  refine assignInOrder_cons (wpAny_assign_Name (wpAny_storeName_local (lookup_relabel_local hy) hn₆ (fun h₇ hn₇ hs₇ => ?_) (by simp [compEnvC, relabel, hkind])))
  refine assignInOrder_nil ?_
  exact H h₇ _ _ hn₇ ⟨by simp [hxy], by simp⟩ fun b o q e => hs₇.extBut b o q (hs₆.extBut b o q (he' b o e))

theorem asgTup3 {x y z : Str} {px py pz pt : Pos} {k : Nat} {scope : Scope} {cl : List (Str × Addr)} {C t : Addr} {v u r : Value} {s₁ : Shared} {h : Heap} {tk : Nat} {m : Str → Option Value} {Q : Unit → Shared → Prop} (hh : A.handled = none)
    (hx : scope.names.lookup x = some .local) (hy : scope.names.lookup y = some .local) (hz : scope.names.lookup z = some .local) (hxy : x ≠ y) (hxz : x ≠ z) (hyz : y ≠ z) (hkind : scope.kind = .function) (hn : h.Ns C m) (ht : IsTup h t #[v, u, r])
    (H : ∀ h' m' tk', h'.Ns C m' → (m' x = some v ∧ m' y = some u ∧ m' z = some r) → (∀ b o, b ≠ C → h.get? b = some o → h'.get? b = some o) → Q () { s₁ with heap := h', toks := tk' }) :
    wpAny (model prog w) A (assign (.Tuple [.Name x px, .Name y py, .Name z pz] k pt) (compEnvC scope cl C env) (.ref t)) Q E { s₁ with heap := h, toks := tk } := by
  refine assign_Tuple_tuple (s := { s₁ with heap := h, toks := tk }) hh ht rfl rfl fun h₅ he => ?_
  have he' : ∀ b o, h.get? b = some o → h₅.get? b = some o := fun b o e => he b o (Nat.ne_of_lt (Heap.lt_size e)) e
  refine assignInOrder_cons (wpAny_assign_Name (wpAny_storeName_local (lookup_relabel_local hx) (hn.keeps he') (fun h₆ hn₆ hs₆ => ?_) (by simp [compEnvC, relabel, hkind])))
  refine assignInOrder_cons (wpAny_assign_Name (wpAny_storeName_local (lookup_relabel_local hy) hn₆ (fun h₇ hn₇ hs₇ => ?_) (by simp [compEnvC, relabel, hkind])))
  refine assignInOrder_cons (wpAny_assign_Name (wpAny_storeName_local (lookup_relabel_local hz) hn₇ (fun h₈ hn₈ hs₈ => ?_) (by simp [compEnvC, relabel, hkind])))
  refine assignInOrder_nil ?_
  exact H h₈ _ _ hn₈ ⟨by simp [hxy, hxz], by simp [hyz], by simp⟩ fun b o q e => hs₈.extBut b o q (hs₇.extBut b o q (hs₆.extBut b o q (he' b o e)))

theorem ldC {x : Str} {pos : Pos} {scope : Scope} {cl : List (Str × Addr)} {C : Addr} {v : Value} {s : Shared} {m : Str → Option Value} {Q : Value → Shared → Prop} (hn : s.heap.Ns C m) (hx : m x = some v) (h : Q v s)
    (hk : (compEnvC scope cl C env).scope.kind = .function := by rfl) (hl : (compEnvC scope cl C env).kindOf x = some .local := by rfl) (hd : (x == ("__debug__" : Str)) = false := by decide) :
    wpAny (model prog w) A (eval (.Name x pos) (compEnvC scope cl C env)) Q E s := wpAny_Name (wpAny_loadName_local hk hl hn hx h) hd
theorem ldCell {x : Str} {pos : Pos} {scope : Scope} {cl : List (Str × Addr)} {C c : Addr} {o : Obj} {v : Value} {s : Shared} {Q : Value → Shared → Prop} (hc : cl.lookup x = some c) (ho : s.heap.get? c = some o) (hv : o.data = .cell (some v)) (h : Q v s)
    (hk : (compEnvC scope cl C env).scope.kind = .function := by rfl) (hl : (compEnvC scope cl C env).kindOf x = some .cell := by rfl) (hd : (x == ("__debug__" : Str)) = false := by decide) :
    wpAny (model prog w) A (eval (.Name x pos) (compEnvC scope cl C env)) Q E s := wpAny_Name (wpAny_loadName_cell hk hl hc ⟨o, ho, hv⟩ h) hd
theorem ldGlob {K : Frag} {p : Program} {loose : List Str} {mean : ExcName → Option Value} {mg mb : Str → Option Value} {x : Str} {pos : Pos} {scope : Scope} {cl : List (Str × Addr)} {C : Addr} {v : Value} {s : Shared} {Q : Value → Shared → Prop}
    (X : K.In s.heap) (T : Top p loose mean mg mb s.heap) (e : nsIn K mainGlobals x = some (some v)) (h : Q v s) (hg : env.globals = mainGlobals := by rfl)
    (hk : (compEnvC scope cl C env).scope.kind = .function := by rfl) (hx : (compEnvC scope cl C env).kindOf x = some .globalImplicit := by rfl) (hd : (x == ("__debug__" : Str)) = false := by decide) :
    wpAny (model prog w) A (eval (.Name x pos) (compEnvC scope cl C env)) Q E s :=
  Name_function_global hk hx (loadGlobal_global (env := compEnvC scope cl C env) (show s.heap.Ns env.globals mg from hg ▸ T.g) (mg_of X T.g e) h) hd
theorem ldBuilt {K : Frag} {p : Program} {loose : List Str} {mean : ExcName → Option Value} {mg mb : Str → Option Value} {x : Str} {pos : Pos} {scope : Scope} {cl : List (Str × Addr)} {C : Addr} {v : Value} {s : Shared} {Q : Value → Shared → Prop}
    (X : K.In s.heap) (T : Top p loose mean mg mb s.heap) (e : nsIn K mainGlobals x = some none) (hv : bootBuiltins x = some v) (hn : x ≠ "__name__") (h : Q v s) (hg : env.globals = mainGlobals := by rfl) (hb : env.builtins = builtinsNs := by rfl)
    (hk : (compEnvC scope cl C env).scope.kind = .function := by rfl) (hx : (compEnvC scope cl C env).kindOf x = some .globalImplicit := by rfl) (hd : (x == ("__debug__" : Str)) = false := by decide) :
    wpAny (model prog w) A (eval (.Name x pos) (compEnvC scope cl C env)) Q E s :=
  Name_function_global hk hx (loadGlobal_builtin (env := compEnvC scope cl C env) (show s.heap.Ns env.globals mg from hg ▸ T.g) (mg_none_of X T.g e) (show s.heap.Ns env.builtins mb from hb ▸ T.b) ((T.builtins x hn).trans hv) h) hd
theorem fr1 {h₀ h : Heap} {L : Addr} {m : Str → Option Value} {a : Str} {va : Value} (F : Fr h₀ L h m) (h1 : m a = some va) : ∃ u : Str → Option Value, Fr h₀ L h (fun y => if y = a then some va else u y) := by
  refine ⟨m, ?_⟩
  have e : (fun y => if y = a then some va else m y) = m := by
    funext y
    by_cases q : y = a
    · rw [if_pos q, q, h1]
    · rw [if_neg q]
  rw [e]; exact F
theorem fr2 {h₀ h : Heap} {L : Addr} {m : Str → Option Value} {a b : Str} {va vb : Value} (F : Fr h₀ L h m) (h1 : m a = some va) (h2 : m b = some vb) : ∃ u : Str → Option Value, Fr h₀ L h (fun y => if y = a then some va else if y = b then some vb else u y) := by
  refine ⟨m, ?_⟩
  have e : (fun y => if y = a then some va else if y = b then some vb else m y) = m := by
    funext y
    by_cases q : y = a
    · rw [if_pos q, q, h1]
    · rw [if_neg q]
      by_cases q : y = b
      · rw [if_pos q, q, h2]
      · rw [if_neg q]
  rw [e]; exact F
theorem keeps_of {s₁ : Shared} {h h' : Heap} {tk tk' : Nat} (k : ∀ b o, h.get? b = some o → h'.get? b = some o) : Keeps { s₁ with heap := h, toks := tk } { s₁ with heap := h', toks := tk' } := ⟨h', tk', rfl, k⟩
theorem keeps_tok {s₁ : Shared} {h : Heap} {tk tk' : Nat} : Keeps { s₁ with heap := h, toks := tk } { s₁ with heap := h, toks := tk' } := ⟨h, tk', rfl, fun _ _ e => e⟩

/-- a list comprehension with a plain name over anything that walks -/
theorem lcWalk {elt iter : Expr} {x : Str} {px : Pos} {ifs : List Expr} {scope : Scope} {cl : List (Str × Addr)} {pos : Pos} {s : Shared} {Q : Value → Shared → Prop} (pr : Nat → Bool) (R : Nat → Value → Heap → Prop)
    (hmono : ∀ i y h h', (∀ a items, IsTup h a items → IsTup h' a items) → R i y h → R i y h')
    (hclos : closureFor scope env = pure cl) (hcell : ∀ y ∈ scope.names, y.2 ≠ .cell) (hkind : scope.kind = .function) (hnames : ∀ y ∈ scope.names, y.2 = .local → scope.names.lookup y.1 = some .local) (hx : scope.names.lookup x = some .local)
    (h : wpAny (model prog w) A (eval iter env) (fun xv s₁ => wpAny (model prog w) A (pyIter xv) (fun it s₂ => ∃ I fp wr n P St, it = .ref I ∧ Walks prog w A I fp wr n P St ∧ (∀ i h a items, St i h → IsTup h a items → a ∉ wr) ∧ n ≤ 1000 ∧ St 0 s₂.heap ∧ (∀ b ∈ fp, b < s₂.heap.objs.size) ∧
      (∀ C i v h tk m (E' : Value → Shared → Prop), i < n → P i v → s₂.heap.get? C = none → h.Ns C m → m x = some v → (∀ b o, b ∉ wr → s₂.heap.get? b = some o → h.get? b = some o) →
        wpAny (model prog w) A (testsOf ifs (compEnvC scope cl C env)) (TestOk (pr i) { s₂ with heap := h, toks := tk }) E' { s₂ with heap := h, toks := tk }) ∧
      (∀ C i v h tk m (E' : Value → Shared → Prop), i < n → pr i = true → P i v → s₂.heap.get? C = none → h.Ns C m → m x = some v → (∀ b o, b ∉ wr → s₂.heap.get? b = some o → h.get? b = some o) →
        wpAny (model prog w) A (eval elt (compEnvC scope cl C env)) (EltOk (R i) { s₂ with heap := h, toks := tk }) E' { s₂ with heap := h, toks := tk }) ∧
      ∀ D h tk ys, s₂.heap.get? D = none → h.PlainList D ys → Paired (fun i y => R i y h) ((List.range n).filter pr) ys.toList → (∀ b o, b ∉ wr → s₂.heap.get? b = some o → h.get? b = some o) → Q (.ref D) { s₂ with heap := h, toks := tk }) E s₁) E s)
    (hs : ∀ x, foldedSetIterable iter env x = pure x := by intro _; rfl) :
    wpAny (model prog w) A (eval (.ListComp elt [⟨.Name x px, iter, ifs, 0⟩] scope pos) env) Q E s := by
  rw [eval_ListComp]
  refine wpAny_comprehension_free (use := none) rfl hs hclos hkind hnames (wpAny_mono h (fun xv s₁ h₁ => wpAny_mono h₁ (fun it s₂ h₂ => ?_) fun _ _ e => e) fun _ _ e => e)
  obtain ⟨I, fp, wr, n, P, St, rfl, W, hT, hsz, hst, hfp, tests, elts, fin⟩ := h₂
  refine compBlockG (RR := fun acc C => compPost (model prog w) A E none Q acc C) (Src.ofWalks W hT) hsz pr R hmono hcell hkind hst hfp ?_ ?_
  · intro C i v h tk m E' hCs hi hP hM hm hk
    have hC := Heap.get?_none_of_le hCs
    have hCf : C ∉ fp := fun hm => Nat.lt_irrefl _ (Nat.lt_of_lt_of_le (hfp C hm) hCs)
    unfold TurnGoal
    refine wpAny_pure ?_
    refine asgName hx hkind hm fun h₂ m₂ tk₂ hm₂ hB hk₂ => ?_
    have stay₂ : ∀ b o, b ∉ wr → s₂.heap.get? b = some o → h₂.get? b = some o := fun b o hw e => hk₂ b o (by rintro rfl; rw [hC] at e; cases e) (hk b o hw e)
    have fin' : ∀ h₃ : Heap, (∀ b o, h₂.get? b = some o → h₃.get? b = some o) → St (i + 1) h₃ ∧ (∃ m, h₃.Ns C m) ∧ (∀ b o, b ∉ wr → b ∉ [C] → h.get? b = some o → h₃.get? b = some o) := fun h₃ k₃ =>
      ⟨W.frame _ _ _ hM fun b hb o e => k₃ b o (hk₂ b o (fun q => hCf (q ▸ hb)) e), ⟨m₂, hm₂.keeps k₃⟩, fun b o _ hc e => k₃ b o (hk₂ b o (fun q => hc (List.mem_singleton.mpr q)) e)⟩
    refine wpAny_mono (tests C i v h₂ tk₂ m₂ E' hi hP hC hm₂ hB stay₂) (fun ok s₃ hok => ?_) fun _ _ x => x
    obtain ⟨rfl, h₃, tk₃, rfl, k₃⟩ := hok
    cases hpr : pr i with
    | false =>
      simp only [Bool.false_eq_true, if_false]
      obtain ⟨f1, f2, f3⟩ := fin' h₃ k₃
      exact ⟨h₃, tk₃, rfl, f1, f2, f3, hpr⟩
    | true =>
      simp only [if_true]
      refine wpAny_mono (elts C i v h₃ tk₃ m₂ E' hi hpr hP hC (hm₂.keeps k₃) hB (fun b o hw e => k₃ b o (stay₂ b o hw e))) (fun y s₄ hy => ?_) fun _ _ x => x
      obtain ⟨hR, h₄, tk₄, rfl, k₄⟩ := hy
      obtain ⟨f1, f2, f3⟩ := fin' h₄ fun b o e => k₄ b o (k₃ b o e)
      exact ⟨h₄, tk₄, rfl, f1, f2, f3, hpr, hR⟩
  · intro D C h tk m ys hD hC hDC hm hl' hP hk
    refine ⟨m, hm, fun h'' hs'' => fin D h'' tk ys hD (hl'.extBut hs''.extBut hDC) (Paired.monoH (fun i y => hmono i y _ _ fun a its ht => ?_) hP) fun b o hw e => hs''.extBut b o (by rintro rfl; rw [hC] at e; cases e) (hk b o hw e)⟩
    obtain ⟨o, e, hc, nn, hd⟩ := ht
    refine ⟨o, hs''.extBut a o (fun q => ?_) e, hc, nn, hd⟩
    obtain ⟨o', es, ep, e', hd', _⟩ := hm
    rw [q, e'] at e
    cases e
    rw [hd'] at hd
    cases hd

theorem paired_strs (g : Nat → Str) : ∀ {js : List Nat} {ys : List Value}, Paired (fun i y => ∃ t, y = Value.str (g i) t) js ys → StrsAre ys (js.map g)
  | _, _, .nil => .nil
  | _, _, .cons ⟨t, e⟩ r => by rw [e]; exact .cons _ t (paired_strs g r)
theorem map_getD_range {β : Type} (ws : List Str) (f : Str → β) : (List.range ws.length).map (fun i => f (ws.getD i Str.empty)) = ws.map f := by
  apply List.ext_getElem
  · simp
  · intro i h1 h2
    simp at h1 h2 ⊢
    simp [h2]
end
end Mine

-- part MP
namespace Mine

theorem toList_append' (a b : Str) : (a ++ b).cps.toList = a.cps.toList ++ b.cps.toList := by rw [Str.cps_append, Array.toList_append]

theorem join_len {sep : Str} (h : 1 ≤ sep.length) : ∀ parts : List Str, parts.length ≤ (Str.join sep parts).length + 1
  | [] => Nat.zero_le _
  | [x] => Nat.le_add_left _ _
  | x :: y :: r => by
    have ih := join_len h (y :: r)
    show (x :: y :: r).length ≤ (x ++ sep ++ Str.join sep (y :: r)).length + 1
    rw [Str.length_append, Str.length_append]
    simp only [List.length_cons] at ih ⊢
    omega

theorem esc_free {f : Nat → List Nat} {c : Nat} (ho : ∀ d, d ≠ c → f d = [d]) : ∀ {l : List Nat}, c ∉ l → l.flatMap f = l
  | [], _ => rfl
  | d :: r, h => by
    rw [List.flatMap_cons, ho d (fun e => h (e ▸ List.mem_cons_self)), esc_free ho fun hm => h (List.mem_cons_of_mem _ hm)]
    rfl

theorem esc_join {f : Nat → List Nat} {c : Nat} {z : Str} (hc : f c = z.cps.toList) (ho : ∀ d, d ≠ c → f d = [d]) : ∀ parts : List Str, (∀ p ∈ parts, c ∉ p.cps.toList) →
    (Str.join ⟨#[c]⟩ parts).cps.toList.flatMap f = (Str.join z parts).cps.toList
  | [], _ => rfl
  | [x], h => esc_free ho (h x List.mem_cons_self)
  | x :: y :: r, h => by
    have ih := esc_join hc ho (y :: r) fun p hp => h p (List.mem_cons_of_mem _ hp)
    show (x ++ ⟨#[c]⟩ ++ Str.join ⟨#[c]⟩ (y :: r)).cps.toList.flatMap f = (x ++ z ++ Str.join z (y :: r)).cps.toList
    rw [toList_append', toList_append', toList_append', toList_append', List.flatMap_append, List.flatMap_append, ih, esc_free ho (h x List.mem_cons_self)]
    show x.cps.toList ++ [c].flatMap f ++ _ = _
    rw [List.flatMap_cons, List.flatMap_nil, List.append_nil, hc]

theorem repl_list {f : Nat → List Nat} {c : Nat} {y z : Str} (x : Str) (hy : y = ⟨#[c]⟩) (hc : f c = z.cps.toList) (ho : ∀ d, d ≠ c → f d = [d]) : (Txt.join z (Txt.split x y)).cps.toList = x.cps.toList.flatMap f := by
  subst hy
  show (Builtin.Str.glued z (Txt.split x ⟨#[c]⟩)).cps.toList = _
  rw [StrLaws.glued_eq_join, ← esc_join hc ho _ (StrLaws.split_free x c), StrLaws.join_split]

def esc1 (d : Nat) : List Nat := if d = 92 then [92, 92] else if d = 34 then [92, 34] else [d]
def escF (x : Str) : Str := ⟨(x.cps.toList.flatMap esc1).toArray⟩

theorem flatMap_flatMap' (f g : Nat → List Nat) (l : List Nat) : (l.flatMap f).flatMap g = l.flatMap fun d => (f d).flatMap g := by
  induction l with
  | nil => rfl
  | cons d r ih => rw [List.flatMap_cons, List.flatMap_cons, List.flatMap_append, ih]

theorem sBs : Str.ofString "\\" = ⟨#[92]⟩ := by decide +kernel
theorem sQ : Str.ofString "\"" = ⟨#[34]⟩ := by decide +kernel
theorem sBsBs : Str.ofString "\\\\" = ⟨#[92, 92]⟩ := by decide +kernel
theorem sBsQ : Str.ofString "\\\"" = ⟨#[92, 34]⟩ := by decide +kernel

theorem esc_is (x : Str) : Txt.join (Str.ofString "\\\"") (Txt.split (Txt.join (Str.ofString "\\\\") (Txt.split x (Str.ofString "\\"))) (Str.ofString "\"")) = escF x := by
  refine Str.ext' (Array.toList_inj.mp ?_)
  rw [repl_list (f := fun d => if d = 34 then [92, 34] else [d]) _ sQ (by rw [sBsQ]; rfl) (fun d h => if_neg h),
    repl_list (f := fun d => if d = 92 then [92, 92] else [d]) _ sBs (by rw [sBsBs]; rfl) (fun d h => if_neg h), flatMap_flatMap']
  show x.cps.toList.flatMap _ = x.cps.toList.flatMap esc1
  congr 1
  funext d
  unfold esc1
  by_cases h : d = 92
  · subst h; rfl
  · rw [if_neg h, if_neg h]
    by_cases h' : d = 34
    · subst h'; rfl
    · simp [h']

theorem flat_len {f : Nat → List Nat} (hf : ∀ d, (f d).length ≤ 2) : ∀ l : List Nat, (l.flatMap f).length ≤ 2 * l.length
  | [] => Nat.zero_le _
  | d :: r => by
    have ih := flat_len hf r
    have := hf d
    rw [List.flatMap_cons, List.length_append, List.length_cons]
    omega
theorem str_len (x : Str) : x.cps.toList.length = x.length := by simp [Str.length]
theorem repl_len {c : Nat} {y z : Str} (x : Str) (hy : y = ⟨#[c]⟩) (hz : z.length = 2) : (Txt.join z (Txt.split x y)).length ≤ 2 * x.length := by
  rw [← str_len, repl_list (f := fun d => if d = c then z.cps.toList else [d]) x hy (if_pos rfl) (fun d h => if_neg h), ← str_len x]
  refine flat_len (fun d => ?_) _
  by_cases h : d = c
  · simp only [if_pos h, str_len, hz]; exact Nat.le_refl _
  · simp only [if_neg h, List.length_singleton]; omega
theorem split_len {c : Nat} {y : Str} (x : Str) (hy : y = ⟨#[c]⟩) : (Txt.split x y).length ≤ x.length + 1 := by
  subst hy
  have := join_len (sep := ⟨#[c]⟩) (Nat.le_refl _) (Txt.split x ⟨#[c]⟩)
  rw [StrLaws.join_split] at this
  exact this
theorem joinOk_of {sep : Str} {texts : List Str} {B : Nat} (hB : ∀ y ∈ texts, y.length ≤ B) (h : texts.length * B + texts.length * sep.length ≤ 16777216) : JoinOk sep texts = true := by
  unfold JoinOk
  rw [StrLaws.joinFits hB h]
  rfl
end Mine

-- part M5
namespace Mine
local macro_rules | `(tactic| walk_at "exec For Name Name cons nil") => `(tactic| refine stop ?_)
local macro_rules | `(tactic| walk_at "call builtin:list.append") => `(tactic| refine stop ?_)
local macro_rules | `(tactic| walk_at "InvPostN") => `(tactic| refine stop ?_)

/-- a value's truth -/
def Truth (v : Value) (b : Bool) : Prop := ∀ (prog : Program) (w : World) (A : Around) (Q : Bool → Shared → Prop) (E : Value → Shared → Prop) (s : Shared), Q b s → wpAny (model prog w) A (truthy v) Q E s

section
variable {prog : Program} {w : World} {A : Around} {E : Value → Shared → Prop} {s : Shared} {env : Env} {h₀ : Heap} {x : Str} {body : List Stmt} {Q : Flow → Shared → Prop}
/-- a loop over a list that stands in the ground -/
theorem loopList {l : Addr} {vs : Array Value} {m₀ : Str → Option Value} {news : List (Addr × Obj)} (J : Nat → (Str → Option Value) → List (Addr × Obj) → Prop)
    (hh : A.handled = none) (hl : h₀.IsList l vs) (F : Fr h₀ env.locals s.heap m₀) (N : News h₀ env.locals s.heap news) (hj : J 0 m₀ news)
    (turn : ∀ i v m₁ news₁ h tk own, vs[i]? = some v → OwnOff own (news.map (·.1)) → J i m₁ news₁ →
      Fr h₀ env.locals h (fun y => if y = x then some v else m₁ y) → News h₀ env.locals h (news₁ ++ own) →
      wpAny (model prog w) A (execs body env) (InvPostN h₀ env.locals (J (i + 1)) own (news.map (·.1)) { s with heap := h, toks := tk } Q) E { s with heap := h, toks := tk })
    (done : ∀ m₁ news₁ h tk, J vs.size m₁ news₁ → Fr h₀ env.locals h m₁ → News h₀ env.locals h news₁ → Q .next { s with heap := h, toks := tk }) :
    wpAny (model prog w) A (pyIter (.ref l)) (fun it s₂ => LoopAtV prog w A h₀ env x body Q E it s₂) E s := by
  have hls : s.heap.IsList l vs := hl.at fun o e => F.keep l o e
  obtain ⟨ol, hol, _⟩ := id hl
  have hlt : l < h₀.objs.size := Heap.lt_size hol
  have hne : l ≠ s.heap.objs.size := Nat.ne_of_lt (Nat.lt_trans (Nat.lt_of_lt_of_le hlt F.above) F.ns.lt)
  refine wpAny_pyIter_list hls ?_
  have W := Walks.list (prog := prog) (w := w) hh s.heap.objs.size l hne vs
  refine loop_invN J W ?_ ?_ ?_ ?_ ⟨⟨_, Heap.get?_push_size _ rfl, rfl, rfl⟩, hls.at fun o e => Heap.get?_push_of_some _ e⟩ (F.push _) (fun p hp => ⟨Heap.get?_push_of_some _ (N p hp).1, (N p hp).2⟩) hj ?_ ?_
  · intro hm
    rcases List.mem_cons.mp hm with e | hm
    · exact absurd F.ns.lt (e ▸ Nat.lt_irrefl _)
    · exact absurd (Nat.lt_of_lt_of_le hlt F.above) ((List.mem_singleton.mp hm) ▸ Nat.lt_irrefl _)
  · intro b hb
    rw [List.mem_singleton.mp hb]
    exact next_is_new F
  · intro p hp hI
    exact absurd (Heap.lt_size (N p hp).1) ((List.mem_singleton.mp hI) ▸ Nat.lt_irrefl _)
  · intro p hp hI
    rcases List.mem_cons.mp hI with e | hI
    · exact absurd (Heap.lt_size (N p hp).1) (e ▸ Nat.lt_irrefl _)
    · have := (N p hp).2.2
      rw [List.mem_singleton.mp hI, hol] at this
      cases this
  · rintro i v m₁ nx h tk own hi hv _ hoff hJ F₁ N₁
    exact turn i v m₁ nx h tk own hv hoff hJ F₁ N₁
  · intro m₁ nx h tk hJ F₁ N₁
    exact done m₁ nx h tk hJ F₁ N₁
end

/-- the ledger's part that bears the frames: their slots may have turned -/
def Slots (fr : List (Addr × Obj)) (fr' : List (Addr × Obj)) : Prop := fr'.map (·.1) = fr.map (·.1) ∧ ∀ q ∈ fr', ∃ p ∈ fr, q.1 = p.1 ∧ ∃ sl, q.2 = { p.2 with slots := sl }
theorem Slots.refl (fr : List (Addr × Obj)) : Slots fr fr := ⟨rfl, fun q hq => ⟨q, hq, rfl, q.2.slots, rfl⟩⟩
theorem Slots.trans {a b c : List (Addr × Obj)} (x : Slots a b) (y : Slots b c) : Slots a c := ⟨y.1.trans x.1, fun q hq => by
  obtain ⟨p, hp, e, sl, e2⟩ := y.2 q hq
  obtain ⟨r, hr, e3, sl3, e4⟩ := x.2 p hp
  exact ⟨r, hr, e.trans e3, sl, by rw [e2, e4]⟩⟩
theorem slots_of {h h' : Heap} {fs : List Addr} (T : Turned fs h h') : ∀ (fr : List (Addr × Obj)), (∀ q ∈ fr, h.get? q.1 = some q.2) → ∃ fr', Slots fr fr' ∧ ∀ q ∈ fr', h'.get? q.1 = some q.2
  | [], _ => ⟨[], Slots.refl [], fun _ h => nomatch h⟩
  | p :: r, H => by
    obtain ⟨r', ⟨s1, s2⟩, hr⟩ := slots_of T r fun q hq => H q (List.mem_cons_of_mem _ hq)
    obtain ⟨sl, e⟩ := T.up (H p List.mem_cons_self)
    refine ⟨(p.1, { p.2 with slots := sl }) :: r', ⟨by simp [s1], fun q hq => ?_⟩, fun q hq => ?_⟩
    · rcases List.mem_cons.mp hq with rfl | hq
      · exact ⟨p, List.mem_cons_self, rfl, sl, rfl⟩
      · obtain ⟨a, b, c⟩ := s2 q hq
        exact ⟨a, List.mem_cons_of_mem _ b, c⟩
    · rcases List.mem_cons.mp hq with rfl | hq
      · exact e
      · exact hr q hq

section
variable {n : Nat} {w : World} {p : Program} {loose : List Str} {mean : ExcName → Option Value} {mg mb : Str → Option Value} {A : Around} {base : Heap} {outer : List Env} {s : Shared}
set_option pp.deepTerms false
set_option pp.maxSteps 2000

/-- entering where the frames fs are hidden in the ground and borne by the ledger -/
theorem enterH {name qual : Str} {params : Arguments} {body : List Stmt} {scope : Scope} {dV kV doc pm cdv ct oc : Value} {an od : Option Addr} {osl : Array (Option Value)} {f : Addr} {args : List Value} {Q E : Value → Shared → Prop}
    (fs : List Addr) (hfs : ∀ b ∈ fs, ∃ o, s.heap.get? b = some o) (binds : List (Str × Value))
    (O : Ok n w p loose mean mg mb A base outer s.heap)
    (ho : (hd.heap_39 w.params).lookup f = some ⟨oc, od, .func (fnOf name qual params body scope dV kV doc pm an cdv ct), osl⟩) 
    (hcd : codeIn (hd.heap_39 w.params) cdv qual = true)
    (hbind : BindsTo s (fnOf name qual params body scope dV kV doc pm an cdv ct) ⟨args, []⟩ binds) (hloc : (binds.all fun x => decide (scope.names.lookup x.1 = some .local)) = true)
    (hcell : ∀ x ∈ scope.names, x.2 ≠ .cell)
    (h : ∀ L h₁ fr, L = s.heap.objs.size → s.heap.StaysIn h₁ → fr.map (·.1) = fs → (∀ q ∈ fr, s.heap.get? q.1 = some q.2) → Fr (hideAll s.heap fs) L h₁ (fun y => binds.reverse.lookup y) → News (hideAll s.heap fs) L h₁ fr →
      wpAny (model Challenge.rw_mq0130_01.row.prog w) (A.deeper (envOf qual scope L f cdv)) (execs body (envOf qual scope L f cdv))
        (fun fl s' => Q (match fl with | .ret v => v | _ => .none) s')
        (fun e s' => wpAny (model Challenge.rw_mq0130_01.row.prog w) (A.deeper (envOf qual scope L f cdv)) (leaving (envOf qual scope L f cdv) e) (fun _ s'' => E e s'') (fun e' s'' => E e' s'') s')
        { s with heap := h₁, toks := s.toks + binds.length })
    (hco : scope.isCoroutine = false := by rfl) (hgen : scope.isGenerator = false := by rfl) (hk : scope.kind = .function := by rfl) :
    wpAny (model Challenge.rw_mq0130_01.row.prog w) A (call (.ref f) args) Q E s := by
  refine enterF binds O ho hcd hbind hloc hcell (fun h₁ F _ => ?_) hco hgen hk
  have mk : ∀ l : List Addr, (∀ b ∈ l, ∃ o, s.heap.get? b = some o) → ∃ fr : List (Addr × Obj), fr.map (·.1) = l ∧ ∀ q ∈ fr, s.heap.get? q.1 = some q.2 := by
    intro l
    induction l with
    | nil => intro _; exact ⟨[], rfl, fun _ h => nomatch h⟩
    | cons b r ih =>
      intro H
      obtain ⟨fr, e1, e2⟩ := ih fun c hc => H c (List.mem_cons_of_mem _ hc)
      obtain ⟨o, ho⟩ := H b List.mem_cons_self
      refine ⟨(b, o) :: fr, by simp [e1], fun q hq => ?_⟩
      rcases List.mem_cons.mp hq with rfl | hq
      · exact ho
      · exact e2 q hq
  obtain ⟨fr, e1, e2⟩ := mk fs hfs
  refine h _ h₁ fr rfl F.keep e1 e2 ⟨F.ns, fun b o e => F.keep b o (of_hideAll _ e), by rw [hideAll_size]; exact F.above⟩ fun q hq => ⟨F.keep _ _ (e2 q hq), Nat.ne_of_lt (Heap.lt_size (e2 q hq)), hideAll_none _ (by rw [← e1]; exact List.mem_map_of_mem hq)⟩

def splitJ (ws : List Str) (pr : Str → Bool) (Y N : Addr) (f : Value) (fr₀ : List (Addr × Obj)) (i : Nat) (m : Str → Option Value) (news : List (Addr × Obj)) : Prop :=
  ∃ (u : Str → Option Value) (ys ns : List Value) (a b : Nat) (fr : List (Addr × Obj)), 
    m = (fun y => if y = Str.ofString "predicate" then some f else if y = Str.ofString "yes" then some (.ref Y) else if y = Str.ofString "no" then some (.ref N) else u y) ∧
    news = (N, W.listOf ns.toArray b) :: (Y, W.listOf ys.toArray a) :: fr ∧ Slots fr₀ fr ∧ StrsAre ys ((ws.take i).filter pr) ∧ StrsAre ns ((ws.take i).filter fun y => !pr y)

theorem splitM {m : Str → Option Value} {f y n : Value} (e1 : m (Str.ofString "predicate") = some f) (e2 : m (Str.ofString "yes") = some y) (e3 : m (Str.ofString "no") = some n) :
    m = (fun z => if z = Str.ofString "predicate" then some f else if z = Str.ofString "yes" then some y else if z = Str.ofString "no" then some n else m z) := by
  funext z
  by_cases a : z = Str.ofString "predicate"
  · subst a; rw [if_pos rfl, e1]
  · by_cases b : z = Str.ofString "yes"
    · subst b; rw [if_neg a, if_pos rfl, e2]
    · by_cases c : z = Str.ofString "no"
      · subst c; rw [if_neg a, if_neg b, if_pos rfl, e3]
      · rw [if_neg a, if_neg b, if_neg c]

theorem Ok.inner {h₀' h : Heap} {L a : Addr} {m : Str → Option Value} {name : Str} {scope : Scope} {cd : Value} (O : Ok (n + 1) w p loose mean mg mb A base outer h₀') (hb : base.StaysIn h) (hn : h.Ns L m) (hL : base.get? L = none)
    (hfr : ∀ b o, h₀'.get? b = some o → (∀ vs, o.data ≠ .fields vs) → ∃ o', h.get? b = some o' ∧ o'.data = o.data) (hk : scope.kind = .function := by rfl) :
    Ok n w p loose mean mg mb (A.deeper (envOf name scope L a cd)) base (envOf name scope L a cd :: outer) h :=
  ⟨O.XB, O.TB, O.hd, by have := O.depth; show A.depth + 1 + n < _; omega, by have := O.units; show A.units + 3 + 20 * n + 20 < _; omega, ⟨Around.frames_deeper O.B.stack, hb, .cons (by show scope.kind ≠ .module; rw [hk]; decide) rfl hn hL (O.B.frames.of_keeps hfr)⟩, dicts_cons (fun b m => by
    obtain ⟨o, es, nn, ho, hd⟩ := O.dicts b m
    obtain ⟨o', h1, h2⟩ := hfr b o ho (fun vs q => by rw [hd] at q; cases q)
    exact ⟨o', es, nn, h1, h2.trans hd⟩) hn⟩
theorem none_of_hide {h : Heap} {fs : List Addr} {a : Addr} (e : (hideAll h fs).get? a = none) (hm : a ∉ fs) : h.get? a = none := by
  cases q : h.get? a with
  | none => rfl
  | some o => rw [hideAll_get fs q hm] at e; cases e
theorem turnFr {h₀ h h' : Heap} {L : Addr} {fs : List Addr} {m : Str → Option Value} (T : Turned (L :: fs) h h') (hL : (hideAll h₀ fs).get? L = none) (F : Fr (hideAll h₀ fs) L h m) : Fr (hideAll h₀ fs) L h' m :=
  ⟨T.ns F.ns, fun b o e => T.1 b o (F.keep b o e) fun hm => by
    rcases List.mem_cons.mp hm with rfl | hm
    · (rw [hL] at e); cases e
    · (rw [hideAll_none _ hm] at e); (cases e), F.above⟩
theorem turnNews {h₀ h h' : Heap} {L : Addr} {fs : List Addr} {ks : List (Addr × Obj)} (T : Turned (L :: fs) h h') (N : News h₀ L h ks) (hk : ∀ q ∈ ks, q.1 ∉ fs) : News h₀ L h' ks := fun q hq =>
  ⟨T.1 _ _ (N q hq).1 fun hm => by
    rcases List.mem_cons.mp hm with e | hm
    · exact (N q hq).2.1 e
    · exact hk q hq hm, (N q hq).2⟩
theorem callWith_P {M : Model} {A : Around} {E : Value → Shared → Prop} {s : Shared} {env : Env} {pos : Pos} {f : Value} {first : List Value} {Q : Value → Shared → Prop} {e : Expr} {rest : List Expr} {P : Heap → Prop}
    (hk : ∀ h, P h → ∃ k, (k = Keeper.frame ∨ k = Keeper.machine ∨ k = Keeper.boundFrame) ∧ Looks M h (keeperOf f) k)
    (h : wpAny M A (spliced (backTo pos (starEach (e :: rest) env))) (fun vs s₁ => P s₁.heap ∧ wpAny M A (call f (first ++ vs)) Q E s₁) E s)
    (he : starEach (e :: rest) env = (false, eval e env) :: starEach rest env := by rfl) (hplain : (backTo pos (starEach rest env)).any (·.1) = false := by rfl) :
    wpAny M A (callWith pos f first (backTo pos (starEach (e :: rest) env)) []) Q E s := by
  rw [he] at h ⊢
  exact callWith_of (by show ((false || (backTo pos (starEach rest env)).any (·.1)) || false) = false; rw [hplain]; rfl) hk (evalArgs_plain h)

theorem split_spec {l : Addr} {f : Value} {vs : List Value} {ws : List Str} {t1 : Tok} (fs : List Addr) (pr : Str → Bool) {Q E : Value → Shared → Prop} (O : Ok (n + 1) w p loose mean mg mb A base outer s.heap)
   (hfs : ∀ b ∈ fs, ∃ o, s.heap.get? b = some o) (hfb : ∀ b ∈ fs, base.get? b = none) (hlf : l ∉ fs) (hl : s.heap.IsList l vs.toArray) (hS : StrsAre vs ws) (hsz : vs.length ≤ 100)
   (hkeep : ∀ h', (hideAll s.heap fs).StaysIn h' → ∃ k, (k = Keeper.frame ∨ k = Keeper.machine ∨ k = Keeper.boundFrame) ∧ Looks (model Challenge.rw_mq0130_01.row.prog w) h' (keeperOf f) k)
   (hf : ∀ L (env : Env) (s' : Shared) y t (Q' E' : Value → Shared → Prop), env.frame = some L → s.heap.get? L = none → Ok n w p loose mean mg mb (A.deeper env) base (env :: outer) s'.heap → (hideAll s.heap fs).StaysIn s'.heap → y ∈ ws →
      (∀ v h'' tk'', Turned (L :: fs) s'.heap h'' → Truth v (pr y) → Q' v { s' with heap := h'', toks := tk'' }) → wpAny (model Challenge.rw_mq0130_01.row.prog w) (A.deeper env) (call f [.str y t]) Q' E' s')
   (h : ∀ D Y N ys ns h' tk', Turned fs s.heap h' → s.heap.get? Y = none → s.heap.get? N = none → s.heap.get? D = none → Y ≠ N → IsTup h' D #[.ref Y, .ref N] → h'.IsList Y ys.toArray → h'.IsList N ns.toArray → StrsAre ys (ws.filter pr) → StrsAre ns (ws.filter fun y => !pr y) → Q (.ref D) { s with heap := h', toks := tk' }) :
   wpAny (model Challenge.rw_mq0130_01.row.prog w) A (call (.ref 28) [.ref l, f]) Q E s := by
  have X := O.X
  revert X
  k_fill
  intro X
  refine enterH fs hfs [(Str.ofString "s", .ref l), (Str.ofString "predicate", f)] O rfl rfl (BindsTo.of_eq rfl) rfl (by decide) (fun L h₁ fr hL hst hfr hfr2 F N => ?_)
  have stB : base.StaysIn (hideAll s.heap fs) := fun b o e => hideAll_get fs (O.B.stays b o e) fun hm => by rw [hfb b hm] at e; cases e
  have XH : (hd.heap_39 w.params).In (hideAll s.heap fs) := O.XB.keeps stB
  have TH : Top p loose mean mg mb (hideAll s.heap fs) := O.TB.keeps stB
  have hlH : (hideAll s.heap fs).IsList l vs.toArray := by
    obtain ⟨o, e, r⟩ := hl
    exact ⟨o, hideAll_get fs e hlf, r⟩
  have hLb : base.get? L = none := by
    rw [hL]
    cases q : base.get? s.heap.objs.size with
    | none => rfl
    | some o => exact absurd (Heap.lt_size (O.B.stays _ _ q)) (Nat.lt_irrefl _)
  clear X
  show wpAny _ _ _ _ _ _
  k_fold
  k_steps
  (rename Fr _ _ _ _ => Fe); (rename News _ _ _ _ => Nw); (rename (_ ∧ AllLt _ _) => lt2); (rename (∀ p, p ∈ fr → _ < _) => lt1)
  rename_i l2 _ _ l1 _ _
  refine Stop.out ?_
  refine For_invV (hideAll s.heap fs) rfl rfl ?_
  refine ld Fe rfl ?_
  refine loopList (splitJ ws pr _ _ f fr) O.hd hlH Fe Nw ⟨_, [], [], 0, 0, fr, splitM rfl rfl rfl, rfl, Slots.refl fr, .nil, .nil⟩ ?_ ?_
  · rintro i v m₁ news₁ hh tk own hv hoff ⟨u, ys, ns, a, b, fr', rfl, rfl, hSl, hys, hns⟩ F₁ N₁
    obtain ⟨y, t, rfl, hy⟩ := hS.item i v (by simpa using hv)
    have hyw := hys.len_eq
    have hnw := hns.len_eq
    simp only [List.cons_append, List.map_cons] at N₁ hoff ⊢
    clear Fe Nw
    show wpAny _ _ _ _ _ _
    k_fold
    k_steps
    have hLs : s.heap.get? L = none := by
      cases q : s.heap.get? L with
      | none => rfl
      | some o => exact absurd (Heap.lt_size q) (hL ▸ Nat.lt_irrefl _)
    have hfm : fr'.map (·.1) = fs := hSl.1.trans hfr
    refine callWith_P (P := fun h => (hideAll s.heap fs).StaysIn h) hkeep ?_
    k_steps
    · exact F₁.keep
    refine hf L _ _ y _ _ _ rfl hLs ?_ F₁.keep (List.mem_of_getElem? hy) ?_
    · refine O.inner (fun b o e => F₁.keep b o (stB b o e)) F₁.ns hLb fun b o e hne => ?_
      by_cases hm : b ∈ fs
      · rw [← hfm] at hm
        obtain ⟨q, hq, rfl⟩ := List.mem_map.mp hm
        obtain ⟨p, hp, e1, sl, e2⟩ := hSl.2 q hq
        refine ⟨q.2, (N₁ q (by simp [hq])).1, ?_⟩
        rw [e2]
        have := hfr2 p hp
        rw [← e1, e] at this
        cases this
        rfl
      · exact ⟨o, F₁.keep b o (hideAll_get fs e hm), rfl⟩
    · intro vv h₂ tk₂ T₂ hT
      refine hT _ _ _ _ _ _ ?_
      have hLH : (hideAll s.heap fs).get? L = none := by
        by_cases hm : L ∈ fs
        · exact hideAll_none _ hm
        · cases q : (hideAll s.heap fs).get? L with
          | none => rfl
          | some o => rw [of_hideAll _ q] at hLs; cases hLs
      obtain ⟨fr'', hSl', hg''⟩ := slots_of T₂ fr' fun q hq => (N₁ q (by simp [hq])).1
      have hfm' : fr''.map (·.1) = fs := hSl'.1.trans hfm
      have F₂ := turnFr T₂ hLH F₁
      have hkN : ∀ q ∈ (l1, W.listOf ns.toArray b) :: (l2, W.listOf ys.toArray a) :: own, q.1 ∉ fs := by
        intro q hq hm
        rw [← hfr] at hm
        obtain ⟨r, hr, e⟩ := List.mem_map.mp hm
        rcases List.mem_cons.mp hq with rfl | hq
        · exact absurd (kst_ltOf lt2.2 r hr) (by rw [e]; exact Nat.lt_irrefl _)
        rcases List.mem_cons.mp hq with rfl | hq
        · exact absurd (lt1 r hr) (by rw [e]; exact Nat.lt_irrefl _)
        · exact hoff q hq r.1 (by simp; exact Or.inr (Or.inr ⟨_, hr⟩)) e.symm
      have N₂ : News (hideAll s.heap fs) L h₂ ((l1, W.listOf ns.toArray b) :: (l2, W.listOf ys.toArray a) :: (fr'' ++ own)) := by
        have NK := turnNews T₂ (ks := (l1, W.listOf ns.toArray b) :: (l2, W.listOf ys.toArray a) :: own) (fun q hq => N₁ q (by simp only [List.mem_cons, List.mem_append] at hq ⊢; rcases hq with e | e | e <;> simp [e])) hkN
        intro q hq
        simp only [List.mem_cons, List.mem_append] at hq
        rcases hq with e | e | e | e
        · exact NK q (by simp [e])
        · exact NK q (by simp [e])
        · refine ⟨hg'' q e, ?_, hideAll_none _ (by rw [← hfm']; exact List.mem_map_of_mem e)⟩
          obtain ⟨r, hr, e1, _⟩ := hSl'.2 q e
          rw [e1]
          exact (N₁ r (by simp [hr])).2.1
        · exact NK q (by simp [e])
      clear F₁ N₁ T₂ hkN hg''
      have hSl2 := hSl.trans hSl'
      clear hSl'
      have hwl : ws.length ≤ 100 := by have := hS.len_eq; omega
      have hyl : ys.length ≤ 100 := by
        have := List.length_filter_le pr (ws.take i)
        have := List.length_take_le' i ws
        omega
      have hnl : ns.length ≤ 100 := by
        have := List.length_filter_le (fun y => !pr y) (ws.take i)
        have := List.length_take_le' i ws
        omega
      have hoff2 : ∀ q ∈ fr'' ++ own, q.1 ≠ l1 ∧ q.1 ≠ l2 := by
        intro q hq
        rcases List.mem_append.mp hq with hq | hq
        · have : q.1 ∈ fs := hfm' ▸ List.mem_map_of_mem hq
          rw [← hfr] at this
          obtain ⟨r, hr, e⟩ := List.mem_map.mp this
          have x1 := kst_ltOf lt2.2 r hr
          have x2 := lt1 r hr
          rw [e] at x1 x2
          exact ⟨Nat.ne_of_lt x1, Nat.ne_of_lt x2⟩
        · exact ⟨hoff q hq _ (by simp), hoff q hq _ (by simp)⟩
      have htake : ws.take (i + 1) = ws.take i ++ [y] := by rw [List.take_add_one, hy]; rfl
      show ite _ _ _
      cases hp : pr y
      · rw [if_neg (by decide)]
        k_fold
        k_steps
        refine Stop.out ?_
        refine append_K F₂ N₂ (Upd.head fun q hq => ?_) (fun h₃ F₃ N₃ => ?_) (Nat.le_trans (by simpa using hnl) (by decide : 100 ≤ sizeLine))
        · rcases List.mem_cons.mp hq with rfl | hq
          · exact Nat.ne_of_lt lt2.1
          · exact (hoff2 q hq).1
        clear F₂ N₂
        k_steps
        refine Stop.out ?_
        refine InvEndN.intro F₃ N₃ (nx := (l1, W.listOf (ns.toArray.push (.str y t)) (b + 1)) :: (l2, W.listOf ys.toArray a) :: fr'') ⟨_, ys, ns ++ [.str y t], a, b + 1, fr'', splitM rfl rfl rfl, by simp, hSl2, ?_, ?_⟩ (by simp [hfm', hfr]) ?_ ?_
        · rw [htake, List.filter_append]
          simpa [hp] using hys
        · rw [htake, List.filter_append]
          simpa [hp] using hns.append' (.cons _ _ .nil)
        · intro q hq
          simp only [List.mem_cons, List.mem_append] at hq ⊢
          rcases hq with e | e | e <;> simp [e]
        · intro q hq
          simp [hq]
      · rw [if_pos rfl]
        k_fold
        k_steps
        refine Stop.out ?_
        refine append_K F₂ N₂ (Upd.tail (Nat.ne_of_gt lt2.1) (Upd.head fun q hq => (hoff2 q hq).2)) (fun h₃ F₃ N₃ => ?_) (Nat.le_trans (by simpa using hyl) (by decide : 100 ≤ sizeLine))
        clear F₂ N₂
        k_steps
        refine Stop.out ?_
        refine InvEndN.intro F₃ N₃ (nx := (l1, W.listOf ns.toArray b) :: (l2, W.listOf (ys.toArray.push (.str y t)) (a + 1)) :: fr'') ⟨_, ys ++ [.str y t], ns, a + 1, b, fr'', splitM rfl rfl rfl, by simp, hSl2, ?_, ?_⟩ (by simp [hfm', hfr]) ?_ ?_
        · rw [htake, List.filter_append]
          simpa [hp] using hys.append' (.cons _ _ .nil)
        · rw [htake, List.filter_append]
          simpa [hp] using hns
        · intro q hq
          simp only [List.mem_cons, List.mem_append] at hq ⊢
          rcases hq with e | e | e <;> simp [e]
        · intro q hq
          simp [hq]
  · intro m₁ news₁ hh tk ⟨u, ys, ns, a, b, fr', e1, e2, hSl, hys, hns⟩ F₁ N₁
    subst e1 e2
    clear Fe Nw
    show wpAny _ _ _ _ _ _
    k_steps
    (rename Fr _ _ _ _ => F₄); (rename News _ _ _ _ => N₄)
    have hLs : s.heap.get? L = none := by
      cases q : s.heap.get? L with
      | none => rfl
      | some o => exact absurd (Heap.lt_size q) (hL ▸ Nat.lt_irrefl _)
    have hfm : fr'.map (·.1) = fs := hSl.1.trans hfr
    have hall : ws.take vs.toArray.size = ws := List.take_of_length_le (by have := hS.len_eq; simp; omega)
    rw [hall] at hys hns
    have off : ∀ q ∈ fr', q.1 < l2 ∧ q.1 < l1 := by
      intro q hq
      have : q.1 ∈ fs := hfm ▸ List.mem_map_of_mem hq
      rw [← hfr] at this
      obtain ⟨r, hr, e⟩ := List.mem_map.mp this
      exact ⟨e ▸ lt1 r hr, e ▸ kst_ltOf lt2.2 r hr⟩
    have nin : ∀ c, (∀ q ∈ fr', q.1 < c) → c ∉ fs := by
      intro c hc hm
      rw [← hfm] at hm
      obtain ⟨q, hq, e⟩ := List.mem_map.mp hm
      exact absurd (hc q hq) (e ▸ Nat.lt_irrefl _)
    rename_i D h₄ lt3
    refine h D l2 l1 ys ns _ _ ⟨fun b o e hb => F₄.keep b o (hideAll_get fs e hb), fun b o e hb => ?_⟩ ?_ ?_ ?_ (Nat.ne_of_lt lt2.1) ?_ ?_ ?_ hys hns
    · rw [← hfm] at hb
      obtain ⟨q, hq, rfl⟩ := List.mem_map.mp hb
      obtain ⟨r, hr, e1, sl, e2⟩ := hSl.2 q hq
      have := hfr2 r hr
      rw [← e1, e] at this
      cases this
      refine ⟨sl, ?_⟩
      rw [← e2]
      exact (N₄ q (by simp [hq])).1
    · exact none_of_hide (N₄ _ (.tail _ (.tail _ (.head _)))).2.2 (nin _ fun q hq => (off q hq).1)
    · exact none_of_hide (N₄ _ (.tail _ (.head _))).2.2 (nin _ fun q hq => (off q hq).2)
    · exact none_of_hide (N₄ _ (.head _)).2.2 (nin _ fun q hq => kst_ltOf lt3.2.2 q hq)
    · exact ⟨_, (N₄ _ (.head _)).1, rfl, _, rfl⟩
    · exact ⟨_, (N₄ _ (.tail _ (.tail _ (.head _)))).1, rfl, _, rfl⟩
    · exact ⟨_, (N₄ _ (.tail _ (.head _))).1, rfl, _, rfl⟩
end
end Mine

-- part M2
namespace Mine
local macro_rules | `(tactic| walk_at "exec For Name Name cons nil") => `(tactic| refine stop ?_)
local macro_rules | `(tactic| walk_at "eval ListComp") => `(tactic| refine stop ?_)
local macro_rules | `(tactic| walk_at "exec Assign cons ListComp") => `(tactic| refine stop ?_)
local macro_rules | `(tactic| walk_at "eval Name") => `(tactic| ((with_reducible show wpAny _ _ (eval (Expr.Name _ _) (compEnvC _ _ _ _)) _ _ _); refine ldC (by assumption) (by assumption) ?_))
local macro_rules | `(tactic| walk_at "InvPostN") => `(tactic| refine stop ?_)

section
variable {prog : Program} {w : World} {A : Around} {E : Value → Shared → Prop} {s : Shared} {env : Env} {h₀ : Heap} {x : Str} {body : List Stmt} {Q : Flow → Shared → Prop}
theorem loopStr {xt : Str} {tx : Tok} {m₀ : Str → Option Value} {news : List (Addr × Obj)} (J : Nat → (Str → Option Value) → List (Addr × Obj) → Prop)
    (hh : A.handled = none) (F : Fr h₀ env.locals s.heap m₀) (N : News h₀ env.locals s.heap news) (hj : J 0 m₀ news)
    (turn : ∀ i c t m₁ news₁ h tk own, xt.cps[i]? = some c → OwnOff own (news.map (·.1)) → J i m₁ news₁ →
      Fr h₀ env.locals h (fun y => if y = x then some (.str ⟨#[c]⟩ t) else m₁ y) → News h₀ env.locals h (news₁ ++ own) →
      wpAny (model prog w) A (execs body env) (InvPostN h₀ env.locals (J (i + 1)) own (news.map (·.1)) { s with heap := h, toks := tk } Q) E { s with heap := h, toks := tk })
    (done : ∀ m₁ news₁ h tk, J xt.cps.size m₁ news₁ → Fr h₀ env.locals h m₁ → News h₀ env.locals h news₁ → Q .next { s with heap := h, toks := tk }) :
    wpAny (model prog w) A (pyIter (.str xt tx)) (fun it s₂ => LoopAtV prog w A h₀ env x body Q E it s₂) E s := by
  refine wpAny_pyIter_str fun o St hW hst => ?_
  refine loop_invN J (hW A hh) ?_ ?_ ?_ ?_ hst (F.push _) (fun p hp => ⟨Heap.get?_push_of_some _ (N p hp).1, (N p hp).2⟩) hj ?_ ?_
  · intro hm
    exact absurd F.ns.lt ((List.mem_singleton.mp hm) ▸ Nat.lt_irrefl _)
  · intro b' hb
    rw [List.mem_singleton.mp hb]
    exact next_is_new F
  · intro p hp hI
    exact absurd (Heap.lt_size (N p hp).1) ((List.mem_singleton.mp hI) ▸ Nat.lt_irrefl _)
  · intro p hp hI
    exact absurd (Heap.lt_size (N p hp).1) ((List.mem_singleton.mp hI) ▸ Nat.lt_irrefl _)
  · rintro i v m₁ nx h tk own hi ⟨n, u, hn, rfl⟩ _ hoff hJ F₁ N₁
    exact turn i n u m₁ nx h tk own hn hoff hJ F₁ N₁
  · intro m₁ nx h tk hJ F₁ N₁
    exact done m₁ nx h tk hJ F₁ N₁
end

structure HS where
  res : List Str
  part : Str
  esc : Bool
  quo : Bool
def one (c : Nat) : Str := ⟨#[c]⟩
def hstep (σ : HS) (c : Nat) : HS :=
  if σ.esc then ⟨σ.res, σ.part ++ one c, false, σ.quo⟩
  else if σ.quo then
    (if c = 92 then ⟨σ.res, σ.part, true, true⟩
     else if c = 34 then ⟨σ.res, σ.part ++ one c, false, false⟩
     else ⟨σ.res, σ.part ++ one c, false, true⟩)
  else if c = 44 then ⟨σ.res ++ [σ.part], Str.ofString "", false, false⟩
  else if c = 34 then ⟨σ.res, σ.part ++ one c, false, true⟩
  else ⟨σ.res, σ.part ++ one c, false, false⟩
def hrun (l : List Nat) : HS := l.foldl hstep ⟨[], Str.ofString "", false, false⟩
def hend (σ : HS) : List Str := if σ.part.length = 0 then σ.res else σ.res ++ [σ.part]
theorem hstep_size (σ : HS) (c : Nat) : (hstep σ c).res.length + (hstep σ c).part.length ≤ σ.res.length + σ.part.length + 1 := by
  have h0 : (Str.ofString "").length = 0 := by decide +kernel
  have h1 : ∀ c, (one c).length = 1 := fun _ => rfl
  unfold hstep
  (repeat' split) <;> simp only [List.length_append, List.length_singleton, Str.length_append, h0, h1] <;> omega
theorem hstep_len {n : Nat} {σ : HS} (c : Nat) (h : (∀ y ∈ σ.res, y.length ≤ n) ∧ σ.part.length ≤ n) : (∀ y ∈ (hstep σ c).res, y.length ≤ n + 1) ∧ (hstep σ c).part.length ≤ n + 1 := by
  have h0 : (Str.ofString "").length = 0 := by decide +kernel
  have h1 : ∀ c, (one c).length = 1 := fun _ => rfl
  obtain ⟨a, b⟩ := h
  have a' : ∀ y ∈ σ.res, y.length ≤ n + 1 := fun y hy => Nat.le_succ_of_le (a y hy)
  unfold hstep
  (repeat' split) <;> refine ⟨?_, ?_⟩ <;> (try simp only [Str.length_append, h0, h1]) <;> first | exact a' | omega | skip
  intro y hy
  rcases List.mem_append.mp hy with hy | hy
  · exact a' y hy
  · rw [List.mem_singleton.mp hy]; omega
theorem hfold_len (l : List Nat) : ∀ (n : Nat) (σ : HS), ((∀ y ∈ σ.res, y.length ≤ n) ∧ σ.part.length ≤ n) → (∀ y ∈ (l.foldl hstep σ).res, y.length ≤ n + l.length) ∧ (l.foldl hstep σ).part.length ≤ n + l.length := by
  induction l with
  | nil => intro n σ h; exact h
  | cons c r ih =>
    intro n σ h
    have := ih (n + 1) _ (hstep_len c h)
    simp only [List.length_cons, List.foldl_cons]
    rw [show n + (r.length + 1) = n + 1 + r.length by omega]
    exact this
theorem hend_len (l : List Nat) : ∀ y ∈ hend (hrun l), y.length ≤ l.length := by
  have h0 : (Str.ofString "").length = 0 := by decide +kernel
  have := hfold_len l 0 ⟨[], Str.ofString "", false, false⟩ ⟨fun _ h => (nomatch h), by rw [h0]; exact Nat.le_refl _⟩
  rw [Nat.zero_add] at this
  intro y hy
  unfold hend at hy
  split at hy
  · exact this.1 y hy
  · rcases List.mem_append.mp hy with hy | hy
    · exact this.1 y hy
    · rw [List.mem_singleton.mp hy]; exact this.2
theorem getD_len {ws : List Str} {n : Nat} (h : ∀ y ∈ ws, y.length ≤ n) (i : Nat) : (ws.getD i Str.empty).length ≤ n := by
  by_cases hi : i < ws.length
  · rw [List.getD_eq_getElem?_getD, List.getElem?_eq_getElem hi]; exact h _ (List.getElem_mem hi)
  · rw [List.getD_eq_getElem?_getD, List.getElem?_eq_none (Nat.not_lt.mp hi)]; exact Nat.zero_le _
def httpJ (x : Str) (R : Addr) (i : Nat) (m : Str → Option Value) (news : List (Addr × Obj)) : Prop :=
  ∃ (u : Str → Option Value) (vs : List Value) (n : Nat) (t : Tok) (σ : HS), σ = hrun (x.cps.toList.take i) ∧ σ.res.length + σ.part.length ≤ i ∧
    m = (fun y => if y = Str.ofString "quote" then some (.bool σ.quo) else if y = Str.ofString "escape" then some (.bool σ.esc) else if y = Str.ofString "part" then some (.str σ.part t) else if y = Str.ofString "res" then some (.ref R) else u y) ∧
    news = [(R, W.listOf vs.toArray n)] ∧ StrsAre vs σ.res

theorem sg {c k : Nat} {x : Str} (hx : x = ⟨#[k]⟩) : ((⟨#[c]⟩ : Str) == x) = decide (c = k) := by
  subst hx
  by_cases h : c = k
  · subst h; simp
  · have : (⟨#[c]⟩ : Str) ≠ ⟨#[k]⟩ := fun e => h (by injection e with e; simpa using e)
    simp [h, this]
theorem sgBs (c : Nat) : ((⟨#[c]⟩ : Str) == Str.ofString "\\") = decide (c = 92) := sg (by decide +kernel)
theorem sgQ (c : Nat) : ((⟨#[c]⟩ : Str) == Str.ofString "\"") = decide (c = 34) := sg (by decide +kernel)
theorem sgC (c : Nat) : ((⟨#[c]⟩ : Str) == Str.ofString ",") = decide (c = 44) := sg (by decide +kernel)
theorem hrun_succ {x : Str} {i c : Nat} (hc : x.cps[i]? = some c) : hrun (x.cps.toList.take (i + 1)) = hstep (hrun (x.cps.toList.take i)) c := by
  have : x.cps.toList[i]? = some c := by simpa using hc
  rw [List.take_add_one, this]
  simp [hrun]
theorem http_end {x : Str} {R : Addr} {i c : Nat} {σ : HS} {res' : List Str} {part' : Str} {esc' quo' : Bool} {h₀ h' : Heap} {L : Addr} {m' : Str → Option Value} {own : List (Addr × Obj)} {arr : Array Value} {n' : Nat} {t' : Tok} {s₁ : Shared} {tk : Nat} {vs' : List Value}
    (hc : x.cps[i]? = some c) (hσ : σ = hrun (x.cps.toList.take i)) (hlen : σ.res.length + σ.part.length ≤ i)
    (F : Fr h₀ L h' m') (N : News h₀ L h' ((R, W.listOf arr n') :: own))
    (h1 : m' (Str.ofString "quote") = some (.bool quo')) (h2 : m' (Str.ofString "escape") = some (.bool esc')) (h3 : m' (Str.ofString "part") = some (.str part' t')) (h4 : m' (Str.ofString "res") = some (.ref R))
    (ha : arr = vs'.toArray) (hS : StrsAre vs' res') (e : hstep σ c = ⟨res', part', esc', quo'⟩) :
    InvEndN h₀ L (httpJ x R (i + 1)) own [R] s₁ { s₁ with heap := h', toks := tk } := by
  subst ha
  refine InvEndN.intro F N (nx := [(R, W.listOf vs'.toArray n')]) ⟨m', vs', n', t', ⟨res', part', esc', quo'⟩, ?_, ?_, ?_, rfl, hS⟩ rfl (by simp) (fun p hp => List.mem_cons_of_mem _ hp)
  · rw [hrun_succ hc, ← hσ, e]
  · have := hstep_size σ c
    rw [e] at this
    omega
  · funext y
    by_cases q1 : y = Str.ofString "quote"
    · rw [if_pos q1, q1, h1]
    · rw [if_neg q1]
      by_cases q2 : y = Str.ofString "escape"
      · rw [if_pos q2, q2, h2]
      · rw [if_neg q2]
        by_cases q3 : y = Str.ofString "part"
        · rw [if_pos q3, q3, h3]
        · rw [if_neg q3]
          by_cases q4 : y = Str.ofString "res"
          · rw [if_pos q4, q4, h4]
          · rw [if_neg q4]
section
variable {n : Nat} {w : World} {p : Program} {loose : List Str} {mean : ExcName → Option Value} {mg mb : Str → Option Value} {A : Around} {base : Heap} {outer : List Env} {s : Shared}
set_option pp.deepTerms false
set_option pp.maxSteps 2000
theorem http_spec {x : Str} {t1 : Tok} {Q E : Value → Shared → Prop} (O : Ok n w p loose mean mg mb A base outer s.heap)
   (hx : x.length ≤ 900)
   (h : ∀ l vs h' tk', s.heap.StaysIn h' → s.heap.get? l = none → h'.PlainList l vs.toArray → StrsAre vs ((hend (hrun x.cps.toList)).map Txt.strip) → Q (.ref l) { s with heap := h', toks := tk' }) :
   wpAny (model Challenge.rw_mq0130_01.row.prog w) A (call (.ref 40) [.str x t1]) Q E s := by
  k_fill
  refine enterF [(Str.ofString "s", .str x t1)] O rfl rfl (BindsTo.of_eq rfl) rfl (by decide) (fun h₁ F N => ?_)
  have X := O.X
  have T := O.T
  show wpAny _ _ _ _ _ _
  k_fold
  k_steps
  (rename Fr _ _ _ _ => F'); (rename News _ _ _ _ => N')
  refine Stop.out ?_
  refine For_invV s.heap rfl rfl ?_
  refine ld F' rfl ?_
  refine loopStr (httpJ x _) O.hd F' N' ⟨_, [], 0, _, _, rfl, Nat.le_refl _, rfl, rfl, .nil⟩ ?_ ?_
  · rintro i c t m₁ news₁ hh tk own hc hoff ⟨u, vs, n, t', σ, hσ, hlen, rfl, rfl, hS⟩ F₁ N₁
    have hi : i < x.cps.size := (Array.getElem?_eq_some_iff.mp hc).1
    have hxs : x.cps.size ≤ 900 := hx
    have hvs := hS.len_eq
    simp only [List.cons_append, List.nil_append] at N₁
    simp only [List.map_cons, List.map_nil] at hoff ⊢
    clear F' N'
    show wpAny _ _ _ _ _ _
    k_fold
    k_steps
    all_goals (
      (rename Fr _ _ _ _ => Fe); (rename News _ _ _ _ => Ne)
      refine Stop.out ?_
      simp only [sgBs, sgQ, sgC, decide_eq_true_eq, decide_eq_false_iff_not] at *
      first
      | exact http_end hc hσ hlen Fe Ne (by with_unfolding_all rfl) (by with_unfolding_all rfl) (by with_unfolding_all rfl) (by with_unfolding_all rfl) rfl hS (by clear hσ; simp [hstep, one, *])
      | exact http_end (vs' := vs ++ [.str σ.part t']) hc hσ hlen Fe Ne (by with_unfolding_all rfl) (by with_unfolding_all rfl) (by with_unfolding_all rfl) (by with_unfolding_all rfl) (by simp) (hS.append' (.cons _ _ .nil)) (by clear hσ; simp [hstep, one, *])
      | fail "http: an end")
  · rintro m₁ news₁ hh tk ⟨u, vs, n, t', σ, hσ, hlen, rfl, rfl, hS⟩ F₁ N₁
    have hxs : x.cps.size ≤ 900 := hx
    have hvs := hS.len_eq
    clear F' N'
    show wpAny _ _ _ _ _ _
    k_steps
    all_goals (
      (rename Fr _ _ _ _ => Fe); (rename News _ _ _ _ => Ne)
      refine Stop.out ?_)
    have hS' : StrsAre (vs ++ [.str σ.part t']) (hend σ) := by
      unfold hend
      rw [if_neg (by omega)]
      exact hS.append' (.cons _ _ .nil)
    rw [show vs.toArray.push (Value.str σ.part t') = (vs ++ [Value.str σ.part t']).toArray by simp] at Ne
    have hsz : (vs ++ [Value.str σ.part t']).length ≤ 1000 := by simp; omega
    have hσ' : hend σ = hend (hrun x.cps.toList) := by rw [hσ, ← Array.length_toList, List.take_length]
    clear hS hvs hlen hσ
    generalize vs ++ [.str σ.part t'] = vs' at hS' Ne hsz
    rotate_left
    have hS' : StrsAre vs (hend σ) := by
      unfold hend
      rw [if_pos (by omega)]
      exact hS
    have hsz : vs.length ≤ 1000 := by omega
    have hσ' : hend σ = hend (hrun x.cps.toList) := by rw [hσ, ← Array.length_toList, List.take_length]
    clear hS hvs hlen hσ
    generalize vs = vs' at hS' Ne hsz
    rotate_left
    all_goals (
      rw [hσ'] at hS'
      have hlenH := hend_len x.cps.toList
      have hxl : x.cps.toList.length ≤ 900 := by simpa using hxs
      generalize hend (hrun x.cps.toList) = H at hS' hlenH h
      refine lcList (items := vs'.toArray) (fun _ => true) (fun i m => ∃ t, m (Str.ofString "part") = some (.str (H.getD i Str.empty) t)) (fun i v h => ∃ t, v = .str (Txt.strip (H.getD i Str.empty)) t)
        O.hd (by simpa using hsz) (fun i y h h' _ r => r) rfl (by decide) rfl (by decide) (fun i v _ => .inl ⟨_, _, rfl⟩) ?_
      refine ld Fe rfl ?_
      refine ⟨_, rfl, ?_, ⟨?_, ?_, ?_⟩, ?_⟩
      · exact ⟨_, (Ne _ (.head _)).1, rfl, _, rfl⟩
      · intro C i v h tk m Q E' hv hC hn hS H
        refine asgName rfl rfl hn fun h' m' tk' hn' hm' hk' => H h' m' tk' hn' ?_ hk'
        obtain ⟨y, t, rfl, hy⟩ := hS'.item i v (by simpa using hv)
        exact ⟨t, by rw [hm']; simp [hy]⟩
      · intro C i h tk m E' hi hC hn hB hS
        exact wpAny_tests_nil ⟨rfl, keeps_tok⟩
      · rintro C i h tk m E' hi _ hC hn ⟨t, hB⟩ hS
        have hb := getD_len hlenH i
        show wpAny _ _ _ _ _ _
        k_steps
        exact ⟨⟨_, rfl⟩, keeps_tok⟩
      · intro D h₂ tk₂ ys hD hl hP hS
        have e := paired_strs (fun i => Txt.strip (H.getD i Str.empty)) hP
        rw [List.filter_eq_self.mpr fun _ _ => rfl] at e
        rw [show vs'.toArray.size = H.length by simp [hS'.len_eq], map_getD_range] at e
        exact h D ys.toList h₂ tk₂ (fun b o q => hS b o (Fe.keep b o q)) (by
          cases q : s.heap.get? D with
          | none => rfl
          | some o => rw [Fe.keep _ _ q] at hD; cases hD) (by simpa using hl) e)
end
end Mine

-- part M3
namespace Mine
section
variable {n : Nat} {w : World} {p : Program} {loose : List Str} {mean : ExcName → Option Value} {mg mb : Str → Option Value} {A : Around} {base : Heap} {outer : List Env} {s : Shared}

theorem enterV {name qual : Str} {params : Arguments} {body : List Stmt} {scope : Scope} {dV kV doc pm cdv ct oc : Value} {an od : Option Addr} {osl : Array (Option Value)} {f : Addr} {args rest : List Value} {Q E : Value → Shared → Prop}
    (binds : Value → List (Str × Value))
    (O : Ok n w p loose mean mg mb A base outer s.heap)
    (ho : (hd.heap_39 w.params).lookup f = some ⟨oc, od, .func (fnOf name qual params body scope dV kV doc pm an cdv ct), osl⟩) 
    (hcd : codeIn (hd.heap_39 w.params) cdv qual = true)
    (hbind : bindArgs (fnOf name qual params body scope dV kV doc pm an cdv ct) ⟨args, []⟩ = (newTuple rest >>= fun t => pure (binds t))) (hloc : ∀ t, ((binds t).all fun x => decide (scope.names.lookup x.1 = some .local)) = true)
    (hcell : ∀ x ∈ scope.names, x.2 ≠ .cell) (hsz : rest.length ≤ sizeLine)
    (h : ∀ T L h₁ tk, Fr s.heap L h₁ (fun y => (binds (.ref T)).reverse.lookup y) → News s.heap L h₁ [(T, { cls := .type "tuple", data := .seq rest.toArray })] →
      wpAny (model Challenge.rw_mq0130_01.row.prog w) (A.deeper (envOf qual scope L f cdv)) (execs body (envOf qual scope L f cdv))
        (fun fl s' => Q (match fl with | .ret v => v | _ => .none) s')
        (fun e s' => wpAny (model Challenge.rw_mq0130_01.row.prog w) (A.deeper (envOf qual scope L f cdv)) (leaving (envOf qual scope L f cdv) e) (fun _ s'' => E e s'') (fun e' s'' => E e' s'') s')
        { s with heap := h₁, toks := tk })
    (hco : scope.isCoroutine = false := by rfl) (hgen : scope.isGenerator = false := by rfl) (hk : scope.kind = .function := by rfl) :
    wpAny (model Challenge.rw_mq0130_01.row.prog w) A (call (.ref f) args) Q E s := by
  refine wpAny_call ?_
  refine codeAny_call_function (fd := fnOf name qual params body scope dV kV doc pm an cdv ct) (by have := O.depth; omega) (O.X _ _ ho) rfl hco hgen rfl (codeRec_of O.X hcd) ?_
  rw [hbind]
  refine wpAny_bind (wpAny_newTuple (wpAny_pure ?_) hsz)
  refine wpAny_newFunctionEnv hcell (locs (hloc _)) (fun h₀ hns₀ hsb₀ => ⟨(O.T.nolimit.keeps fun b o e => Heap.get?_push_of_some _ e).fresh _ hsb₀, codeAny_func ?_⟩) hk
  have up : ∀ b o, (s.heap.push { cls := .type "tuple", data := .seq rest.toArray }).get? b = some o → h₀.get? b = some o := fun b o e => hsb₀.extBut b o (Nat.ne_of_lt (Heap.lt_size e)) (Heap.get?_push_of_some _ e)
  refine h s.heap.objs.size _ h₀ _ ⟨hns₀, fun b o e => up b o (Heap.get?_push_of_some _ e), ?_⟩ ?_
  · show s.heap.objs.size ≤ (s.heap.push _).objs.size
    rw [Heap.size_push]
    exact Nat.le_succ _
  · intro q hq
    rw [List.mem_singleton.mp hq]
    refine ⟨up _ _ (Heap.get?_push_size _ rfl), ?_, Heap.get?_none_of_le (Nat.le_refl _)⟩
    show s.heap.objs.size ≠ (s.heap.push _).objs.size
    rw [Heap.size_push]
    exact Nat.ne_of_lt (Nat.lt_succ_self _)

set_option pp.deepTerms false
set_option pp.maxSteps 2000
theorem replace_spec {x : Str} {t1 t2 t3 t4 t5 : Tok} {Q E : Value → Shared → Prop} (O : Ok n w p loose mean mg mb A base outer s.heap)
   (hx : x.length ≤ 20)
   (h : ∀ t h' tk', s.heap.StaysIn h' → Q (.str (escF x) t) { s with heap := h', toks := tk' }) :
   wpAny (model Challenge.rw_mq0130_01.row.prog w) A (call (.ref 21) [.str x t1, .str (Str.ofString "\\") t2, .str (Str.ofString "\\\\") t3, .str (Str.ofString "\"") t4, .str (Str.ofString "\\\"") t5]) Q E s := by
  have X := O.X
  revert X
  k_fill
  intro X
  refine enterV (rest := [.str (Str.ofString "\\") t2, .str (Str.ofString "\\\\") t3, .str (Str.ofString "\"") t4, .str (Str.ofString "\\\"") t5]) (fun t => [(Str.ofString "text", .str x t1), (Str.ofString "pairs", t)]) O rfl rfl rfl (fun _ => rfl) (by decide) (by size_fits) (fun T L h₁ tk F N => ?_)
  have T := O.T
  show wpAny _ _ _ _ _ _
  k_fold
  k_steps
  (rename StrsAre _ _ => hS1); (rename (∀ a, a ∈ _ → Str.length a ≤ _) => hB1); (rename List.map _ _ = Txt.split _ _ => hM1)
  rw [hM1] at hB1
  have hL1 := split_len x sBs
  refine SC.join (by assumption) hM1 (joinOk_of hB1 ?_) ?_
  · have h2 : (Str.ofString "\\\\").length = 2 := by decide +kernel
    rw [h2]
    have := Nat.mul_le_mul (show (Txt.split x (Str.ofString "\\")).length ≤ 21 by omega) hx
    omega
  · intro t6 tk6
    have hJ1 := repl_len x sBs (z := Str.ofString "\\\\") (by decide +kernel)
    generalize hy : Txt.join (Str.ofString "\\\\") (Txt.split x (Str.ofString "\\")) = y at hJ1
    clear hS1 hB1 hM1
    k_steps
    (with_unfolding_all refine slice_tuple_from (a := 2) (by assumption) (by assumption) (News.isTup (by assumption) (.tail _ (.head _))) (by decide) (Nat.le_of_ble_eq_true rfl) ?_)
    intro h7 F7 N7
    (try dsimp only [List.drop] at N7)
    k_steps
    (rename StrsAre _ _ => hS2); (rename (∀ a, a ∈ _ → Str.length a ≤ _) => hB2); (rename List.map _ _ = Txt.split _ _ => hM2)
    rw [hM2] at hB2
    have hL2 := split_len y sQ
    refine SC.join (by assumption) hM2 (joinOk_of hB2 ?_) ?_
    · have h2 : (Str.ofString "\\\"").length = 2 := by decide +kernel
      rw [h2]
      have := Nat.mul_le_mul (show (Txt.split y (Str.ofString "\"")).length ≤ 41 by omega) (show y.length ≤ 40 by omega)
      omega
    · intro t8 tk8
      have hJ2 : Txt.join (Str.ofString "\\\"") (Txt.split y (Str.ofString "\"")) = escF x := by rw [← hy, esc_is]
      rw [hJ2]
      clear hS2 hB2 hM2
      k_steps
      (with_unfolding_all refine slice_tuple_from (a := 2) (by assumption) (by assumption) (News.isTup (by assumption) (.tail _ (.head _))) (by decide) (Nat.le_of_ble_eq_true rfl) ?_)
      intro h9 F9 N9
      (try dsimp only [List.drop] at N9)
      k_steps
      (rename Fr _ _ _ _ => Fe)
      exact h _ _ _ Fe.keep
end
end Mine

-- part M4
namespace Mine
local macro_rules | `(tactic| walk_at "eval ListComp") => `(tactic| refine stop ?_)
theorem floordiv_pow {prog : Program} {w : World} {A : Around} {s : Shared} {E : Value → Shared → Prop} {Q : Value → Shared → Prop} {r j : Int} {t u : Tok} (_hr : 0 ≤ r ∧ r < 10000000) (hj : 0 ≤ j ∧ j < 8) (h : Q (.int (r.fdiv (6 ^ j.toNat)) s.toks) { s with toks := s.toks + 1 }) :
    wpAny (model prog w) A (binaryOp .FloorDiv (.int r t) (.int (6 ^ j.toNat) u)) Q E s :=
  floordiv_int (Int.ne_of_gt (Int.pow_pos (by decide))) h (Or.inl (PyProof.noPylong_small (by
    have h7 : j.toNat ≤ 7 := by omega
    have : (6 ^ j.toNat : Nat) ≤ 6 ^ 7 := Nat.pow_le_pow_right (by decide) h7
    rw [Int.natAbs_pow]
    show 6 ^ j.toNat < _
    omega)))
theorem pow6 {prog : Program} {w : World} {A : Around} {s : Shared} {E : Value → Shared → Prop} {Q : Value → Shared → Prop} {j : Int} {t u : Tok} (hj : 0 ≤ j ∧ j < 8) (h : Q (.int (6 ^ j.toNat) s.toks) { s with toks := s.toks + 1 }) :
    wpAny (model prog w) A (binaryOp .Pow (.int 6 t) (.int j u)) Q E s := pow_int_small hj.1 (by omega) (by decide) h
theorem item_abc {k : Int} (h0 : 0 ≤ k) (h3 : k < 3) : ∃ c, (c = 97 ∨ c = 98 ∨ c = 99) ∧ Txt.item (Str.ofString "abc") k = ⟨#[c]⟩ := by
  have : k = 0 ∨ k = 1 ∨ k = 2 := by omega
  rcases this with rfl | rfl | rfl
  · exact ⟨97, by decide, by decide +kernel⟩
  · exact ⟨98, by decide, by decide +kernel⟩
  · exact ⟨99, by decide, by decide +kernel⟩
theorem key_good (x : Int) : ∃ c, (c = 97 ∨ c = 98 ∨ c = 99) ∧ Txt.item (Str.ofString "abc") ((x.fmod (10 ^ Int.toNat 7)).fmod 3) = ⟨#[c]⟩ :=
  item_abc (Int.fmod_nonneg_of_pos _ (by decide)) (Int.fmod_lt_of_pos _ (by decide))
local macro_rules | `(tactic| walk_at "binaryOp Pow int int") => `(tactic| (with_reducible refine pow6 (by assumption) ?_))
local macro_rules | `(tactic| walk_at "binaryOp FloorDiv int int") => `(tactic| (with_reducible refine floordiv_pow (by assumption) (by assumption) ?_))
local macro_rules | `(tactic| walk_at "eval Name") => `(tactic| ((with_reducible show wpAny _ _ (eval (Expr.Name _ _) (compEnvC _ _ _ _)) _ _ _); first | with_reducible refine ldC (by assumption) (by assumption) ?_ (by with_unfolding_all rfl) (by with_unfolding_all rfl) (by decide +kernel) | with_reducible refine ldCell (by with_unfolding_all rfl) (by assumption) (by assumption) ?_ (by with_unfolding_all rfl) (by with_unfolding_all rfl) (by decide +kernel)))
section
variable {n : Nat} {w : World} {p : Program} {loose : List Str} {mean : ExcName → Option Value} {mg mb : Str → Option Value} {A : Around} {base : Heap} {outer : List Env} {s : Shared}

theorem enterC {name qual : Str} {params : Arguments} {body : List Stmt} {scope : Scope} {dV kV doc pm cdv ct oc : Value} {an od : Option Addr} {osl : Array (Option Value)} {f : Addr} {args : List Value} {Q E : Value → Shared → Prop}
    (binds : List (Str × Value))
    (O : Ok n w p loose mean mg mb A base outer s.heap)
    (ho : (hd.heap_39 w.params).lookup f = some ⟨oc, od, .func (fnX name qual params body scope [] dV kV doc pm an cdv ct), osl⟩) 
    (hcd : codeIn (hd.heap_39 w.params) cdv qual = true)
    (hbind : BindsTo s (fnX name qual params body scope [] dV kV doc pm an cdv ct) ⟨args, []⟩ binds)
    (hkind : ∀ n, ∀ x ∈ binds, scope.names.lookup x.1 = some .local ∨ (scope.names.lookup x.1 = some .cell ∧ ((cellsFrom n scope.names []).lookup x.1).isSome = true))
    (hnd : ((cellsFrom 0 scope.names []).map (·.1)).Nodup)
    (h : ∀ L h₁ tk cells, Fr s.heap L h₁ (bindL (envOfC qual scope L f cdv).kindOf binds fun _ => none) → News s.heap L h₁ cells → CellsAre (bindC (envOfC qual scope L f cdv).kindOf binds fun _ => none) (cellsFrom (L + 1) scope.names []) cells →
      wpAny (model Challenge.rw_mq0130_01.row.prog w) (A.deeper (envOfC qual scope L f cdv)) (execs body (envOfC qual scope L f cdv))
        (fun fl s' => Q (match fl with | .ret v => v | _ => .none) s')
        (fun e s' => wpAny (model Challenge.rw_mq0130_01.row.prog w) (A.deeper (envOfC qual scope L f cdv)) (leaving (envOfC qual scope L f cdv) e) (fun _ s'' => E e s'') (fun e' s'' => E e' s'') s')
        { s with heap := h₁, toks := tk })
    (hco : scope.isCoroutine = false := by rfl) (hgen : scope.isGenerator = false := by rfl) (hk : scope.kind = .function := by rfl) :
    wpAny (model Challenge.rw_mq0130_01.row.prog w) A (call (.ref f) args) Q E s := by
  refine wpAny_call ?_
  refine codeAny_call_function (fd := fnX name qual params body scope [] dV kV doc pm an cdv ct) (by have := O.depth; omega) (O.X _ _ ho) rfl hco hgen rfl (codeRec_of O.X hcd) (hbind _ _ _ _ ?_)
  refine wpAny_newFunctionEnv_cells hk (hkind _) fun env' he s' x => ?_
  subst he
  refine ⟨O.T.nolimit.keeps x.toInCall.keep, codeAny_func ?_⟩
  obtain ⟨h₁, tk, rfl, _⟩ := x.done
  obtain ⟨cells, NC, Y⟩ := Cl.news (h₀ := s.heap) (Nat.le_refl _) fun n c hm => ⟨x.cell n c (lookup_of_mem_nodup (cellsFrom_names scope.names 0 (s.heap.objs.size + 1) [] [] rfl ▸ hnd) hm), x.above n c hm⟩
  exact h s.heap.objs.size h₁ tk cells ⟨x.toInCall.ns, fun b o e => x.toInCall.keep b o e, Nat.le_refl _⟩ NC Y

theorem paired_ones : ∀ {js : List Nat} {ys : List Value}, Paired (fun (_ : Nat) y => ∃ c t, c < 1114112 ∧ y = Value.str ⟨#[c]⟩ t) js ys → ∃ l : List (Str × Tok), ys = strValues l ∧ (∀ y ∈ l.map (·.1), y.length = 1 ∧ PyData.strOk y = true) ∧ l.length = js.length
  | _, _, .nil => ⟨[], rfl, fun _ h => (nomatch h), rfl⟩
  | _, _, .cons ⟨c, t, hc, e⟩ r => by
    obtain ⟨l, h1, h2, h3⟩ := paired_ones r
    refine ⟨(⟨#[c]⟩, t) :: l, ?_, ?_, ?_⟩
    · rw [e, h1]; rfl
    · intro y hy
      rcases List.mem_cons.mp hy with rfl | hy
      · exact ⟨rfl, by simpa [PyData.strOk] using hc⟩
      · exact h2 y hy
    · simp [h3]
theorem ok_append {x y : Str} (hx : PyData.strOk x = true) (hy : PyData.strOk y = true) : PyData.strOk (x ++ y) = true := by
  unfold PyData.strOk at *
  rw [Str.cps_append, Array.all_append, hx, hy]; rfl
theorem ok_join {sep : Str} (hs : PyData.strOk sep = true) : ∀ {ws : List Str}, (∀ y ∈ ws, PyData.strOk y = true) → PyData.strOk (Str.join sep ws) = true
  | [], _ => show PyData.strOk Str.empty = true by decide +kernel
  | [x], h => h x List.mem_cons_self
  | x :: y :: r, h => by
    have ih := ok_join hs (ws := y :: r) fun z hz => h z (List.mem_cons_of_mem _ hz)
    show PyData.strOk (x ++ sep ++ Str.join sep (y :: r)) = true
    exact ok_append (ok_append (h x List.mem_cons_self) hs) ih
theorem charAt_lt {x : Str} (hx : x.cps.all (· < 1114112) = true) (k : Int) : (Txt.charAt x k).getD 0 < 1114112 := by
  unfold Txt.charAt
  cases seqIndex? k x.length with
  | none => show (0 : Nat) < 1114112; decide
  | some i =>
    show (x.cps[i]?).getD 0 < _
    cases h : x.cps[i]? with
    | none => decide
    | some c =>
      obtain ⟨hi, e⟩ := Array.getElem?_eq_some_iff.mp h
      have := Array.all_eq_true.mp hx i hi
      rw [e] at this
      exact of_decide_eq_true this
theorem join_ones : ∀ {ws : List Str}, (∀ y ∈ ws, y.length = 1) → (Str.join (Str.ofString "") ws).length = ws.length
  | [], _ => rfl
  | [x], h => h x List.mem_cons_self
  | x :: y :: r, h => by
    have ih := join_ones (ws := y :: r) fun z hz => h z (List.mem_cons_of_mem _ hz)
    have h0 : (Str.ofString "").length = 0 := by decide +kernel
    show (x ++ Str.ofString "" ++ Str.join (Str.ofString "") (y :: r)).length = _
    rw [Str.length_append, Str.length_append, h0, ih, h x List.mem_cons_self]
    simp only [List.length_cons]
    omega
set_option pp.deepTerms false
set_option pp.maxSteps 2000
def sizeF (x : Int) : Int := if ((x.fmod 10000000).fdiv 3).fmod 9 = 8 then -1 else ((x.fmod 10000000).fdiv 3).fmod 9
structure Ent where
  key : Str
  size : Int
  val : Str
def Ent.Good (e : Ent) : Prop := (∃ c, (c = 97 ∨ c = 98 ∨ c = 99) ∧ e.key = ⟨#[c]⟩) ∧ ((e.size = -1 ∧ (e.val = Str.ofString "" ∨ e.val = Str.ofString "=")) ∨ (0 ≤ e.size ∧ e.size ≤ 7 ∧ (e.val.length : Int) = e.size)) ∧ PyData.strOk e.val = true
theorem entry_spec {x : Int} {t1 : Tok} {Q E : Value → Shared → Prop} (O : Ok n w p loose mean mg mb A base outer s.heap)
   (h : ∀ D t2 t3 t4 (e : Ent) h' tk', s.heap.StaysIn h' → IsTup h' D #[.str e.key t2, .int e.size t3, .str e.val t4] → e.Good → e.size = sizeF x → Q (.ref D) { s with heap := h', toks := tk' }) :
   wpAny (model Challenge.rw_mq0130_01.row.prog w) A (call (.ref 45) [.int x t1]) Q E s := by
  have X := O.X
  revert X
  k_fill
  intro X
  refine enterC [(Str.ofString "x", .int x t1)] O rfl rfl (BindsTo.of_eq rfl) (fun n y hy => by rw [List.mem_singleton.mp hy]; exact .inl rfl) (by decide +kernel) (fun L h₁ tk cells F N Y => ?_)
  have T := O.T
  k_cells Y
  (try simp only [List.cons_append, List.nil_append] at N)
  show wpAny _ _ _ _ _ _
  k_fold
  k_steps
  · (rename Fr _ _ _ _ => Fe); (rename News _ _ _ _ => Nw); (rename Int.fmod _ 9 = 8 => h8)
    exact h _ _ _ _ ⟨_, -1, Str.ofString ""⟩ _ _ Fe.keep ⟨_, (Nw _ (.head _)).1, rfl, _, rfl⟩ ⟨key_good x, .inl ⟨rfl, .inl rfl⟩, show PyData.strOk (Str.ofString "") = true by decide +kernel⟩ (if_pos h8).symm
  · (rename Fr _ _ _ _ => Fe); (rename News _ _ _ _ => Nw); (rename Int.fmod _ 9 = 8 => h8)
    exact h _ _ _ _ ⟨_, -1, Str.ofString "="⟩ _ _ Fe.keep ⟨_, (Nw _ (.head _)).1, rfl, _, rfl⟩ ⟨key_good x, .inl ⟨rfl, .inr rfl⟩, show PyData.strOk (Str.ofString "=") = true by decide +kernel⟩ (if_pos h8).symm
  · refine Stop.out ?_
    (rename Fr _ _ _ _ => Fe); (rename News _ _ _ _ => Nw); (rename Obj.data _ = Data.cell (some (Value.int _ _)) => hcell)
    generalize hq : ((x.fmod (10 ^ Int.toNat 7)).fdiv 3).fmod 9 = q at *
    have hq0 : 0 ≤ q ∧ q < 9 := by
      rw [← hq]
      exact ⟨Int.fmod_nonneg_of_pos _ (by decide), Int.fmod_lt_of_pos _ (by decide)⟩
    have FF : ∃ tz, ∃ u : Str → Option Value, Fr s.heap L _ (fun y => if y = Str.ofString "size" then some (.int q tz) else if y = Str.ofString "x" then some (.int x t1) else u y) := ⟨_, fr2 Fe rfl rfl⟩
    have CC : ∃ tr, Obj.data _ = Data.cell (some (Value.int _ tr)) := ⟨_, hcell⟩
    clear Fe hcell
    obtain ⟨tz, u, Fe⟩ := FF
    obtain ⟨tr, hcell⟩ := CC
    generalize hr : ((x.fmod (10 ^ Int.toNat 7)).fdiv 3).fdiv 9 = r at *
    have hr0 : 0 ≤ r ∧ r < 10000000 := by
      rw [← hr]
      have h1 : 0 ≤ x.fmod (10 ^ Int.toNat 7) := Int.fmod_nonneg_of_pos _ (by decide)
      have h2 : x.fmod (10 ^ Int.toNat 7) < 10 ^ Int.toNat 7 := Int.fmod_lt_of_pos _ (by decide)
      rw [show (10 : Int) ^ Int.toNat 7 = 10000000 by decide] at *
      generalize x.fmod 10000000 = y at *
      rw [Int.fdiv_eq_ediv_of_nonneg _ (by decide), Int.fdiv_eq_ediv_of_nonneg _ (by decide)]
      omega
    clear hr
    refine lcWalk (fun _ => true) (fun i y h => ∃ c t, c < 1114112 ∧ y = .str ⟨#[c]⟩ t) (fun i y h h' _ r => r) rfl (by decide) rfl (by decide) rfl ?_
    k_steps
    (rename Fr _ _ _ _ => Fe2); (rename News _ _ _ _ => Nw2); (rename IsRange _ _ _ _ _ _ _ _ => Rg)
    have hh : ∀ env, (A.deeper env).handled = none := fun _ => O.hd
    refine wpAny_pyIter_range Rg (small_one (by decide) (by decide) (by omega) (by omega)) ?_
    refine ⟨_, _, _, q.toNat, _, _, rfl, Walks.range (hh _) _ 0 1 q.toNat, ?_, by omega, ?_, ?_, ?_, ?_, ?_⟩
    · intro i h a items st ht hm
      obtain ⟨o, e, hc, _⟩ := ht
      rw [List.mem_singleton.mp hm] at e
      have st' : h.get? _ = some _ := st
      rw [st'] at e
      cases e
      exact (show (Value.type "range_iterator") ≠ Value.type "tuple" by decide) hc
    · show Heap.get? _ _ = some _
      rw [rangeSize_nat]
      simpa using Heap.get?_push_size _ rfl
    · intro b hb
      rw [List.mem_singleton.mp hb]
      show _ < (Heap.push _ _).objs.size
      rw [Heap.size_push]
      exact Nat.lt_succ_self _
    · intro C i v h tk m E' _ _ _ _ _ _
      exact wpAny_tests_nil ⟨rfl, keeps_tok⟩
    · rintro C i v h tk m E' hi _ ⟨t, rfl⟩ hC hn hm hk
      have hLs := Heap.lt_size (Nw2 _ (.head _)).1
      have hc := hk _ _ (fun hm => Nat.ne_of_lt hLs (List.mem_singleton.mp hm)) (Heap.get?_push_of_some _ (Nw2 _ (.head _)).1)
      have hi8 : (i : Int) < 8 := by omega
      rw [show (0 : Int) + (i : Int) * 1 = i by omega] at hm
      generalize hj : (i : Int) = j at hm hi8
      have hj0 : 0 ≤ j ∧ j < 8 := by omega
      clear Fe2 Nw2 Rg hk hC hLs hi hj
      show wpAny _ _ _ (EltOk _ { s with heap := h, toks := tk }) _ { s with heap := h, toks := tk }
      k_steps
      exact ⟨⟨_, _, charAt_lt (x := Str.ofString "x\",\\= ") (by decide +kernel) _, rfl⟩, keeps_tok⟩
    · intro D h2 tk2 ys hD hl hP hk
      have hk2 : ∀ b o, Heap.get? _ b = some o → h2.get? b = some o := fun b o e => hk b o (fun hm => Nat.ne_of_lt (Heap.lt_size e) (List.mem_singleton.mp hm)) (Heap.get?_push_of_some _ e)
      have F3 := Fe2.keeps hk2
      have N3 := Nw2.grown hk2
      rw [List.filter_eq_self.mpr fun _ _ => rfl] at hP
      obtain ⟨l, hl1, hl2, hl3⟩ := paired_ones hP
      clear Fe2 Nw2 Rg hk hk2
      show wpAny _ _ _ _ _ { s with heap := h2, toks := tk2 }
      k_steps
      refine SC.join (l := l) ?_ rfl (joinOk_of (B := 1) (fun y hy => Nat.le_of_eq (hl2 y hy).1) ?_) ?_
      · rw [← hl1]; simpa using hl.isList
      · have h0 : (Str.ofString "").length = 0 := by decide +kernel
        rw [h0, List.length_map, hl3, List.length_range]
        omega
      · intro t9 tk9
        have hj : (Txt.join (Str.ofString "") (l.map (·.1))).length = q.toNat := by
          show (Builtin.Str.glued (Str.ofString "") (l.map (·.1))).length = _
          rw [StrLaws.glued_eq_join, join_ones (fun y hy => (hl2 y hy).1), List.length_map, hl3, List.length_range]
        have hok : PyData.strOk (Txt.join (Str.ofString "") (l.map (·.1))) = true := by
          show PyData.strOk (Builtin.Str.glued (Str.ofString "") (l.map (·.1))) = true
          rw [StrLaws.glued_eq_join]
          exact ok_join (by decide +kernel) fun y hy => (hl2 y hy).2
        generalize Txt.join (Str.ofString "") (l.map (·.1)) = v at hj hok
        clear hl hl1 hl2 hl3 hP hD
        k_steps
        (rename Fr _ _ _ _ => F5); (rename News _ _ _ _ => N5); (rename q ≠ 8 => h8)
        refine h _ _ _ _ ⟨_, q, v⟩ _ _ F5.keep ⟨_, (N5 _ (.head _)).1, rfl, _, rfl⟩ ⟨key_good x, .inr ⟨hq0.1, (show q ≤ 7 by omega), (show (v.length : Int) = q by rw [hj]; omega)⟩, hok⟩ ?_
        show q = sizeF x
        rw [← hq] at h8 ⊢
        exact (if_neg h8).symm
end
end Mine

-- part M6
namespace Mine
theorem splitEq (c : Nat) (r : List Nat) (hc : c ≠ 61) : Txt.splitMax ⟨(c :: 61 :: r).toArray⟩ (Str.ofString "=") 1 = [⟨#[c]⟩, ⟨r.toArray⟩] := by
  have e : Str.ofString "=" = ⟨#[61]⟩ := by decide +kernel
  rw [e]
  have hlen : (⟨(c :: 61 :: r).toArray⟩ : Str).length = r.length + 2 := by simp [Str.length]
  have ho : Builtin.Str.occurrences ⟨(c :: 61 :: r).toArray⟩ ⟨#[61]⟩ 0 (⟨(c :: 61 :: r).toArray⟩ : Str).length 1 = [1] := by
    have hle := StrLaws.occ_length_le ⟨(c :: 61 :: r).toArray⟩ ⟨#[61]⟩ 0 (⟨(c :: 61 :: r).toArray⟩ : Str).length 1
    have at1 : ∀ i, StrLaws.At ⟨(c :: 61 :: r).toArray⟩ ⟨#[61]⟩ (⟨(c :: 61 :: r).toArray⟩ : Str).length i ↔ (c :: 61 :: r)[i]? = some 61 := fun i => by
      have := StrLaws.subAt_one ⟨(c :: 61 :: r).toArray⟩ 61 i
      simpa [StrLaws.At] using this
    rcases StrLaws.occ_head ⟨(c :: 61 :: r).toArray⟩ ⟨#[61]⟩ 1 (Nat.le_refl _) with ⟨_, hn⟩ | ⟨i, rr, h0, ha, hn⟩
    · exact absurd ((at1 1).mpr rfl) (hn 1)
    · rw [h0] at hle ⊢
      have hrr : rr = [] := by cases rr with | nil => rfl | cons _ _ => simp at hle
      have hi : i = 1 := by
        rcases Nat.lt_trichotomy i 1 with h | h | h
        · have : i = 0 := by omega
          subst this
          have := (at1 0).mp ha
          simp at this
          exact absurd this hc
        · exact h
        · exact absurd ((at1 1).mpr rfl) (hn 1 h)
      rw [hrr, hi]
  unfold Txt.splitMax
  have hl : limitOf (⟨(c :: 61 :: r).toArray⟩ : Str) 1 = 1 := rfl
  rw [hl, ho, if_neg, if_neg]
  · simp [Builtin.Str.partsBetween, Builtin.Str.strSub, Str.length]
  · decide
  · have hk : Builtin.Str.strKind ⟨#[61]⟩ = 1 := by decide +kernel
    rw [hk, hlen]
    have : 1 ≤ Builtin.Str.strKind ⟨(c :: 61 :: r).toArray⟩ := by
      unfold Builtin.Str.strKind
      split <;> try split
      all_goals decide
    simp [Str.length]
    omega

section
variable {prog : Program} {w : World} {A : Around} {E : Value → Shared → Prop} {s : Shared} {x : Str} {t u v : Tok} {h₀ : Heap} {L : Addr} {m : Str → Option Value} {news : List (Addr × Obj)} {Q : Value → Shared → Prop}
theorem splitPair {a b : Str} (e : Txt.splitMax x (Str.ofString "=") 1 = [a, b]) (hx : x.length ≤ 200) (hF : Fr h₀ L s.heap m) (hN : News h₀ L s.heap news)
   (h : ∀ D t1 t2 h' tk, Fr h₀ L h' m → News h₀ L h' ((D, W.listOf #[.str a t1, .str b t2] 0) :: news) → Q (.ref D) { s with heap := h', toks := tk }) :
    wpAny (model prog w) A (call (.builtin "str.split") [.str x t, .str (Str.ofString "=") u, .int 1 v]) Q E s := by
  refine splitN2A hF hN (by decide +kernel) (by decide) (fun l h' tk e1 _ _ _ F N => ?_) (Nat.le_trans (Nat.add_le_add_right hx 2) (by decide))
  rw [e] at e1
  match l, e1 with
  | [(_, t1), (_, t2)], rfl => exact h _ t1 t2 h' tk F N
end

local macro_rules | `(tactic| walk_at "exec For Name Name cons nil") => `(tactic| refine stop ?_)
local macro_rules | `(tactic| walk_at "InvPostN") => `(tactic| refine stop ?_)
local macro_rules | `(tactic| walk_at "call builtin:str.split") => `(tactic| refine stop ?_)

def putS (k v : Str) (D : List (Str × Str)) : List (Str × Str) := if D.any (fun p => decide (p.1 = k)) then D.map (fun p => if p.1 = k then (p.1, v) else p) else D ++ [(k, v)]
def keqvF (kv : List (Str × Str)) : List (Str × Str) := kv.foldl (fun D p => putS p.1 p.2 D) []
def encS (D : List (Str × Str)) : List (PyData × PyData) := D.map fun p => (.str p.1, .str p.2)

def quoted (v : Str) : Str := Str.ofString "\"" ++ v ++ Str.ofString "\""
theorem sEq : Str.ofString "=\"" = ⟨#[61, 34]⟩ := by decide +kernel
theorem str_ext {x y : Str} (h : x.cps.toList = y.cps.toList) : x = y := by
  cases x; cases y
  simp only [Str.mk.injEq]
  exact Array.toList_inj.mp h
theorem splitItem {c : Nat} {v : Str} (hc : c ≠ 61) : Txt.splitMax (itemF ⟨#[c]⟩ 0 v) (Str.ofString "=") 1 = [⟨#[c]⟩, quoted v] := by
  have e1 : itemF ⟨#[c]⟩ 0 v = ⟨(c :: 61 :: (34 :: v.cps.toList ++ [34])).toArray⟩ := by
    refine str_ext ?_
    simp [itemF, sEq, sQ, toList_append']
  have e2 : quoted v = ⟨(34 :: v.cps.toList ++ [34]).toArray⟩ := by
    refine str_ext ?_
    simp [quoted, sQ, toList_append']
  rw [e1, e2]
  exact splitEq c _ hc
theorem quoted_len (v : Str) : (quoted v).length = v.length + 2 := by
  unfold quoted
  rw [sQ, Str.length_append, Str.length_append]
  show 1 + _ + 1 = _
  omega
theorem quoted_0 (v : Str) : Txt.item (quoted v) 0 = Str.ofString "\"" := by
  unfold quoted
  rw [sQ, show (⟨#[34]⟩ ++ v ++ ⟨#[34]⟩ : Str) = ⟨(34 :: []).toArray⟩ ++ (v ++ ⟨#[34]⟩) from Str.append_assoc _ _ _]
  exact item_zero_left 34 [] _
theorem quoted_1 (v : Str) : Txt.item (quoted v) (-1) = Str.ofString "\"" := by
  unfold quoted
  rw [sQ]
  exact item_last_right1 _ 34
theorem quoted_in (v : Str) : Txt.slice (quoted v) (some 1) (some (-1)) = v := by
  have hl := quoted_len v
  unfold Txt.slice
  have e : Builtin.Str.strSliceIndices (some 1) (some (-1)) 1 (quoted v).length = (List.range v.length).map (fun k => 1 + k) := by
    rw [StrLaws.sliceIdx_neg_hi _ _ (by decide) (by omega)]
    have := StrLaws.strSliceIndices_plain (a := 1) (b := v.length + 1) (len := (quoted v).length) (by omega) (by omega)
    rw [show ((-1 : Int) + ((quoted v).length : Int)) = ((v.length + 1 : Nat) : Int) by omega]
    simpa using this
  have hp := StrLaws.sliced_plain (quoted v) (a := 1) (b := v.length + 1) (by omega) (by omega)
  rw [e, if_neg (by simp; omega)]
  have e2 := StrLaws.strSliceIndices_plain (a := 1) (b := v.length + 1) (len := (quoted v).length) (by omega) (by omega)
  rw [e2] at hp
  rw [show v.length + 1 - 1 = v.length from rfl] at hp
  rw [hp]
  refine str_ext ?_
  simp [quoted, sQ, toList_append', Str.length]
def KVs (D : List (Str × Str)) (kvs : List (Str × Value)) : Prop := Paired (fun q (r : Str × Value) => r.1 = q.1 ∧ ∃ t, r.2 = .str q.2 t) D kvs
theorem KVs.flat : ∀ {D : List (Str × Str)} {kvs : List (Str × Value)}, KVs D kvs → PyProof.V.FlatPairs PyData.str kvs (encS D)
  | _, _, .nil => .nil
  | _, _, .cons (b := (_, _)) ⟨e1, t, e2⟩ r => by
    cases e1; cases e2
    exact .cons (.str _ t) (KVs.flat r)
theorem KVs.any (k : Str) : ∀ {D : List (Str × Str)} {kvs : List (Str × Value)}, KVs D kvs → (kvs.any fun kv => decide (kv.1 = k)) = D.any fun q => decide (q.1 = k)
  | _, _, .nil => rfl
  | _, _, .cons ⟨e1, _⟩ r => by simp only [List.any_cons, e1, KVs.any k r]
theorem KVs.map (k v : Str) (t : Tok) : ∀ {D : List (Str × Str)} {kvs : List (Str × Value)}, KVs D kvs → KVs (D.map (fun p => if p.1 = k then (p.1, v) else p)) (kvs.map fun kv => if kv.1 = k then (kv.1, Value.str v t) else kv)
  | _, _, .nil => .nil
  | _, _, .cons (a := a) (b := b) ⟨e1, t', e2⟩ r => by
    refine .cons ?_ (KVs.map k v t r)
    show (ite _ _ _ : Str × Value).1 = (ite _ _ _ : Str × Str).1 ∧ ∃ t_1, (ite _ _ _ : Str × Value).2 = Value.str (ite _ _ _ : Str × Str).2 t_1
    rw [e1]
    by_cases h : a.1 = k
    · rw [if_pos h, if_pos h]; exact ⟨rfl, t, rfl⟩
    · rw [if_neg h, if_neg h]; exact ⟨e1, t', e2⟩
theorem KVs.put {k v : Str} {t : Tok} {D : List (Str × Str)} {kvs : List (Str × Value)} (h : KVs D kvs) : KVs (putS k v D) (stored kvs k (.str v t)) := by
  unfold putS stored
  rw [h.any k]
  split
  · exact h.map k v t
  · exact Paired.snoc h ⟨rfl, t, rfl⟩
theorem putS_len (k v : Str) (D : List (Str × Str)) : (putS k v D).length ≤ D.length + 1 := by
  unfold putS
  split <;> simp
theorem keqvF_len' : ∀ (kv D : List (Str × Str)), (kv.foldl (fun D p => putS p.1 p.2 D) D).length ≤ D.length + kv.length
  | [], D => by simp
  | q :: r, D => by
    have := keqvF_len' r (putS q.1 q.2 D)
    have := putS_len q.1 q.2 D
    simp only [List.foldl_cons, List.length_cons]
    omega
theorem keqvF_len (kv : List (Str × Str)) : (keqvF kv).length ≤ kv.length := by simpa [keqvF] using keqvF_len' kv []
def keqvJ (w : World) (kv : List (Str × Str)) (d : Addr) (i : Nat) (m : Str → Option Value) (news : List (Addr × Obj)) : Prop :=
  ∃ (u : Str → Option Value) (o : Obj) (kvs : List (Str × Value)), m = (fun y => if y = Str.ofString "parsed" then some (.ref d) else u y) ∧ news = [(d, o)] ∧
    o.IsDictOf (PySem.strKind Challenge.rw_mq0130_01.row.prog w) kvs ∧ KVs (keqvF (kv.take i)) kvs
theorem keqvM {m : Str → Option Value} {d : Value} (e : m (Str.ofString "parsed") = some d) : m = (fun y => if y = Str.ofString "parsed" then some d else m y) := by
  funext z
  by_cases a : z = Str.ofString "parsed"
  · subst a; rw [if_pos rfl, e]
  · rw [if_neg a]
section
variable {n : Nat} {w : World} {p : Program} {loose : List Str} {mean : ExcName → Option Value} {mg mb : Str → Option Value} {A : Around} {base : Heap} {outer : List Env} {s : Shared}
set_option pp.deepTerms false
set_option pp.maxSteps 2000
theorem keqv_spec {l : Addr} {vs : List Value} {kv : List (Str × Str)} {Q E : Value → Shared → Prop} (O : Ok n w p loose mean mg mb A base outer s.heap)
   (hl : s.heap.IsList l vs.toArray) (hS : StrsAre vs (kv.map fun q => itemF q.1 0 q.2)) (hsz : vs.length ≤ 100) (hg : ∀ q ∈ kv, (∃ c, c ≠ 61 ∧ q.1 = ⟨#[c]⟩) ∧ q.2.length ≤ 100)
   (h : ∀ D kvs h' tk', s.heap.StaysIn h' → s.heap.get? D = none → (D == sysModules) = false → h'.DictOf (PySem.strKind Challenge.rw_mq0130_01.row.prog w) D kvs → KVs (keqvF kv) kvs → Q (.ref D) { s with heap := h', toks := tk' }) :
   wpAny (model Challenge.rw_mq0130_01.row.prog w) A (call (.ref 35) [.ref l]) Q E s := by
  have X := O.X
  revert X
  k_fill
  intro X
  refine enterF [(Str.ofString "l", .ref l)] O rfl rfl (BindsTo.of_eq rfl) rfl (by decide) (fun h₁ F N => ?_)
  have T := O.T
  show wpAny _ _ _ _ _ _
  k_fold
  k_steps
  (rename Fr _ _ _ _ => Fe); (rename News _ _ _ _ => Nw)
  refine Stop.out ?_
  refine For_invV s.heap rfl rfl ?_
  refine ld Fe rfl ?_
  rename_i d _ o lo hs fs _ _ _ _
  refine loopList (keqvJ w kv d) O.hd hl Fe Nw ⟨_, o, [], keqvM rfl, rfl, hs, .nil⟩ ?_ ?_
  · rintro i v m₁ news₁ hh tk own hv hoff ⟨u, o', kvs, rfl, rfl, hdo, hfl⟩ F₁ N₁
    obtain ⟨y, t, rfl, hy⟩ := hS.item i v (by simpa using hv)
    have hlen := hS.len_eq
    simp only [List.cons_append, List.nil_append, List.map_cons, List.map_nil] at N₁ hoff ⊢
    rw [List.getElem?_map] at hy
    obtain ⟨⟨k, v⟩, hkv, rfl⟩ := Option.map_eq_some_iff.mp hy
    obtain ⟨⟨c, hc, hk⟩, hvl⟩ := hg _ (List.mem_of_getElem? hkv)
    dsimp only at hk hvl
    subst hk
    clear Fe Nw
    show wpAny _ _ _ _ _ _
    k_fold
    k_steps
    refine Stop.out ?_
    refine splitPair (a := ⟨#[c]⟩) (b := quoted v) (splitItem hc) ?_ F₁ N₁ ?_
    · show (itemF ⟨#[c]⟩ 0 v).length ≤ 200
      have : (itemF ⟨#[c]⟩ 0 v).length = v.length + 4 := by
        rw [itemF, if_neg (by decide), sEq, sQ, Str.length_append, Str.length_append, Str.length_append]
        show 1 + 2 + _ + 1 = _
        omega
      omega
    intro D t1 t2 h₂ tk₂ F₂ N₂
    clear F₁ N₁
    have hql : (quoted v).length = v.length + 2 := quoted_len v
    k_steps
    refine kun_list F₂ N₂ ⟨_, (N₂ _ (.head _)).1, rfl, _, rfl⟩ O.hd rfl rfl (fun h₃ F₃ N₃ => ?_)
    clear F₂ N₂
    have hq0 : (Txt.item (quoted v) 0 == Str.ofString "\"") = true := by rw [quoted_0]; exact beq_self_eq_true _
    have hq1 : (Txt.item (quoted v) (-1) == Str.ofString "\"") = true := by rw [quoted_1]; exact beq_self_eq_true _
    k_steps
    (rename Fr _ _ _ _ => F₄); (rename News _ _ _ _ => N₄)
    have hsl : Txt.slice (quoted v) (some 1) (some (-1)) = v := quoted_in v
    rw [hsl] at F₄ ⊢
    refine setItem_made_str (rest := own) (D := encS (keqvF (kv.take i))) (.str v _) F₄ (fun p hp => N₄ p (by simp only [List.mem_cons] at hp ⊢; exact Or.inr hp)) (fun p hp => hoff p hp d (by simp)) hdo hfl.flat (fun h₅ o₅ F₅ N₅ hd₅ hf₅ => ?_) ?_
    · clear F₄ N₄ N₃ F₃
      k_steps
      refine Stop.out ?_
      refine InvEndN.intro F₅ N₅ (nx := [(d, o₅)]) ⟨_, o₅, _, keqvM rfl, rfl, hd₅, ?_⟩ rfl ?_ ?_
      · have htake : kv.take (i + 1) = kv.take i ++ [(⟨#[c]⟩, v)] := by rw [List.take_add_one, hkv]; rfl
        rw [htake, keqvF, List.foldl_append]
        exact hfl.put
      · intro q hq
        rw [List.mem_singleton.mp hq]
        exact .head _
      · intro q hq
        exact .tail _ hq
    · have := keqvF_len (kv.take i)
      have := List.length_take_le' i kv
      simp only [List.length_map] at hlen
      have e : (encS (keqvF (kv.take i))).length = (keqvF (kv.take i)).length := by simp [encS]
      exact Nat.le_trans (by omega : _ ≤ 100) (by decide)
  · intro m₁ news₁ hh tk ⟨u, o', kvs, e1, e2, hdo, hfl⟩ F₁ N₁
    subst e1 e2
    clear Fe Nw
    show wpAny _ _ _ _ _ _
    k_steps
    have hall : kv.take vs.toArray.size = kv := List.take_of_length_le (by have := hS.len_eq; simp only [List.length_map] at this; simp; omega)
    rw [hall] at hfl
    have hb := (N₁ _ (.head _)).2.2
    exact h d _ _ _ F₁.keep hb lo (Heap.dictOf_iff.mpr ⟨_, (N₁ _ (.head _)).1, hdo⟩) hfl
end
end Mine

-- part M7
namespace Mine
local macro_rules | `(tactic| walk_at "exec For Name Name cons nil") => `(tactic| refine stop ?_)
local macro_rules | `(tactic| walk_at "InvPostN") => `(tactic| refine stop ?_)
local macro_rules | `(tactic| walk_at "call builtin:str.split") => `(tactic| refine stop ?_)
section
variable {prog : Program} {w : World} {A : Around} {E : Value → Shared → Prop} {s : Shared} {env : Env}
theorem kun_few {l : Addr} {v : Value} {Q : List Value → Shared → Prop} (hh : A.handled = none) (hl : s.heap.IsList l #[v])
    (h : ∀ h' h'' tk e, Heap.ExtBut s.heap.objs.size s.heap h' → Heap.NewExc h' h'' e "ValueError" → E (.ref e) { s with heap := h'', toks := tk }) : wpAny (model prog w) A (unpackItems (.ref l) 2 none) Q E s := by
  have hlt : l ≠ s.heap.objs.size := by obtain ⟨o, ho, _⟩ := hl; exact Nat.ne_of_lt (Heap.lt_size ho)
  unfold unpackItems
  refine wpAny_bind ?_
  unfold notIterableAtAll
  refine wpAny_bind (wpAny_specialOf hl.typeIs slot_list_iter.lookup ?_)
  refine wpAny_pure ?_
  simp only [Bool.false_eq_true, if_false]
  refine wpAny_bind (wpAny_holding (wpAny_pyIter_list hl ?_))
  refine wpAny_bind (wpAny_holding ?_)
  show wpAny _ _ (pyNext (.ref _) >>= _) _ E _
  refine wpAny_bind (wpAny_pyNext_list_item (items := #[v]) (l := l) (x := v) (i := 0) ⟨_, Heap.get?_push_size _ rfl, rfl, rfl⟩ (hl.push _) rfl fun h₁ hit₁ hs₁ => ?_)
  refine wpAny_bind (wpAny_holding ?_)
  show wpAny _ _ (pyNext (.ref _) >>= _) _ E _
  refine wpAny_bind (wpAny_pyNext_list_end hh hit₁ ((hl.push _).extBut hs₁.extBut hlt) rfl fun h₂ he₂ => ?_)
  refine wpAny_pure (wpAny_pure ?_)
  rw [if_pos (by simp)]
  refine wpAny_bind (wpAny_rule (wpAny_bind ?_))
  refine wpAny_raiseErrorMade plainExc_ValueError hh (fun h' tk e hn => ?_) (by show Str.length (Str.ofString (toString "not enough values to unpack (expected " ++ toString 2 ++ toString ", got " ++ toString 1 ++ toString ")")) ≤ _; decide +kernel)
  exact h _ _ _ _ (fun b o hb e => he₂ b o hb (hs₁.extBut b o hb (Heap.get?_push_of_some _ e))) hn
end
theorem NewExc.back {h h' : Heap} {e : Addr} {c : String} (x : Heap.NewExc h h' e c) : h.StaysIn h' := fun b o q => x.keeps b o q
def Bad (y : Str) : Prop := ∃ c v, (c = 97 ∨ c = 98 ∨ c = 99) ∧ (v = Str.ofString "" ∨ v = Str.ofString "=") ∧ y = itemF ⟨#[c]⟩ (-1) v
theorem Bad.cases {y : Str} (h : Bad y) : (∃ a, Txt.splitMax y (Str.ofString "=") 1 = [a]) ∨ ∃ a, Txt.splitMax y (Str.ofString "=") 1 = [a, Str.ofString ""] := by
  obtain ⟨c, v, hc, hv, rfl⟩ := h
  rcases hv with rfl | rfl
  · refine Or.inl ⟨⟨#[c]⟩, ?_⟩
    rcases hc with rfl | rfl | rfl <;> decide +kernel
  · refine Or.inr ⟨⟨#[c]⟩, ?_⟩
    rcases hc with rfl | rfl | rfl <;> decide +kernel
theorem Bad.len {y : Str} (h : Bad y) : y.length ≤ 2 := by
  obtain ⟨c, v, hc, hv, rfl⟩ := h
  rcases hv with rfl | rfl <;> rcases hc with rfl | rfl | rfl <;> decide +kernel
section
variable {prog : Program} {w : World} {A : Around} {E : Value → Shared → Prop} {s : Shared} {x : Str} {t u v : Tok} {h₀ : Heap} {L : Addr} {m : Str → Option Value} {news : List (Addr × Obj)} {Q : Value → Shared → Prop}
theorem splitOne {a : Str} (e : Txt.splitMax x (Str.ofString "=") 1 = [a]) (hx : x.length ≤ 200) (hF : Fr h₀ L s.heap m) (hN : News h₀ L s.heap news)
   (h : ∀ D t1 h' tk, Fr h₀ L h' m → News h₀ L h' ((D, W.listOf #[.str a t1] 0) :: news) → Q (.ref D) { s with heap := h', toks := tk }) :
    wpAny (model prog w) A (call (.builtin "str.split") [.str x t, .str (Str.ofString "=") u, .int 1 v]) Q E s := by
  refine splitN2A hF hN (by decide +kernel) (by decide) (fun l h' tk e1 _ _ _ F N => ?_) (Nat.le_trans (Nat.add_le_add_right hx 2) (by decide))
  rw [e] at e1
  match l, e1 with
  | [(_, t1)], rfl => exact h _ t1 h' tk F N
end
section
variable {n : Nat} {w : World} {p : Program} {loose : List Str} {mean : ExcName → Option Value} {mg mb : Str → Option Value} {A : Around} {base : Heap} {outer : List Env} {s : Shared}
set_option pp.deepTerms false
set_option pp.maxSteps 2000
theorem keqv_bad {l : Addr} {y : Str} {t : Tok} {Q E : Value → Shared → Prop} (O : Ok n w p loose mean mg mb A base outer s.heap)
   (hl : s.heap.IsList l #[.str y t]) (hy : Bad y)
   (h : ∀ e cls h' tk', (cls = "ValueError" ∨ cls = "IndexError") → RaisedSN base s.heap outer e (.type cls) [] h' → s.heap.UpToSlots h' → E (.ref e) { s with heap := h', toks := tk' }) :
   wpAny (model Challenge.rw_mq0130_01.row.prog w) A (call (.ref 35) [.ref l]) Q E s := by
  have X := O.X
  revert X
  k_fill
  intro X
  refine enterF [(Str.ofString "l", .ref l)] O rfl rfl (BindsTo.of_eq rfl) rfl (by decide) (fun h₁ F N => ?_)
  have T := O.T
  show wpAny _ _ _ _ _ _
  k_fold
  k_steps
  (rename Fr _ _ _ _ => Fe); (rename News _ _ _ _ => Nw)
  refine Stop.out ?_
  refine For_invV s.heap rfl rfl ?_
  refine ld Fe rfl ?_
  rename_i d _ o lo hs fs _ _ _ _
  refine loopList (fun i m news => i = 0 ∧ m = _ ∧ news = [(d, o)]) O.hd hl Fe Nw ⟨rfl, rfl, rfl⟩ ?_ ?_
  · rintro i v m₁ news₁ hh tk own hv hoff ⟨rfl, rfl, rfl⟩ F₁ N₁
    cases (Option.some.inj hv : Value.str y t = v)
    simp only [List.cons_append, List.nil_append, List.map_cons, List.map_nil] at N₁ hoff ⊢
    clear Fe Nw
    show wpAny _ _ _ _ _ _
    k_fold
    k_steps
    refine Stop.out ?_
    rcases hy.cases with ⟨a, ha⟩ | ⟨a, ha⟩
    · refine splitOne ha (Nat.le_trans hy.len (by decide)) F₁ N₁ ?_
      intro D t1 h₂ tk₂ F₂ N₂
      clear F₁ N₁
      k_steps
      rw [assign_Tuple]
      refine wpAny_bind (wpAny_standAt ?_)
      unfold unpack
      refine wpAny_bind (wpAny_holding ?_)
      refine kun_few O.hd ⟨_, (N₂ _ (.head _)).1, rfl, _, rfl⟩ fun h₃ h₄ tk₄ e he hn => ?_
      have F₃ := F₂.extBut he (Nat.le_refl _)
      refine leave_newS O.B hn F₃ News.nil fun h₅ R _ up => ?_
      exact h e _ _ _ (.inl rfl) R up
    · refine splitPair ha (Nat.le_trans hy.len (by decide)) F₁ N₁ ?_
      intro D t1 t2 h₂ tk₂ F₂ N₂
      clear F₁ N₁
      k_steps
      refine kun_list F₂ N₂ ⟨_, (N₂ _ (.head _)).1, rfl, _, rfl⟩ O.hd rfl rfl (fun h₃ F₃ N₃ => ?_)
      clear F₂ N₂
      k_steps
      (rename Fr _ _ _ _ => F₄); (rename News _ _ _ _ => N₄)
      refine subscriptTail_builtin (typeIs_str _ _ _) PySem.F.slot_str_getitem.lookup (getItem_meets (typeIs_str _ _ _) (by decide) PySem.F.slot_str_getitem PySem.F.entry_str_getitem (PySem.F.args_str_getitem_2 _ _) (raises_str_getitem _ 0 _ _ (by decide) (by decide +kernel)) ⟨O.hd, fun h₅ tk₅ e hn => ?_⟩)
      refine leave_newS O.B hn F₄ News.nil fun h₆ R _ up => ?_
      exact h e _ _ _ (.inr rfl) R up
  · rintro m₁ news₁ hh tk ⟨h0, _⟩
    cases h0
end
end Mine

-- part M8
namespace Mine
section
variable {n : Nat} {w : World} {p : Program} {loose : List Str} {mean : ExcName → Option Value} {mg mb : Str → Option Value} {A : Around} {base : Heap} {outer : List Env} {s : Shared}
set_option pp.deepTerms false
set_option pp.maxSteps 2000
theorem sound_bad {y : Str} {t1 : Tok} {Q E : Value → Shared → Prop} (O : Ok (n + 1) w p loose mean mg mb A base outer s.heap) (hy : Bad y)
   (h : ∀ h' tk', Turned (outer.filterMap (·.frame)) s.heap h' → Q (.bool false) { s with heap := h', toks := tk' }) :
   wpAny (model Challenge.rw_mq0130_01.row.prog w) A (call (.ref 59) [.str y t1]) Q E s := by
  have X := O.X
  revert X
  k_fill
  intro X
  refine enterF [(Str.ofString "item", .str y t1)] O rfl rfl (BindsTo.of_eq rfl) rfl (by decide) (fun h₁ F N => ?_)
  have T := O.T
  show wpAny _ _ _ _ _ _
  k_fold
  k_steps
  (rename Fr _ _ _ _ => F'); (rename News _ _ _ _ => N')
  refine keqv_bad (O.deeper F') ⟨_, (N' _ (.head _)).1, rfl, _, rfl⟩ hy fun e cls h₂ tk₂ hc R up => ?_
  have D : KtsDicts (outer.filterMap (·.frame)) s.heap := O.dicts
  refine kts_lookSN R F' O.B up D fun h₃ R₃ up₃ => ?_
  refine hit_SN0 R₃ F' O.B up₃ O.XB O.TB D KtsTurn.refl ?_ fun h₄ g' T' F₄ N₄ B₄ X₄ Tp₄ D₄ => ?_
  · rcases hc with rfl | rfl <;> kts_test
  k_steps
  refine h h₄ _ ⟨fun b o e hb => F₄.keep b o (T'.other b o e hb), fun b o e hb => ?_⟩
  obtain ⟨sl, e2⟩ := T'.frame b o e hb
  exact ⟨sl, F₄.keep _ _ e2⟩

theorem sound_good {k v : Str} {t1 : Tok} {Q E : Value → Shared → Prop} (O : Ok (n + 1) w p loose mean mg mb A base outer s.heap) (hk : ∃ c, c ≠ 61 ∧ k = ⟨#[c]⟩) (hv : v.length ≤ 100)
   (h : ∀ h' tk', s.heap.StaysIn h' → Q (.bool true) { s with heap := h', toks := tk' }) :
   wpAny (model Challenge.rw_mq0130_01.row.prog w) A (call (.ref 59) [.str (itemF k 0 v) t1]) Q E s := by
  have X := O.X
  revert X
  k_fill
  intro X
  refine enterF [(Str.ofString "item", .str (itemF k 0 v) t1)] O rfl rfl (BindsTo.of_eq rfl) rfl (by decide) (fun h₁ F N => ?_)
  have T := O.T
  show wpAny _ _ _ _ _ _
  k_fold
  k_steps
  (rename Fr _ _ _ _ => F'); (rename News _ _ _ _ => N')
  refine keqv_spec (kv := [(k, v)]) (vs := [.str (itemF k 0 v) t1]) (O.deeper F') ⟨_, (N' _ (.head _)).1, rfl, _, rfl⟩ (.cons _ _ .nil) (by simp) (fun q hq => by rw [List.mem_singleton.mp hq]; exact ⟨hk, hv⟩) fun D kvs h₂ tk₂ st _ _ _ _ => ?_
  have F₂ : Fr s.heap s.heap.objs.size h₂ _ := ⟨F'.ns.keeps st, fun b o e => st b o (F'.keep b o e), F'.above⟩
  k_steps
  exact h _ _ F₂.keep
end
end Mine

-- part M9
namespace Mine
local macro_rules | `(tactic| walk_at "eval Lambda") => `(tactic| refine stop ?_)
local macro_rules | `(tactic| walk_at "eval ListComp") => `(tactic| refine stop ?_)
local macro_rules | `(tactic| walk_at "eval Name") => `(tactic| ((with_reducible show wpAny _ _ (eval (Expr.Name _ _) (compEnvC _ _ _ _)) _ _ _); first | refine ldC (by assumption) (by assumption) ?_ | (refine ldBuilt (by assumption) (by assumption) ?xx (by boot_by_name) (by decide) ?_; (case xx => k_is))))
local macro_rules | `(tactic| walk_at "binaryOp Pow int int") => `(tactic| refine stop ?_)
local macro_rules | `(tactic| walk_at "binaryOp FloorDiv int int") => `(tactic| refine stop ?_)
local macro_rules | `(tactic| walk_at "call builtin:dict.values") => `(tactic| refine stop ?_)
local macro_rules | `(tactic| walk_at "call builtin:sum") => `(tactic| refine stop ?_)
section
variable {M : Model} {A : Around} {E : Value → Shared → Prop} {s : Shared} {h₀ : Heap} {L a c P b : Addr} {m mg mb : Str → Option Value} {cn : Str} {cs : Scope} {ccd : Value} {cl : List (Str × Addr)} {o : Obj}
  {p : Program} {loose : List Str} {mean : ExcName → Option Value} {params : Arguments} {body : Expr} {scope : Scope} {ps : Array Value} {pos : Pos} {clos : List (Str × Addr)}
theorem lam_make {Q : Value → Shared → Prop} (F : Fr h₀ L s.heap m) (N : News h₀ L s.heap [(b, o), (P, tabObj ps)]) (hbP : b ≠ P) (T : Top p loose mean mg mb h₀) (C : CodeHd h₀ c P) (hcd : ccd = .ref c)
    (hS : ps = #[] ∨ ∃ c', ps = #[rawInt pos.line, rawInt pos.col, .ref c'] ∧ h₀.CodeRec (.ref c') ((envX cn cs L a ccd cl).qual ++ "<lambda>"))
    (hdef : defaultsOf params (envX cn cs L a ccd cl) = ([], [])) (hcl : closureFor scope (envX cn cs L a ccd cl) = pure clos)
    (h : ∀ f c' ctv h' tk fo, fo = kla_obj "<lambda>" ((envX cn cs L a ccd cl).qual ++ "<lambda>") params body scope clos ((mg "__name__").getD .none) c' ctv → Fr h₀ L h' m → News h₀ L h' [(f, fo), (b, o), (P, tabObj #[rawInt pos.line, rawInt pos.col, .ref c'])] →
      h'.CodeRec (.ref c') ((envX cn cs L a ccd cl).qual ++ "<lambda>") → Q (.ref f) { s with heap := h', toks := tk }) :
    wpAny M A (eval (.Lambda params body scope pos) (envX cn cs L a ccd cl)) Q E s := by
  refine kla_eval hdef ?_
  rcases hS with rfl | ⟨c', rfl, hc⟩
  · refine kla_nest F N T C hcd (UpdF.tail hbP (UpdF.head fun _ h => nomatch h)) True.intro rfl hcl fun f c' oc vs t ctv h' tk F' N' d1 d2 _ _ => ?_
    refine h f c' ctv h' tk _ rfl F' (fun q hq => N' q ?_) ⟨c', oc, vs, t, rfl, (N' _ (.tail _ (.head _))).1, d1, d2⟩
    simp only [List.mem_cons, List.not_mem_nil, or_false] at hq ⊢
    rcases hq with e | e | e <;> simp [e]
  · refine kla_hit F N T C hcd (.tail _ (.head _)) (by simp [TriplesOk, rawInt]) (c' := c') (by simp [codeAmong, rawInt]) hcl fun f ctv h' tk F' N' _ => ?_
    obtain ⟨c2, oc, vs, t, e, ho, d1, d2⟩ := hc
    exact h f c' ctv h' tk _ rfl F' N' ⟨c2, oc, vs, t, e, F'.keep _ _ ho, d1, d2⟩
end
theorem kv_one {k v : Str} {kvs : List (Str × Value)} (h : KVs (keqvF [(k, v)]) kvs) : ∃ tv, kvs = [(k, .str v tv)] := by
  have e : keqvF [(k, v)] = [(k, v)] := by simp [keqvF, putS]
  rw [e] at h
  cases h with
  | cons h1 h2 =>
    cases h2
    obtain ⟨e1, t, e2⟩ := h1
    exact ⟨t, by rw [← e2]; exact congrArg (· :: []) (Prod.ext e1 rfl)⟩
theorem ints_one {x : Int} {ys : Array Value} (h : Paired (fun (_ : Nat) y => ∃ t, y = Value.int x t) (List.range 1) ys.toList) : ∃ ty, ys = #[.int x ty] := by
  obtain ⟨l⟩ := ys
  cases h with
  | cons h1 h2 =>
    cases h2
    obtain ⟨t, rfl⟩ := h1
    exact ⟨t, rfl⟩
theorem ldFree {prog : Program} {w : World} {A : Around} {E : Value → Shared → Prop} {x qual : Str} {pos : Pos} {scope : Scope} {cl : List (Str × Addr)} {L f c : Addr} {cd : Value} {o : Obj} {v : Value} {s : Shared} {Q : Value → Shared → Prop} (hc : cl.lookup x = some c) (ho : s.heap.get? c = some o) (hv : o.data = .cell (some v)) (h : Q v s)
    (hk : scope.kind = .function := by rfl) (hl : (envX qual scope L f cd cl).kindOf x = some .free := by rfl) (hd : (x == ("__debug__" : Str)) = false := by decide) (hcd : (x == ("__classdict__" : Str)) = false := by decide) :
    wpAny (model prog w) A (eval (.Name x pos) (envX qual scope L f cd cl)) Q E s := wpAny_Name (wpAny_loadName_free hk hl hc ⟨o, ho, hv⟩ h hcd) hd
theorem sum_one {prog : Program} {w : World} {A : Around} {s : Shared} {E : Value → Shared → Prop} {Q : Value → Shared → Prop} {x : Int} {t : Tok} {l : Addr} (hh : A.handled = none) (hl : s.heap.IsList l #[.int x t]) (hx : 0 ≤ x ∧ x ≤ 1000)
    (h : ∀ h' tk t', (∀ b o, s.heap.get? b = some o → h'.get? b = some o) → Q (.int x t') { s with heap := h', toks := tk }) : wpAny (model prog w) A (call (.builtin "sum") [.ref l]) Q E s := by
  have e : intItems #[(x, t)] = #[.int x t] := by simp [intItems]
  have n0 : numAt #[(x, t)] 0 = x := by simp [numAt]
  refine sum_intList (xs := #[(x, t)]) hh (e ▸ hl) (fun j hj => ?_) fun h' tk t' st => ?_
  · have hj0 : j = 0 := by simp at hj; exact hj
    subst hj0
    rw [n0]
    have hp : preSum (numAt #[(x, t)]) (0 + 1) = x := by show 0 + numAt #[(x, t)] 0 = x; rw [n0]; omega
    rw [hp]
    exact ⟨⟨by omega, by omega⟩, ⟨by omega, by omega⟩⟩
  · have hp : preSum (numAt #[(x, t)]) (#[(x, t)] : Array (Int × Tok)).size = x := by show 0 + numAt #[(x, t)] 0 = x; rw [n0]; omega
    rw [hp]
    exact h h' tk t' st
theorem pow2 {prog : Program} {w : World} {A : Around} {s : Shared} {E : Value → Shared → Prop} {Q : Value → Shared → Prop} {j : Int} {t u : Tok} (hj : 0 ≤ j ∧ j < 8) (h : Q (.int (2 ^ j.toNat) s.toks) { s with toks := s.toks + 1 }) :
    wpAny (model prog w) A (binaryOp .Pow (.int 2 t) (.int j u)) Q E s := pow_int_small hj.1 (by omega) (by decide) h
theorem floordiv2 {prog : Program} {w : World} {A : Around} {s : Shared} {E : Value → Shared → Prop} {Q : Value → Shared → Prop} {r j : Int} {t u : Tok} (hj : 0 ≤ j ∧ j < 8) (h : Q (.int (r.fdiv (2 ^ j.toNat)) s.toks) { s with toks := s.toks + 1 }) :
    wpAny (model prog w) A (binaryOp .FloorDiv (.int r t) (.int (2 ^ j.toNat) u)) Q E s :=
  floordiv_int (Int.ne_of_gt (Int.pow_pos (by decide))) h (Or.inl (PyProof.noPylong_small (by
    have h7 : j.toNat ≤ 7 := by omega
    have : (2 ^ j.toNat : Nat) ≤ 2 ^ 7 := Nat.pow_le_pow_right (by decide) h7
    rw [Int.natAbs_pow]
    show 2 ^ j.toNat < _
    omega)))
def lamQ : Str := Str.ofString "_law_figure" ++ Str.ofString ".<locals>." ++ Str.ofString "<lambda>"
def TabSt (h : Heap) : Prop := ∃ ps, h.get? 61 = some (tabObj ps) ∧ (ps = #[] ∨ ∃ c', c' ≠ 61 ∧ ps = #[rawInt 72, rawInt 11, .ref c'] ∧ h.CodeRec (.ref c') lamQ)
def digit (turn : Int) (v : Str) : Int := ((v.length : Int).fdiv (2 ^ turn.toNat)).fmod 2

structure Predict (n : Nat) (w : World) (p : Program) (loose : List Str) (mean : ExcName → Option Value) (mg mb : Str → Option Value) (f : Addr) (ks : List (Addr × Obj)) (turn : Int) : Prop where
  fn : ∀ h : Heap, (∀ q ∈ ks, h.get? q.1 = some q.2) → FnAt f h
  run : ∀ (A : Around) (base : Heap) (outer : List Env) (s : Shared) (k v : Str) (t : Tok) (Q E : Value → Shared → Prop), Ok (n + 1) w p loose mean mg mb A base outer s.heap → (∀ q ∈ ks, s.heap.get? q.1 = some q.2) →
    (∃ c, c ≠ 61 ∧ k = ⟨#[c]⟩) → v.length ≤ 100 → (∀ h' tk' t', s.heap.StaysIn h' → Q (.int (digit turn v) t') { s with heap := h', toks := tk' }) →
    wpAny (model Challenge.rw_mq0130_01.row.prog w) A (call (.ref f) [.str (itemF k 0 v) t]) Q E s

section
variable {n : Nat} {w : World} {p : Program} {loose : List Str} {mean : ExcName → Option Value} {mg mb : Str → Option Value} {A : Around} {base : Heap} {outer : List Env} {s : Shared}
theorem enterL {name qual : Str} {params : Arguments} {body : Expr} {scope : Scope} {cl : List (Str × Addr)} {pm ctv : Value} {c' f : Addr} {args : List Value} {Q E : Value → Shared → Prop} (binds : List (Str × Value))
    (O : Ok n w p loose mean mg mb A base outer s.heap) (ho : s.heap.get? f = some (kla_obj name qual params body scope cl pm c' ctv)) (hcd : s.heap.CodeRec (.ref c') qual)
    (hbind : bindArgs (kla_fn name qual params body scope cl pm (.ref c') ctv) ⟨args, []⟩ = pure binds) (hloc : (binds.all fun x => decide (scope.names.lookup x.1 = some .local)) = true)
    (hcell : ∀ x ∈ scope.names, x.2 ≠ .cell)
    (h : ∀ h₁, Fr s.heap s.heap.objs.size h₁ (fun y => binds.reverse.lookup y) → News s.heap s.heap.objs.size h₁ [] →
      wpAny (model Challenge.rw_mq0130_01.row.prog w) (A.deeper (envX qual scope s.heap.objs.size f (.ref c') cl)) (eval body (envX qual scope s.heap.objs.size f (.ref c') cl))
        (fun v s' => Q v s')
        (fun e s' => wpAny (model Challenge.rw_mq0130_01.row.prog w) (A.deeper (envX qual scope s.heap.objs.size f (.ref c') cl)) (leaving (envX qual scope s.heap.objs.size f (.ref c') cl) e) (fun _ s'' => E e s'') (fun e' s'' => E e' s'') s')
        { s with heap := h₁, toks := s.toks + binds.length })
    (hco : scope.isCoroutine = false := by rfl) (hgen : scope.isGenerator = false := by rfl) (hk : scope.kind = .function := by rfl) :
    wpAny (model Challenge.rw_mq0130_01.row.prog w) A (call (.ref f) args) Q E s := by
  refine wpAny_call ?_
  refine kla_callFunE (by have := O.depth; omega) ho rfl hco hgen rfl hcd ?_
  rw [hbind]
  refine wpAny_pure (wpAny_newFunctionEnv hcell (locs hloc) (fun h₁ hns hsb => ⟨O.T.nolimit.fresh _ hsb, ?_⟩) hk)
  have hk₁ : ∀ b o, s.heap.get? b = some o → h₁.get? b = some o := fun b o e => hsb.extBut b o (Nat.ne_of_lt (Heap.lt_size e)) (Heap.get?_push_of_some _ e)
  exact kla_codeExpr (h h₁ ⟨hns, hk₁, Nat.le_refl _⟩ News.nil)

set_option pp.deepTerms false
set_option pp.maxSteps 2000
theorem figure_spec {turn : Int} {t1 : Tok} {Q E : Value → Shared → Prop} (O : Ok n w p loose mean mg mb A base outer s.heap)
   (hb : base.get? 61 = none) (C : CodeHd base 65 61) (hS : TabSt s.heap) (hturn : 0 ≤ turn ∧ turn < 8)
   (h : ∀ f ks h' tk', (∀ b o, b ≠ 61 → s.heap.get? b = some o → h'.get? b = some o) → TabSt h' → (∀ q ∈ ks, h'.get? q.1 = some q.2 ∧ q.1 ≠ 61) → (∀ n, Predict n w p loose mean mg mb f ks turn) → Q (.ref f) { s with heap := h', toks := tk' }) :
   wpAny (model Challenge.rw_mq0130_01.row.prog w) A (call (.ref 66) [.int turn t1]) Q E s := by
  obtain ⟨ps, hP, hS⟩ := hS
  have X := O.X
  revert X
  k_fill
  intro X
  refine enterC [(Str.ofString "turn", .int turn t1)] O rfl rfl (BindsTo.of_eq rfl) (fun n y hy => by rw [List.mem_singleton.mp hy]; exact .inr ⟨rfl, rfl⟩) (by decide +kernel) (fun L h₁ tk cells F₀ N₀ Y => ?_)
  have st : base.StaysIn (hideAll s.heap [61]) := fun b o e => hideAll_get _ (O.B.stays b o e) fun hm => by
    rw [List.mem_singleton.mp hm, hb] at e; cases e
  have TH : Top p loose mean mg mb (hideAll s.heap [61]) := O.TB.keeps st
  have CH : CodeHd (hideAll s.heap [61]) 65 61 := C.keeps st
  k_cells Y
  (try simp only [List.cons_append, List.nil_append] at N₀)
  rename_i co hco
  have F : Fr (hideAll s.heap [61]) L h₁ _ := ⟨F₀.ns, fun b o e => F₀.keep b o (of_hideAll _ e), by rw [hideAll_size]; exact F₀.above⟩
  have h61 : (61 : Addr) < L := Nat.lt_of_lt_of_le (Heap.lt_size hP) F₀.above
  have N : News (hideAll s.heap [61]) L h₁ [(L + 1, co), (61, tabObj ps)] := by
    intro q hq
    rcases List.mem_cons.mp hq with rfl | hq
    · have x := N₀ _ (.head _)
      refine ⟨x.1, x.2.1, ?_⟩
      cases z : (hideAll s.heap [61]).get? (L + 1) with
      | none => rfl
      | some o =>
        have y := x.2.2
        rw [show s.heap.get? (L + 1) = some o from of_hideAll _ z] at y
        cases y
    · rw [List.mem_singleton.mp hq]
      exact ⟨F₀.keep _ _ hP, Nat.ne_of_lt h61, hideAll_none _ (.head _)⟩
  clear X F₀ N₀
  show wpAny _ _ _ _ _ _
  k_fold
  k_steps
  refine Stop.out ?_
  refine lam_make F N (Nat.ne_of_gt (Nat.lt_succ_of_lt h61)) TH CH rfl ?_ rfl rfl fun f c' ctv h' tk' fo hfo F' N' R' => ?_
  · rcases hS with e | ⟨c', h1, h2, h3⟩
    · exact .inl e
    · refine .inr ⟨c', h2, ?_⟩
      obtain ⟨c2, oc, vs, t, e, ho, d1, d2⟩ := h3
      cases e
      exact ⟨c', oc, vs, t, rfl, hideAll_get _ ho (fun hm => h1 (List.mem_singleton.mp hm)), d1, d2⟩
  obtain ⟨c2, oc, vs, t, e, ho, d1, d2⟩ := R'
  cases e
  have hc61 : c' ≠ 61 := by
    rintro rfl
    rw [(N' _ (.tail _ (.tail _ (.head _)))).1] at ho
    cases ho
    cases d1
    cases d2
  refine h f [(f, fo), (L + 1, co), (c', oc)] h' _ (fun b o hb e => F'.keep b o (hideAll_get _ e (fun hm => hb (List.mem_singleton.mp hm)))) ⟨_, (N' _ (.tail _ (.tail _ (.head _)))).1, .inr ⟨c', hc61, rfl, c', oc, vs, t, rfl, ho, d1, d2⟩⟩ ?_ (fun n => ⟨?_, ?_⟩)
  · intro q hq
    simp only [List.mem_cons, List.not_mem_nil, or_false] at hq
    rcases hq with rfl | rfl | rfl
    · refine ⟨(N' _ (.head _)).1, ?_⟩
      intro e
      have := (N' _ (.head _)).1
      have h2 := (N' _ (.tail _ (.tail _ (.head _)))).1
      dsimp only at e this h2
      rw [e, h2, hfo] at this
      cases this
    · exact ⟨(N' _ (.tail _ (.head _))).1, Nat.ne_of_gt (Nat.lt_succ_of_lt h61)⟩
    · exact ⟨ho, hc61⟩
  · intro hh hk
    have e : hh.get? f = some fo := hk _ (.head _)
    rw [hfo] at e
    exact ⟨_, _, _, _, e⟩
  · intro A₁ base₁ outer₁ s₁ k v t₁ Q₁ E₁ O₁ hks hgk hvl hq
    have hff : s₁.heap.get? f = some fo := hks _ (.head _)
    rw [hfo] at hff
    have hcell : s₁.heap.get? (L + 1) = some co := hks _ (.tail _ (.head _))
    have hd1 : co.data = .cell (some (.int turn t1)) := hco
    refine enterL [(Str.ofString "item", .str (itemF k 0 v) t₁)] O₁ hff ⟨c', oc, vs, t, rfl, hks _ (.tail _ (.tail _ (.head _))), d1, d2⟩ rfl rfl (by decide) (fun h₂ F₂ N₂ => ?_)
    have X := O₁.X
    have T := O₁.T
    clear hks N' F' N F hS hP TH CH C hco hff hfo
    show wpAny _ _ _ _ _ _
    k_fold
    k_steps
    refine Stop.out ?_
    refine lcWalk (fun _ => true) (fun i y h => ∃ t, y = .int v.length t) (fun i y h h' _ r => r) rfl (by decide) rfl (by decide) rfl ?_
    k_steps
    (rename Fr _ _ _ _ => F₃); (rename News _ _ _ _ => N₃)
    refine keqv_spec (kv := [(k, v)]) (vs := [.str (itemF k 0 v) t₁]) (O₁.deeperX F₃) ⟨_, (N₃ _ (.head _)).1, rfl, _, rfl⟩ (.cons _ _ .nil) (by simp) (fun q hq => by rw [List.mem_singleton.mp hq]; exact ⟨hgk, hvl⟩) fun D kvs h₄ tk₄ st₄ hD lo hdict hkv => ?_

    obtain ⟨tv, rfl⟩ := kv_one hkv
    refine getMethod_builtin hdict.typeIs PySem.F.plainAttrs_dict PySem.F.slot_dict_values PySem.F.type_dict_values hdict.mapOf.noDict ?_
    dsimp only
    k_steps
    refine Stop.out ?_
    refine call_meetsIn PySem.F.slot_dict_values hdict.typeIs PySem.F.entry_dict_values (PySem.F.args_dict_values_1 _) (meets_dict_values _ D lo) ⟨⟨_, hdict⟩, ?_⟩
    obtain ⟨ep, hat⟩ := hdict.dictAt
    have hDlt : D < h₄.objs.size := by obtain ⟨o, es, e, _⟩ := hat; exact Heap.lt_size e
    have hh : ∀ env, (A₁.deeper env).handled = none := fun _ => O₁.hd
    show wpAny _ _ (pyIter (.ref _)) _ _ { s₁ with heap := h₄.push _, toks := tk₄ }
    refine wpAny_pyIter_values (kvs := [(k, .str v tv)]) (ep := ep) ⟨_, Heap.get?_push_size _ rfl, rfl, rfl⟩ (hat.at fun o e => Heap.get?_push_of_some _ e) ?_
    refine ⟨_, _, _, 1, _, _, rfl, Walks.dictValues (knd := PySem.strKind Challenge.rw_mq0130_01.row.prog w) (hh _) _ D (Nat.ne_of_lt (Nat.lt_of_lt_of_le hDlt (by rw [Heap.size_push]; exact Nat.le_succ _))) [(k, .str v tv)] ep, ?_, by decide, ?_, ?_, ?_, ?_, ?_⟩
    · rintro i hp a items ⟨st, _⟩ ht hm
      obtain ⟨o, e, hc, _⟩ := ht
      obtain ⟨o', e', hc', _⟩ := st
      rw [List.mem_singleton.mp hm, e'] at e
      cases e
      rw [hc'] at hc
      exact absurd hc (by decide)
    · exact ⟨⟨_, Heap.get?_push_size _ rfl, rfl, rfl⟩, hat.at fun o e => Heap.get?_push_of_some _ (Heap.get?_push_of_some _ e)⟩
    · intro b hb
      show _ < (Heap.push _ _).objs.size
      rw [Heap.size_push]
      rcases List.mem_cons.mp hb with rfl | hb
      · exact Nat.lt_succ_self _
      · rw [List.mem_singleton.mp hb, Heap.size_push]
        exact Nat.lt_succ_of_lt (Nat.lt_succ_of_lt hDlt)
    · intro C i v h tk m E' _ _ _ _ _ _
      exact wpAny_tests_nil ⟨rfl, keeps_tok⟩
    · rintro C i _ h₅ tk₅ m₅ E' hi _ ⟨kk, hkk⟩ hC hn hm hk
      have hi0 : i = 0 := by omega
      subst hi0
      cases hkk
      have st₅ : s₁.heap.StaysIn h₅ := fun b o e => hk b o (fun hm => Nat.ne_of_lt (Nat.lt_trans (Heap.lt_size (st₄ b o (F₃.keep b o e))) (by show _ < (Heap.push _ _).objs.size; rw [Heap.size_push]; exact Nat.lt_succ_self _)) (List.mem_singleton.mp hm)) (Heap.get?_push_of_some _ (Heap.get?_push_of_some _ (st₄ b o (F₃.keep b o e))))
      have X₅ := X.keeps st₅
      have T₅ := T.keeps st₅
      clear hk hC hat hdict hkv st₄ F₃ N₃ hDlt hD lo X T
      show wpAny _ _ _ (EltOk _ { s₁ with heap := h₅, toks := tk₅ }) _ { s₁ with heap := h₅, toks := tk₅ }
      k_steps
      exact ⟨⟨_, rfl⟩, keeps_tok⟩
    · intro Dl h₅ tk₅ ys hDl hpl hpr hk
      have st₅ : ∀ b o, h₄.get? b = some o → h₅.get? b = some o := fun b o e => hk b o (fun hm => Nat.ne_of_lt (Nat.lt_trans (Heap.lt_size e) (by show _ < (Heap.push _ _).objs.size; rw [Heap.size_push]; exact Nat.lt_succ_self _)) (List.mem_singleton.mp hm)) (Heap.get?_push_of_some _ (Heap.get?_push_of_some _ e))
      have F₅ := (F₃.keeps st₄).keeps st₅
      have hys : ∃ ty, ys = #[.int v.length ty] := by
        rw [List.filter_eq_self.mpr fun _ _ => rfl] at hpr
        exact ints_one hpr
      obtain ⟨ty, rfl⟩ := hys
      have hc₅ : h₅.get? (L + 1) = some co := F₅.keep _ _ hcell
      clear hk hDl hat hdict hkv st₄ st₅ F₃ N₃ hDlt hD lo hpr
      show wpAny _ _ _ _ _ { s₁ with heap := h₅, toks := tk₅ }
      k_steps
      refine Stop.out ?_
      refine sum_one O₁.hd hpl.isList ⟨by omega, by omega⟩ fun h₆ tk₆ t₆ st₆ => ?_
      have F₆ := F₅.keeps st₆
      have hc₆ := F₆.keep _ _ hcell
      clear F₅ hc₅ hpl st₆
      show wpAny _ _ _ _ _ { s₁ with heap := h₆, toks := tk₆ }
      refine wpAny_BinOp (wpAny_Constant_int (ldFree (c := L + 1) rfl hc₆ hd1 ?_))
      refine pow2 hturn ?_
      refine floordiv2 hturn ?_
      refine wpAny_Constant_int ?_
      refine mod_int (by decide) ?_
      exact hq _ _ _ F₆.keep
end
end Mine

-- part M10
namespace Mine
local macro_rules | `(tactic| walk_at "exec For Name") => `(tactic| refine stop ?_)
section
variable {prog : Program} {w : World} {A : Around} {E : Value → Shared → Prop} {s : Shared} {env : Env} {h₀ : Heap} {x : Str} {body : List Stmt} {Q : Flow → Shared → Prop}
def itObj (a b c : Int) : Obj := { cls := .type "range_iterator", data := .fields #[rawInt a, rawInt b, rawInt c] }
def End3 (h₀ : Heap) (L : Addr) (own : List (Addr × Obj)) (s : Shared) (J : (Str → Option Value) → List (Addr × Obj) → Prop) (f : Flow) (s' : Shared) : Prop :=
  f = .next ∧ ∃ h' tk' m' news', s' = { s with heap := h', toks := tk' } ∧ Fr h₀ L h' m' ∧ News h₀ L h' (own ++ news') ∧ J m' news'
/-- a loop over range(3); the ledger is free -/
theorem loopRange3 {r : Addr} {t u v : Tok} {m₀ : Str → Option Value} {news : List (Addr × Obj)} (J : Nat → (Str → Option Value) → List (Addr × Obj) → Prop)
    (hh : A.handled = none) (Rg : IsRange s.heap r 0 3 1 t u v) (F : Fr h₀ env.locals s.heap m₀) (N : News h₀ env.locals s.heap news) (hj : J 0 m₀ news)
    (hcl : ∀ i m news, J i m news → ∀ q ∈ news, ∀ a b c, q.2 ≠ itObj a b c)
    (turn : ∀ i t m₁ news₁ h tk own, i < 3 → J i m₁ news₁ → (∀ q ∈ own, ∃ a b c, q.2 = itObj a b c) →
      Fr h₀ env.locals h (fun y => if y = x then some (.int (i : Nat) t) else m₁ y) → News h₀ env.locals h (own ++ news₁) →
      wpAny (model prog w) A (execs body env) (End3 h₀ env.locals own s (J (i + 1))) E { s with heap := h, toks := tk })
    (done : ∀ m₁ news₁ h tk, J 3 m₁ news₁ → Fr h₀ env.locals h m₁ → News h₀ env.locals h news₁ → Q .next { s with heap := h, toks := tk }) :
    wpAny (model prog w) A (pyIter (.ref r)) (fun it s₂ => LoopAtV prog w A h₀ env x body Q E it s₂) E s := by
  refine wpAny_pyIter_range Rg (by decide) ?_
  refine ⟨_, _, _, 3, _, _, m₀, news, J, rfl, Walks.range hh _ 0 1 3, ?_, ?_, ?_, ?_, F.push _, fun q hq => ⟨Heap.get?_push_of_some _ (N q hq).1, (N q hq).2⟩, hj, ?_, ?_⟩
  · intro hm
    rw [List.mem_singleton.mp hm] at F
    exact absurd F.ns.lt (Nat.lt_irrefl _)
  · intro b hb
    rw [List.mem_singleton.mp hb]
    exact next_is_new F
  · intro q hq hm
    exact absurd (Heap.lt_size (N q hq).1) (List.mem_singleton.mp hm ▸ Nat.lt_irrefl _)
  · show Heap.get? _ _ = some _
    rw [show Builtin.Range.rangeSize 0 3 1 = 3 by decide]
    simpa using Heap.get?_push_size _ rfl
  · rintro i _ m₁ news₁ _ own ⟨h, tk, rfl⟩ hi ⟨t, rfl⟩ hJ _ hof hown hin st F₁ N₁
    have hI := hin _ (.head _) (next_is_new F) _ st
    have hoc : ∀ q ∈ own, ∃ a b c, q.2 = itObj a b c := fun q hq => by
      have e := hown q hq
      rw [List.mem_singleton.mp (hof q hq)] at e
      have e2 : h.get? _ = some _ := st
      rw [e2] at e
      exact ⟨_, _, _, (Option.some.inj e).symm⟩
    rw [show (0 : Int) + (i : Int) * 1 = (i : Int) by omega] at F₁
    refine wpAny_mono (turn i t m₁ news₁ h tk own hi hJ hoc F₁ N₁) (fun f s' hs => ?_) fun _ _ e => e
    obtain ⟨rfl, h', tk', m', news', rfl, F₂, N₂, hJ₂⟩ := hs
    refine LoopStepV.next (LoopStepU.intro F₂ N₂ (fun q hq hm => ?_) hJ₂)
    have e1 := (N₂ q (List.mem_append_right _ hq)).1
    have e2 := (N₂ _ (List.mem_append_left _ hI)).1
    rw [List.mem_singleton.mp hm] at e1
    rw [e2] at e1
    exact hcl _ _ _ hJ₂ q hq _ _ _ (Option.some.inj e1).symm
  · intro h' tk m' news' F' N' _ hJ'
    exact done m' news' h' tk hJ' F' N'
end
section
variable {n : Nat} {w : World} {p : Program} {loose : List Str} {mean : ExcName → Option Value} {mg mb : Str → Option Value} {A : Around} {base : Heap} {outer : List Env} {s : Shared}
set_option pp.deepTerms false
set_option pp.maxSteps 2000
def round (turn : Int) (kv : List (Str × Str)) : List (Str × Str) := (kv.filter fun q => !decide (digit turn q.2 ≠ 0)) ++ kv.filter fun q => decide (digit turn q.2 ≠ 0)
def items (kv : List (Str × Str)) : List Str := kv.map fun q => itemF q.1 0 q.2
def roundsF (i : Nat) (kv : List (Str × Str)) : List (Str × Str) := (List.range i).foldl (fun a t => round (t : Nat) a) kv
def roundsJ (h₀ : Heap) (kv : List (Str × Str)) (i : Nat) (m : Str → Option Value) (news : List (Addr × Obj)) : Prop :=
  ∃ (u : Str → Option Value) (R : Addr) (vs : List Value), m = (fun y => if y = Str.ofString "row" then some (.ref R) else u y) ∧ StrsAre vs (items (roundsF i kv)) ∧ vs.length ≤ 100 ∧
    (∀ q ∈ news, ∀ a b c, q.2 ≠ itObj a b c) ∧ ∀ h : Heap, h₀.StaysIn h → (∀ q ∈ news, h.get? q.1 = some q.2) → h.IsList R vs.toArray ∧ TabSt h
theorem one_of {fr : List (Addr × Obj)} {a : Addr} {o : Obj} {h : Heap} (hfr : fr.map (·.1) = [a]) (hg : ∀ q ∈ fr, h.get? q.1 = some q.2) (e : h.get? a = some o) : fr = [(a, o)] := by
  cases fr with
  | nil => simp at hfr
  | cons q r =>
    cases r with
    | cons _ _ => simp at hfr
    | nil =>
      have ea : q.1 = a := by simpa using hfr
      have := hg q (.head _)
      rw [ea, e] at this
      rw [show q = (q.1, q.2) from rfl, ea, Option.some.inj this]
theorem roundsM {m : Str → Option Value} {d : Value} (e : m (Str.ofString "row") = some d) : m = (fun y => if y = Str.ofString "row" then some d else m y) := by
  funext z
  by_cases a : z = Str.ofString "row"
  · subst a; rw [if_pos rfl, e]
  · rw [if_neg a]
def prF (i : Nat) (y : Str) : Bool := decide ((((y.length - 4 : Nat) : Int).fdiv (2 ^ i)).fmod 2 ≠ 0)
theorem prF_item {i : Nat} {q : Str × Str} (hk : ∃ c, c ≠ 61 ∧ q.1 = ⟨#[c]⟩) : prF i (itemF q.1 0 q.2) = (digit (i : Nat) q.2 != 0) := by
  obtain ⟨c, _, hk⟩ := hk
  have hl : (itemF q.1 0 q.2).length - 4 = q.2.length := by
    rw [hk, itemF, if_neg (by decide), sEq, sQ, Str.length_append, Str.length_append, Str.length_append]
    show 1 + 2 + _ + 1 - 4 = _
    omega
  unfold prF digit
  rw [hl, Int.toNat_natCast]
  by_cases hz : ((q.2.length : Int).fdiv (2 ^ i)).fmod 2 = 0 <;> simp [hz]
theorem round_mem {t : Int} {q : Str × Str} {kv : List (Str × Str)} (h : q ∈ round t kv) : q ∈ kv := by
  unfold round at h
  rcases List.mem_append.mp h with h | h <;> exact (List.mem_filter.mp h).1
theorem roundsF_succ (i : Nat) (kv : List (Str × Str)) : roundsF (i + 1) kv = round (i : Nat) (roundsF i kv) := by
  simp [roundsF, List.range_succ]
theorem roundsF_mem : ∀ (i : Nat) {q : Str × Str} {kv : List (Str × Str)}, q ∈ roundsF i kv → q ∈ kv
  | 0, _, _, h => h
  | i + 1, _, _, h => by
    rw [roundsF_succ] at h
    exact roundsF_mem i (round_mem h)
theorem filter_items {f : Str → Bool} {g : Str × Str → Bool} : ∀ {kv : List (Str × Str)}, (∀ q ∈ kv, f (itemF q.1 0 q.2) = g q) → (items kv).filter f = items (kv.filter g)
  | [], _ => rfl
  | q :: r, h => by
    have ih := filter_items (f := f) (g := g) (kv := r) fun x hx => h x (.tail _ hx)
    have hq := h q (.head _)
    unfold items at ih ⊢
    rw [List.map_cons, List.filter_cons, List.filter_cons, hq, ih]
    cases g q <;> rfl
theorem round_items {i : Nat} {kv : List (Str × Str)} (hg : ∀ q ∈ kv, ∃ c, c ≠ 61 ∧ q.1 = ⟨#[c]⟩) : items (round (i : Nat) kv) = (items kv).filter (fun y => !prF i y) ++ (items kv).filter (prF i) := by
  rw [filter_items (g := fun q => !decide (digit (i : Nat) q.2 ≠ 0)) (fun q hq => by rw [prF_item (hg q hq)]; simp [bne]; rfl), filter_items (g := fun q => decide (digit (i : Nat) q.2 ≠ 0)) (fun q hq => by rw [prF_item (hg q hq)]; simp [bne]; rfl)]
  simp [round, items]
theorem round_len (t : Int) (kv : List (Str × Str)) : (round t kv).length = kv.length := by
  unfold round
  rw [List.length_append]
  induction kv with
  | nil => rfl
  | cons q r ih =>
    rw [List.filter_cons, List.filter_cons]
    cases decide (digit t q.2 ≠ 0) <;> simp at ih ⊢ <;> omega
theorem rounds_spec {l : Addr} {vs : List Value} {kv : List (Str × Str)} {Q E : Value → Shared → Prop} (O : Ok (n + 3) w p loose mean mg mb A base outer s.heap)
   (hb : base.get? 61 = none) (C : CodeHd base 65 61) (hS : TabSt s.heap)
   (hl : s.heap.IsList l vs.toArray) (hv : StrsAre vs (items kv)) (hsz : vs.length ≤ 100) (hg : ∀ q ∈ kv, (∃ c, c ≠ 61 ∧ q.1 = ⟨#[c]⟩) ∧ q.2.length ≤ 100)
   (h : ∀ R ys h' tk', (∀ b o, b ≠ 61 → s.heap.get? b = some o → h'.get? b = some o) → TabSt h' → h'.IsList R ys.toArray → StrsAre ys (items (round 2 (round 1 (round 0 kv)))) → Q (.ref R) { s with heap := h', toks := tk' }) :
   wpAny (model Challenge.rw_mq0130_01.row.prog w) A (call (.ref 73) [.ref l]) Q E s := by
  have h61 : ∃ ps, s.heap.get? 61 = some (tabObj ps) := by obtain ⟨ps, e, _⟩ := hS; exact ⟨ps, e⟩
  have X := O.X
  revert X
  k_fill
  intro X
  refine enterH [61] (fun b hb => by rw [List.mem_singleton.mp hb]; obtain ⟨ps, e⟩ := h61; exact ⟨_, e⟩) [(Str.ofString "row", .ref l)] O rfl rfl (BindsTo.of_eq rfl) rfl (by decide) (fun L h₁ fr hL hst hfr hfr2 F N => ?_)
  have st : base.StaysIn (hideAll s.heap [61]) := fun b o e => hideAll_get _ (O.B.stays b o e) fun hm => by
    rw [List.mem_singleton.mp hm, hb] at e; cases e
  have XH : (hd.heap_39 w.params).In (hideAll s.heap [61]) := O.XB.keeps st
  have TH : Top p loose mean mg mb (hideAll s.heap [61]) := O.TB.keeps st
  clear X
  show wpAny _ _ _ _ _ _
  k_fold
  k_steps
  (rename Fr _ _ _ _ => Fe); (rename News _ _ _ _ => Nw); (rename IsRange _ _ _ _ _ _ _ _ => Rg)
  obtain ⟨ps, e61, hps⟩ := hS
  have hfre : fr = [(61, tabObj ps)] := one_of hfr hfr2 e61
  subst hfre
  have hlH : (hideAll s.heap [61]).IsList l vs.toArray := by
    obtain ⟨o, e, hc, r⟩ := hl
    refine ⟨o, hideAll_get _ e (fun hm => ?_), hc, r⟩
    rw [List.mem_singleton.mp hm, e61] at e
    cases e
    cases hc
  refine loopRange3 (roundsJ (hideAll s.heap [61]) kv) O.hd Rg Fe Nw ⟨_, l, vs, roundsM rfl, hv, hsz, ?_, ?_⟩ ?_ ?_ ?_
  · intro q hq a b c
    rw [List.mem_singleton.mp hq]
    exact fun e => nomatch (congrArg Obj.cls e)
  · intro hp stp hn
    refine ⟨hlH.at fun o e => stp _ o e, ps, hn _ (.head _), ?_⟩
    rcases hps with e | ⟨c', h1, h2, c2, oc, ws, t, e, ho, d1, d2⟩
    · exact .inl e
    · cases e
      exact .inr ⟨c', h1, h2, c', oc, ws, t, rfl, stp _ _ (hideAll_get _ ho (fun hm => h1 (List.mem_singleton.mp hm))), d1, d2⟩
  · rintro i m news ⟨_, _, _, _, _, _, hcl, _⟩
    exact hcl
  · rintro i t m₁ news₁ hh tk own hi ⟨u, R, ws, rfl, hws, hwl, hcl, hall⟩ hown F₁ N₁
    have hst₁ : (hideAll s.heap [61]).StaysIn hh := F₁.keep
    obtain ⟨hR, hT⟩ := hall hh hst₁ (fun q hq => (N₁ q (List.mem_append_right _ hq)).1)
    clear Fe Nw Rg
    show wpAny _ _ _ _ _ _
    k_fold
    k_steps
    have hLs : s.heap.get? L = none := by
      cases q : s.heap.get? L with
      | none => rfl
      | some o => exact absurd (Heap.lt_size q) (hL ▸ Nat.lt_irrefl _)
    have hLb : base.get? L = none := by
      cases q : base.get? L with
      | none => rfl
      | some o => rw [O.B.stays _ _ q] at hLs; cases hLs
    have inner : ∀ (nm : Str) (sc : Scope) (_ : sc.kind = .function) (h₂ : Heap) (m₂ : Str → Option Value), Fr (hideAll s.heap [61]) L h₂ m₂ → Ok (n + 2) w p loose mean mg mb (A.deeper (envOf nm sc L 73 (.ref 72))) base (envOf nm sc L 73 (.ref 72) :: outer) h₂ := fun nm sc hk h₂ m₂ F₂ =>
      O.inner (fun b o e => F₂.keep b o (st b o e)) F₂.ns hLb (fun b o e hne => ⟨o, F₂.keep b o (hideAll_get _ e (fun hm => by
        rw [List.mem_singleton.mp hm, e61] at e
        cases e
        exact hne _ rfl)), rfl⟩) hk
    refine figure_spec (inner _ _ rfl _ _ F₁) hb C hT ⟨by omega, by omega⟩ fun f ks h₂ tk₂ st₂ T₂ hks hpre => ?_
    have hL61 : L ≠ 61 := by rintro rfl; rw [e61] at hLs; cases hLs
    have F₂ : Fr (hideAll s.heap [61]) L h₂ _ := ⟨F₁.ns.at' fun o e => st₂ _ o hL61 e, fun b o e => st₂ b o (fun q => by rw [q, hideAll_none _ (.head _)] at e; cases e) (F₁.keep b o e), F₁.above⟩
    k_steps
    have hksT : ∀ h' : Heap, h₂.StaysIn h' → ∀ q ∈ ks, h'.get? q.1 = some q.2 := fun h' sh q hq => sh _ _ (hks q hq).1
    have hR₂ : h₂.IsList R ws.toArray := by
      obtain ⟨o, e, r⟩ := hR
      refine ⟨o, st₂ _ o (fun q => ?_) e, r⟩
      obtain ⟨ps', e', _⟩ := hT
      rw [q, e'] at e
      cases e
      cases r.1
    refine split_spec (n := n + 1) (t1 := t) [] (prF i) (inner _ _ rfl _ _ F₂) (fun _ hm => nomatch hm) (fun _ hm => nomatch hm) (fun hm => nomatch hm) hR₂ hws hwl ?_ ?_ fun D Y N ys ns h₃ tk₃ T₃ hYf hNf _ hYN hD hY hN hys hns => ?_
    · intro h' sh
      exact keeps_F h' ((hpre 0).fn h' (hksT h' sh))
    · intro L' env' s' y ty Q' E' _ _ O' sh hy hQ'
      obtain ⟨q, hq, rfl⟩ := List.mem_map.mp hy
      obtain ⟨hgk, hgv⟩ := hg q (roundsF_mem i hq)
      refine (hpre n).run _ _ _ _ q.1 q.2 ty Q' E' O' (hksT _ sh) hgk hgv fun h' tk' t' sh' => hQ' _ _ _ (Turned.of_stays sh') ?_
      intro prog w A Q E s hq'
      refine truthy_int ?_
      rw [prF_item hgk] at hq'
      exact hq'
    · have F₃ := F₂.keeps T₃.stays
      obtain ⟨ps₂, e₂, hp₂⟩ := T₂
      obtain ⟨oY, eY, cY, nY, dY⟩ := hY
      obtain ⟨oN, eN, cN, nN, dN⟩ := hN
      have fresh : ∀ b, h₂.get? b = none → (hideAll s.heap [61]).get? b = none := fun b e => by
        cases q : (hideAll s.heap [61]).get? b with
        | none => rfl
        | some o => rw [F₂.keep _ _ q] at e; cases e
      have neL : ∀ b, h₂.get? b = none → b ≠ L := fun b e q => by
        obtain ⟨_, _, _, e', _⟩ := F₂.ns
        rw [← q, e] at e'
        cases e'
      obtain ⟨ex, hexN, hexI, hexT⟩ : ∃ ex : List (Addr × Obj), News (hideAll s.heap [61]) L h₂ ex ∧ (∀ q ∈ ex, ∀ a b c, q.2 ≠ itObj a b c) ∧ (∀ h : Heap, (hideAll s.heap [61]).StaysIn h → (∀ q ∈ ex, h.get? q.1 = some q.2) → h.get? 61 = some (tabObj ps₂) → TabSt h) := by
        rcases hp₂ with e | ⟨c', h1, h2, c2, oc, zs, t', e, ho, d1, d2⟩
        · exact ⟨[], News.nil, (fun _ hm => nomatch hm), fun h _ _ hg => ⟨_, hg, .inl e⟩⟩
        · cases e
          cases z : (hideAll s.heap [61]).get? c' with
          | some o =>
            have : o = oc := by have := F₂.keep _ _ z; rw [ho] at this; exact (Option.some.inj this).symm
            subst this
            exact ⟨[], News.nil, (fun _ hm => nomatch hm), fun h sh _ hg => ⟨_, hg, .inr ⟨c', h1, h2, c', o, zs, t', rfl, sh _ _ z, d1, d2⟩⟩⟩
          | none =>
            refine ⟨[(c', oc)], fun q hq => ?_, fun q hq a b c e => ?_, fun h sh hx hg => ⟨_, hg, .inr ⟨c', h1, h2, c', oc, zs, t', rfl, hx _ (.head _), d1, d2⟩⟩⟩
            · rw [List.mem_singleton.mp hq]
              refine ⟨ho, fun e => ?_, z⟩
              obtain ⟨o', es, ep, e', hd', _⟩ := F₂.ns
              rw [← show c' = L from e, ho] at e'
              cases e'
              rw [hd'] at d1
              cases d1
            · rw [List.mem_singleton.mp hq] at e
              dsimp only at e
              rw [e] at d1
              cases d1
              cases d2
      have own61 : ∀ q ∈ own, q.1 ≠ 61 := fun q hq e => by
        obtain ⟨ps', e', _⟩ := hT
        obtain ⟨a, b, c, ho⟩ := hown q hq
        have := (N₁ q (List.mem_append_left _ hq)).1
        rw [e, e', ho] at this
        exact nomatch (congrArg Obj.cls (Option.some.inj this))
      have N₃ : News (hideAll s.heap [61]) L h₃ ([(Y, oY), (N, oN), (61, tabObj ps₂)] ++ (ex ++ own)) := by
        intro q hq
        rcases List.mem_append.mp hq with hq | hq
        · simp only [List.mem_cons, List.not_mem_nil, or_false] at hq
          rcases hq with rfl | rfl | rfl
          · exact ⟨eY, neL _ hYf, fresh _ hYf⟩
          · exact ⟨eN, neL _ hNf, fresh _ hNf⟩
          · exact ⟨T₃.stays _ _ e₂, hL61.symm, hideAll_none _ (.head _)⟩
        · rcases List.mem_append.mp hq with hq | hq
          · exact ⟨T₃.stays _ _ (hexN q hq).1, (hexN q hq).2⟩
          have x := N₁ q (List.mem_append_left _ hq)
          exact ⟨T₃.stays _ _ (st₂ _ _ (own61 q hq) x.1), x.2⟩
      refine unpackN_ F₃ N₃ hD O.hd rfl rfl (fun h₄ F₄ N₄ => ?_)
      clear N₁ F₁ F₂ F₃ N₃ T₃
      k_steps
      (rename Fr _ _ _ _ => F₅); (rename News _ _ _ _ => N₅)
      have hyl : ys.length ≤ 100 := by have := hys.len_eq; have := hws.len_eq; have := List.length_filter_le (prF i) (items (roundsF i kv)); omega
      have hnl : ns.length ≤ 100 := by have := hns.len_eq; have := hws.len_eq; have := List.length_filter_le (fun y => !prF i y) (items (roundsF i kv)); omega
      refine add_lists F₅ N₅ (vs := ns) (ws := ys) ⟨oN, (N₅ (N, oN) (by simp)).1, cN, nN, dN⟩ ⟨oY, (N₅ (Y, oY) (by simp)).1, cY, nY, dY⟩ (fun h₆ F₆ N₆ => ?_) (Nat.le_trans (by omega : _ ≤ 200) (by decide))
      clear F₅ N₅
      k_steps
      (rename Fr _ _ _ _ => F₇); (rename News _ _ _ _ => N₇)
      generalize hRR : Array.size _ = RR at F₇ N₇
      have r61 := (N₇ (61, tabObj ps₂) (by simp)).1
      refine ⟨rfl, _, _, _, (RR, { cls := .type "list", data := .seq (ns ++ ys).toArray }) :: (61, tabObj ps₂) :: ex, rfl, F₇, fun q hq => N₇ q ?_, _, RR, ns ++ ys, roundsM rfl, ?_, ?_, ?_, ?_⟩
      · simp only [List.mem_append, List.mem_cons] at hq ⊢
        rcases hq with hq | hq | hq | hq <;> simp [hq]
      · rw [roundsF_succ, round_items (fun q hq => (hg q (roundsF_mem i hq)).1)]
        exact hns.append' hys
      · have e1 := (hns.append' hys).len_eq
        rw [← round_items (fun q hq => (hg q (roundsF_mem i hq)).1)] at e1
        have e2 := hws.len_eq
        have e3 := round_len (i : Nat) (roundsF i kv)
        simp only [items, List.length_map] at e1 e2
        omega
      · intro q hq a b c
        rcases List.mem_cons.mp hq with rfl | hq
        · exact fun e => absurd (congrArg Obj.cls e) (by simp [itObj])
        · rcases List.mem_cons.mp hq with rfl | hq
          · exact fun e => nomatch (congrArg Obj.cls e)
          · exact hexI q hq a b c
      · intro hp sp hn
        exact ⟨⟨_, hn _ (.head _), rfl, _, rfl⟩, hexT hp sp (fun q hq => hn q (.tail _ (.tail _ hq))) (hn _ (.tail _ (.head _)))⟩
  · rintro m₁ news₁ hh tk ⟨u, R, ws, rfl, hws, hwl, hcl, hall⟩ F₁ N₁
    obtain ⟨hR, hT⟩ := hall hh F₁.keep (fun q hq => (N₁ q hq).1)
    show wpAny _ _ _ _ _ _
    k_steps
    refine h R ws _ _ (fun b o hb e => F₁.keep b o (hideAll_get _ e (fun hm => hb (List.mem_singleton.mp hm)))) hT hR ?_
    exact hws
end
end Mine

-- part L1
namespace Mine

def lawStmt : Stmt := Challenge.pw_mq0130_01.main.body.getD 12 (.Pass ⟨0,0,0,0⟩)
def lawBody : List Stmt := match lawStmt with | .FunctionDef _ _ b _ _ _ _ _ _ _ => b | _ => []
def lawScope : Scope := match lawStmt with | .FunctionDef _ _ _ _ _ _ s _ _ _ => s | _ => default
abbrev lawEnv (L fa : Addr) (cd : Value) : Env := envOfC (Str.ofString "law") lawScope L fa cd
def stm (i : Nat) : Stmt := lawBody.getD i (.Pass ⟨0,0,0,0⟩)

/-- what the law's call stands on -/
structure Amb (w : World) (p : Program) (loose : List Str) (mean : ExcName → Option Value) (mg mb : Str → Option Value) (G : Heap) : Prop where
  X : (hd.heap_39 w.params).In G
  T : Top p loose mean mg mb G
  h61 : G.get? 61 = none
  code : CodeHd G 65 61

/-- all stands, but what stands at xs -/
def Move (xs : List Addr) (h h' : Heap) : Prop := ∀ b o, b ∉ xs → h.get? b = some o → h'.get? b = some o
theorem Move.refl {xs : List Addr} {h : Heap} : Move xs h h := fun _ _ _ e => e
theorem Move.trans {xs : List Addr} {a b c : Heap} (x : Move xs a b) (y : Move xs b c) : Move xs a c := fun q o hq e => y q o hq (x q o hq e)
theorem Move.of_stays {xs : List Addr} {a b : Heap} (x : a.StaysIn b) : Move xs a b := fun q o _ e => x q o e

structure LawSt (G : Heap) (L : Addr) (h : Heap) (m : Str → Option Value) (ce cd : Option Value) : Prop where
  F : Fr G L h m
  ce : ∃ o, h.get? (L + 1) = some o ∧ o.data = .cell ce
  cd : ∃ o, h.get? (L + 1 + 1) = some o ∧ o.data = .cell cd
  tab : TabSt h

abbrev frees (L : Addr) : List Addr := [L, 61, L + 1, L + 1 + 1]

section
variable {n : Nat} {w : World} {p : Program} {loose : List Str} {mean : ExcName → Option Value} {mg mb : Str → Option Value} {G h h' : Heap} {L fa : Addr} {cd : Value} {m : Str → Option Value} {ce dv : Option Value}
theorem LawSt.off (S : LawSt G L h m ce dv) {a : Addr} {o : Obj} (e : h.get? a = some o) {xs : Array Value} {n : Nat} (hd : o.data = .seq xs n) : a ∉ frees L := by
  intro hm
  simp only [List.mem_cons, List.not_mem_nil, or_false] at hm
  rcases hm with rfl | rfl | rfl | rfl
  · obtain ⟨o', es, ep, e', hd', _⟩ := S.F.ns
    rw [e] at e'; cases e'; rw [hd] at hd'; cases hd'
  · obtain ⟨ps, e', _⟩ := S.tab
    rw [e] at e'; cases e'; cases hd
  · obtain ⟨o', e', hd'⟩ := S.ce
    rw [e] at e'; cases e'; rw [hd] at hd'; cases hd'
  · obtain ⟨o', e', hd'⟩ := S.cd
    rw [e] at e'; cases e'; rw [hd] at hd'; cases hd'
theorem LawSt.list (S : LawSt G L h m ce dv) {a : Addr} {xs : Array Value} (x : h.IsList a xs) (M : Move (frees L) h h') : h'.IsList a xs := by
  obtain ⟨o, e, hc, n, hd⟩ := x
  exact ⟨o, M a o (S.off e hd) e, hc, n, hd⟩
theorem LawSt.tup (S : LawSt G L h m ce dv) {a : Addr} {xs : Array Value} (x : IsTup h a xs) (M : Move (frees L) h h') : IsTup h' a xs := by
  obtain ⟨o, e, hc, n, hd⟩ := x
  exact ⟨o, M a o (S.off e hd) e, hc, n, hd⟩
theorem LawSt.news (S : LawSt G L h m ce dv) : ∃ od oe, News G L h [(L + 1 + 1, od), (L + 1, oe)] ∧ od.data = .cell dv ∧ oe.data = .cell ce := by
  obtain ⟨oe, e1, d1⟩ := S.ce
  obtain ⟨od, e2, d2⟩ := S.cd
  refine ⟨od, oe, fun q hq => ?_, d2, d1⟩
  have ab := S.F.above
  simp only [List.mem_cons, List.not_mem_nil, or_false] at hq
  rcases hq with rfl | rfl
  · exact ⟨e2, Nat.ne_of_gt (Nat.lt_succ_of_lt (Nat.lt_succ_self _)), Heap.get?_none_of_le (Nat.le_trans ab (Nat.le_succ_of_le (Nat.le_succ _)))⟩
  · exact ⟨e1, Nat.ne_of_gt (Nat.lt_succ_self _), Heap.get?_none_of_le (Nat.le_trans ab (Nat.le_succ _))⟩
theorem ok_of (B : Amb w p loose mean mg mb G) (F : Fr G L h m) : Ok 20 w p loose mean mg mb (callerA.deeper (lawEnv L fa cd)) G [lawEnv L fa cd] h := by
  have K := pushX (env := lawEnv L fa cd) (below_caller G) F rfl rfl
  refine ⟨B.X, B.T, rfl, by show callerA.depth + 1 + 20 < _; decide, by show callerA.units + 3 + 20 * 20 + 20 < _; decide, K, ?_⟩
  exact dicts_cons (fs := []) (fun _ hm => nomatch hm) F.ns
/-- the state of the law after a step that has kept all that was -/
theorem LawSt.next (S : LawSt G L h m ce dv) {m' : Str → Option Value} (F : Fr G L h' m') (k : ∀ b o, b ≠ L → h.get? b = some o → h'.get? b = some o) : LawSt G L h' m' ce dv := by
  obtain ⟨oe, e1, d1⟩ := S.ce
  obtain ⟨od, e2, d2⟩ := S.cd
  refine ⟨F, ⟨oe, k _ _ (Nat.ne_of_gt (Nat.lt_succ_self _)) e1, d1⟩, ⟨od, k _ _ (Nat.ne_of_gt (Nat.lt_succ_of_lt (Nat.lt_succ_self _))) e2, d2⟩, ?_⟩
  obtain ⟨ps, e, hp⟩ := S.tab
  refine ⟨ps, k _ _ ?_ e, ?_⟩
  · rintro rfl
    obtain ⟨o', es, ep, e', hd', _⟩ := S.F.ns
    rw [e] at e'; cases e'; cases hd'
  · rcases hp with hp | ⟨c', h1, h2, c2, oc, vs, t, e3, ho, d1, d2⟩
    · exact .inl hp
    · cases e3
      refine .inr ⟨c', h1, h2, c', oc, vs, t, rfl, k _ _ ?_ ho, d1, d2⟩
      rintro rfl
      obtain ⟨o', es, ep, e', hd', _⟩ := S.F.ns
      rw [ho] at e'; cases e'; rw [hd'] at d1; cases d1
end

/-- an entry's tuple -/
def EntAt (h : Heap) (v : Value) (e : Ent) : Prop := ∃ T t2 t3 t4, v = .ref T ∧ IsTup h T #[.str e.key t2, .int e.size t3, .str e.val t4]
def EntsAt (h : Heap) (vs : List Value) (es : List Ent) : Prop := Paired (fun v e => EntAt h v e) vs es
theorem EntsAt.move {G h h' : Heap} {L : Addr} {m : Str → Option Value} {ce dv : Option Value} (S : LawSt G L h m ce dv) (M : Move (frees L) h h') {vs : List Value} {es : List Ent} (x : EntsAt h vs es) : EntsAt h' vs es :=
  x.mono fun v e ⟨T, t2, t3, t4, hv, ht⟩ => ⟨T, t2, t3, t4, hv, S.tup ht M⟩

section
variable {prog : Program} {w : World} {A : Around} {E : Value → Shared → Prop} {env : Env}
def ListPost (prog : Program) (w : World) (A : Around) (env : Env) (target elt : Expr) (ifs : List Expr) (scope : Scope) (cl : List (Str × Addr)) (R : Nat → Value → Heap → Prop) (Q : Value → Shared → Prop) (xv : Value) (s₁ : Shared) : Prop :=
  ∃ l items pr B, xv = .ref l ∧ s₁.heap.IsList l items ∧ items.size ≤ 1000 ∧
      (∀ (i : Nat) (v : Value), items[i]? = some v → (∃ x p, target = .Name x p) ∨ ((∃ es k p, target = .Tuple es k p) ∧ ∃ T, v = .ref T)) ∧ ListTurns prog w A env target elt ifs scope cl pr B R items s₁ ∧
      ∀ D h tk ys, s₁.heap.get? D = none → h.PlainList D ys → Paired (fun i y => R i y h) ((List.range items.size).filter pr) ys.toList → s₁.heap.StaysIn h → Q (.ref D) { s₁ with heap := h, toks := tk }
def ListPostA (prog : Program) (w : World) (A : Around) (env : Env) (target elt : Expr) (ifs : List Expr) (scope : Scope) (cl : List (Str × Addr)) (y : Str) (R : Nat → Value → Heap → Prop) (Q : Flow → Shared → Prop) (xv : Value) (s₁ : Shared) : Prop :=
  ∃ l items pr B, xv = .ref l ∧ s₁.heap.IsList l items ∧ items.size ≤ 1000 ∧ 
      (∀ (i : Nat) (v : Value), items[i]? = some v → (∃ x p, target = .Name x p) ∨ ((∃ es k p, target = .Tuple es k p) ∧ ∃ T, v = .ref T)) ∧ ListTurns prog w A env target elt ifs scope cl pr B R items s₁ ∧
      ∃ m, s₁.heap.Ns env.locals m ∧ ∀ D h tk ys, s₁.heap.get? D = none → h.PlainList D ys → Paired (fun i y => R i y h) ((List.range items.size).filter pr) ys.toList → h.Ns env.locals (fun z => if z = y then some (.ref D) else m z) →
        (∀ b o, b ≠ env.locals → s₁.heap.get? b = some o → h.get? b = some o) → Q .next { s₁ with heap := h, toks := tk }
/-- a list comprehension over a list that is known only when the source has been asked -/
theorem lcListX {elt target iter : Expr} {ifs : List Expr} {scope : Scope} {cl : List (Str × Addr)} {pos : Pos} {s : Shared} {Q : Value → Shared → Prop} (R : Nat → Value → Heap → Prop)
    (hh : A.handled = none)
    (hmono : ∀ i y h h', (∀ a items, IsTup h a items → IsTup h' a items) → R i y h → R i y h')
    (hclos : closureFor scope env = pure cl) (hcell : ∀ y ∈ scope.names, y.2 ≠ .cell) (hkind : scope.kind = .function) (hnames : ∀ y ∈ scope.names, y.2 = .local → scope.names.lookup y.1 = some .local)
    (h : wpAny (model prog w) A (eval iter env) (ListPost prog w A env target elt ifs scope cl R Q) E s)
    (hs : ∀ x, foldedSetIterable iter env x = pure x := by intro _; rfl) :
    wpAny (model prog w) A (eval (.ListComp elt [⟨target, iter, ifs, 0⟩] scope pos) env) Q E s := by
  rw [eval_ListComp]
  refine wpAny_comprehension_free (use := none) rfl hs hclos hkind hnames (wpAny_mono h (fun xv s₁ h₁ => ?_) fun _ _ e => e)
  obtain ⟨l, items, pr, B, rfl, hl, hsz, ht, T, fin⟩ := h₁
  refine lcBlock (RR := fun acc C => compPost (model prog w) A E none Q acc C) hh hl hsz hmono hcell hkind ht T ?_
  intro D C h tk m ys hD hC hDC hm hl' hP hS
  refine ⟨m, hm, fun h'' hs'' => fin D h'' tk ys hD (hl'.extBut hs''.extBut hDC) (Paired.monoH (fun i y => hmono i y _ _ fun a its ht => ?_) hP) fun b o e => hs''.extBut b o (by rintro rfl; rw [hC] at e; cases e) (hS b o e)⟩
  obtain ⟨o, e, hc, nn, hd⟩ := ht
  refine ⟨o, hs''.extBut a o (fun q => ?_) e, hc, nn, hd⟩
  obtain ⟨o', es, ep, e', hd', _⟩ := hm
  rw [q, e'] at e
  cases e
  rw [hd'] at hd
  cases hd

theorem lcListAssignX {elt target iter : Expr} {ifs : List Expr} {scope : Scope} {cl : List (Str × Addr)} {pos spos py : Pos} {y : Str} {s : Shared} {Q : Flow → Shared → Prop} (R : Nat → Value → Heap → Prop)
    (hsw : swapsWith (.ListComp elt [⟨target, iter, ifs, 0⟩] scope pos) (some (.Name y py)) spos.line env = pure true)
    (hy : env.kindOf y = some .local) (hp : (env.scope.kind == .class || (env.scope.kind == .module && env.locals != env.globals)) = false)
    (hh : A.handled = none)
    (hmono : ∀ i y h h', (∀ a items, IsTup h a items → IsTup h' a items) → R i y h → R i y h')
    (hclos : closureFor scope env = pure cl) (hcell : ∀ y ∈ scope.names, y.2 ≠ .cell) (hkind : scope.kind = .function) (hnames : ∀ y ∈ scope.names, y.2 = .local → scope.names.lookup y.1 = some .local)
    (h : wpAny (model prog w) A (eval iter env) (ListPostA prog w A env target elt ifs scope cl y R Q) E s)
    (hs : ∀ x, foldedSetIterable iter env x = pure x := by intro _; rfl) :
    wpAny (model prog w) A (exec (.Assign [.Name y py] (.ListComp elt [⟨target, iter, ifs, 0⟩] scope pos) spos) env) Q E s := by
  rw [exec_Assign_Name_used _ _ _ _ hsw]
  refine wpAny_bind (wpAny_standAt (wpAny_bind ?_))
  show wpAny _ A (do let _ ← comprehension (.ListComp elt [⟨target, iter, ifs, 0⟩] scope pos) scope env _ (newList []) false (eval iter env) (some (assign (.Name y py) env))) _ _ s
  refine wpAny_bind (wpAny_mono (wpAny_comprehension_free (use := some (assign (.Name y py) env)) (Q := fun _ s' => Q .next s') rfl hs hclos hkind hnames
    (wpAny_mono h (fun xv s₁ h₁ => ?_) fun _ _ e => e)) (fun _ s' hq => wpAny_pure (wpAny_pure hq)) fun _ _ e => e)
  obtain ⟨l, items, pr, B, rfl, hl, hsz, ht, T, m₀, hn, fin⟩ := h₁
  refine lcBlock (RR := fun acc C => compPost (model prog w) A E (some (assign (.Name y py) env)) (fun _ s' => Q .next s') acc C) hh hl hsz hmono hcell hkind ht T ?_
  intro D C h tk m ys hD hC hDC hm hl' hP hS
  have hLC : env.locals ≠ C := by rintro rfl; obtain ⟨o, _, _, ho, _⟩ := hn; rw [hC] at ho; cases ho
  have hLD : env.locals ≠ D := by rintro rfl; obtain ⟨o, _, _, ho, _⟩ := hn; rw [hD] at ho; cases ho
  show wpAny _ A (assign (.Name y py) env (.ref D)) _ _ _
  refine wpAny_assign_Name (wpAny_storeName_local hy (hn.at' fun o e => hS _ o e) (fun h₂ hn₂ hs₂ => ?_) hp)
  refine ⟨m, hm.sameBut hs₂ (Ne.symm hLC), fun h₃ hs₃ => ?_⟩
  have notDict : ∀ {h h' : Heap} {c : Addr} {mm : Str → Option Value} {a : Addr} {its : Array Value}, h.Ns c mm → (∀ b o, b ≠ c → h.get? b = some o → h'.get? b = some o) → IsTup h a its → IsTup h' a its := fun {h h' c mm a its} hn hk ht => by
    obtain ⟨o, e, hc, nn, hd⟩ := ht
    refine ⟨o, hk a o (fun q => ?_) e, hc, nn, hd⟩
    obtain ⟨o', es, ep, e', hd', _⟩ := hn
    rw [q, e'] at e
    cases e
    rw [hd'] at hd
    cases hd
  refine fin D h₃ _ ys hD ((hl'.extBut hs₂.extBut (Ne.symm hLD)).extBut hs₃.extBut hDC) (Paired.monoH (fun i z => hmono i z _ _ fun a its ht => ?_) hP) (hn₂.sameBut hs₃ hLC) fun b o hbL e =>
    hs₃.extBut b o (by rintro rfl; rw [hC] at e; cases e) (hs₂.extBut b o hbL (hS b o e))
  exact notDict (hm.sameBut hs₂ (Ne.symm hLC)) (fun b o q e => hs₃.extBut b o q e) (notDict (hn.at' fun o e => hS _ o e) (fun b o q e => hs₂.extBut b o q e) ht)
end

section
variable {M : Model} {A : Around} {E : Value → Shared → Prop} {s : Shared} {G h : Heap} {L fa : Addr} {cd : Value} {m : Str → Option Value} {ce dv : Option Value} {v : Value} {tk : Nat} {Q : Unit → Shared → Prop}
theorem LawSt.touch (S : LawSt G L h m ce dv) {c : Addr} (hc : c = L + 1 ∨ c = L + 1 + 1) {h' : Heap} (hs : Heap.SameBut c h h') {cv : Option Value} (hv : h'.IsCell c cv) :
    LawSt G L h' m (if c = L + 1 then cv else ce) (if c = L + 1 then dv else cv) := by
  obtain ⟨oe, e1, d1⟩ := S.ce
  obtain ⟨od, e2, d2⟩ := S.cd
  obtain ⟨o, eo, dO⟩ := hv
  have hcell : ∃ oc cc, h.get? c = some oc ∧ oc.data = .cell cc := by
    rcases hc with rfl | rfl
    · exact ⟨oe, _, e1, d1⟩
    · exact ⟨od, _, e2, d2⟩
  obtain ⟨oc, cc, eoc, doc⟩ := hcell
  have hLc : L ≠ c := by
    rcases hc with rfl | rfl
    · exact Nat.ne_of_lt (Nat.lt_succ_self _)
    · exact Nat.ne_of_lt (Nat.lt_succ_of_lt (Nat.lt_succ_self _))
  have hG : G.get? c = none := Heap.get?_none_of_le (by
    have := S.F.above
    rcases hc with rfl | rfl
    · exact Nat.le_trans this (Nat.le_succ _)
    · exact Nat.le_trans this (Nat.le_succ_of_le (Nat.le_succ _)))
  have F' : Fr G L h' m := ⟨S.F.ns.sameBut hs hLc, fun b x e => (hs.2 b (fun q => by rw [q, hG] at e; cases e)).trans (S.F.keep b x e), S.F.above⟩
  refine ⟨F', ?_, ?_, ?_⟩
  · by_cases q : c = L + 1
    · subst q; rw [if_pos rfl]; exact ⟨o, eo, dO⟩
    · rw [if_neg q]; exact ⟨oe, (hs.2 _ (fun z => q z.symm)).trans e1, d1⟩
  · by_cases q : c = L + 1
    · subst q; rw [if_pos rfl]; exact ⟨od, (hs.2 _ (Nat.ne_of_gt (Nat.lt_succ_self _))).trans e2, d2⟩
    · rw [if_neg q]
      have : c = L + 1 + 1 := hc.resolve_left q
      subst this
      exact ⟨o, eo, dO⟩
  · obtain ⟨ps, e, hp⟩ := S.tab
    refine ⟨ps, (hs.2 _ ?_).trans e, ?_⟩
    · rintro rfl
      rw [e] at eoc; cases eoc; cases doc
    · rcases hp with hp | ⟨c', h1, h2, c2, oc', vs, t, e3, ho, d1, d2⟩
      · exact .inl hp
      · cases e3
        refine .inr ⟨c', h1, h2, c', oc', vs, t, rfl, (hs.2 _ ?_).trans ho, d1, d2⟩
        rintro rfl
        rw [ho] at eoc; cases eoc; rw [doc] at d1; cases d1
theorem LawSt.storeE (S : LawSt G L h m ce dv) (k : ∀ h', LawSt G L h' m (some v) dv → Move (frees L) h h' → Q () { s with heap := h', toks := tk }) :
    wpAny M A (storeName (lawEnv L fa cd) (Str.ofString "entries") v) Q E { s with heap := h, toks := tk } := by
  obtain ⟨oe, e1, d1⟩ := S.ce
  refine wpAny_storeName_cell (c := L + 1) rfl rfl rfl ⟨oe, e1, d1⟩ fun h' hv hs => ?_
  have := S.touch (.inl rfl) hs hv
  rw [if_pos rfl, if_pos rfl] at this
  exact k h' this fun b o hb e => (hs.2 b (fun q => hb (by simp [q]))).trans e
theorem LawSt.storeD (S : LawSt G L h m ce dv) (k : ∀ h', LawSt G L h' m ce (some v) → Move (frees L) h h' → Q () { s with heap := h', toks := tk }) :
    wpAny M A (storeName (lawEnv L fa cd) (Str.ofString "due") v) Q E { s with heap := h, toks := tk } := by
  obtain ⟨oe, e1, d1⟩ := S.cd
  refine wpAny_storeName_cell (c := L + 1 + 1) rfl rfl rfl ⟨oe, e1, d1⟩ fun h' hv hs => ?_
  have := S.touch (.inr rfl) hs hv
  rw [if_neg (Nat.ne_of_gt (Nat.lt_succ_self _)), if_neg (Nat.ne_of_gt (Nat.lt_succ_self _))] at this
  exact k h' this fun b o hb e => (hs.2 b (fun q => hb (by simp [q]))).trans e
end

section
variable {G h : Heap} {L : Addr} {m : Str → Option Value} {ce dv : Option Value}
/-- all that the heap holds beside the ground and the frame, as a ledger -/
theorem LawSt.all (S : LawSt G L h m ce dv) : ∃ od oe rest, News G L h ((L + 1 + 1, od) :: (L + 1, oe) :: rest) ∧ od.data = .cell dv ∧ oe.data = .cell ce ∧
    ∀ h' : Heap, G.StaysIn h' → (∀ q ∈ (L + 1 + 1, od) :: (L + 1, oe) :: rest, h'.get? q.1 = some q.2) → ∀ b o, b ≠ L → h.get? b = some o → h'.get? b = some o := by
  obtain ⟨od, oe, N, hd, he⟩ := S.news
  let rest : List (Addr × Obj) := (List.range h.objs.size).filterMap fun b => if b = L ∨ (G.get? b).isSome = true then none else (h.get? b).map fun o => (b, o)
  have mem : ∀ q, q ∈ rest ↔ (h.get? q.1 = some q.2 ∧ q.1 ≠ L ∧ G.get? q.1 = none) := fun q => by
    show q ∈ List.filterMap _ _ ↔ _
    rw [List.mem_filterMap]
    constructor
    · rintro ⟨b, hb, e⟩
      by_cases c : b = L ∨ (G.get? b).isSome = true
      · rw [if_pos c] at e; cases e
      · rw [if_neg c] at e
        obtain ⟨o, eo, rfl⟩ := Option.map_eq_some_iff.mp e
        refine ⟨eo, fun z => c (.inl z), ?_⟩
        cases z : G.get? b with
        | none => rfl
        | some _ => exact absurd (.inr (by rw [z]; rfl)) c
    · rintro ⟨e, h1, h2⟩
      refine ⟨q.1, List.mem_range.mpr (Heap.lt_size e), ?_⟩
      rw [if_neg (by rintro (z | z); exact h1 z; rw [h2] at z; cases z), e]
      rfl
  refine ⟨od, oe, rest, fun q hq => ?_, hd, he, fun h' hG hq b o hb e => ?_⟩
  · rcases List.mem_cons.mp hq with rfl | hq
    · exact N _ (.head _)
    rcases List.mem_cons.mp hq with rfl | hq
    · exact N _ (.tail _ (.head _))
    · obtain ⟨e, h1, h2⟩ := (mem q).mp hq
      exact ⟨e, h1, h2⟩
  · cases z : G.get? b with
    | some o' =>
      have := S.F.keep _ _ z
      rw [e] at this
      cases this
      exact hG _ _ z
    | none => exact hq (b, o) (.tail _ (.tail _ ((mem (b, o)).mpr ⟨e, hb, z⟩)))
end
end Mine

-- part L2
namespace Mine
theorem paired_pick' {R' : Ent → Value → Prop} {p : Ent → Bool} {pr : Nat → Bool} {full : List Ent} (hpr : ∀ i e, full[i]? = some e → pr i = p e) : ∀ (es : List Ent) (k : Nat) (ys : List Value), (∀ i, full[k + i]? = es[i]?) →
    Paired (fun i y => ∀ e, full[i]? = some e → R' e y) ((List.range' k es.length).filter pr) ys → Paired R' (es.filter p) ys
  | [], k, ys, _, h => by
    cases h
    exact .nil
  | e :: r, k, ys, hk, h => by
    have e0 : full[k]? = some e := by simpa using hk 0
    have hr : ∀ i, full[k + 1 + i]? = r[i]? := fun i => by
      have := hk (i + 1)
      rw [show k + 1 + i = k + (i + 1) by omega]
      simpa using this
    rw [List.length_cons, List.range'_succ, List.filter_cons] at h
    rw [List.filter_cons, ← hpr k e e0]
    cases hp : pr k with
    | false =>
      rw [hp] at h
      simp only [Bool.false_eq_true, if_false] at h ⊢
      exact paired_pick' hpr r (k + 1) ys hr h
    | true =>
      rw [hp] at h
      simp only [if_true] at h ⊢
      cases h with
      | cons h1 h2 => exact .cons (h1 e e0) (paired_pick' hpr r (k + 1) _ hr h2)
theorem paired_pick {R' : Ent → Value → Prop} {p : Ent → Bool} {pr : Nat → Bool} {es : List Ent} {n : Nat} (hn : n = es.length) (hpr : ∀ i e, es[i]? = some e → pr i = p e) {ys : List Value}
    (h : Paired (fun i y => ∀ e, es[i]? = some e → R' e y) ((List.range n).filter pr) ys) : Paired R' (es.filter p) ys := by
  subst hn
  rw [List.range_eq_range'] at h
  exact paired_pick' hpr es 0 ys (fun i => by rw [Nat.zero_add]) h
theorem strs_paired {f : Ent → Str} : ∀ {es : List Ent} {ys : List Value}, Paired (fun e y => ∃ t, y = Value.str (f e) t) es ys → StrsAre ys (es.map f)
  | _, _, .nil => .nil
  | _, _, .cons ⟨t, h⟩ r => by rw [h]; exact .cons _ t (strs_paired r)
theorem strs_values : ∀ {ys : List Value} {ws : List Str}, StrsAre ys ws → ∃ l : List (Str × Tok), ys = strValues l ∧ l.map (·.1) = ws
  | _, _, .nil => ⟨[], rfl, rfl⟩
  | _, _, .cons y t r => by
    obtain ⟨l, h1, h2⟩ := strs_values r
    exact ⟨(y, t) :: l, by rw [h1]; rfl, by simp [h2]⟩
theorem ents_item {h : Heap} : ∀ {vs : List Value} {es : List Ent}, EntsAt h vs es → ∀ (i : Nat) (v : Value), vs[i]? = some v → ∃ e, es[i]? = some e ∧ EntAt h v e
  | _, _, .nil, i, v, h => by simp at h
  | _, _, .cons a r, 0, v, h => by
    simp only [List.getElem?_cons_zero, Option.some.injEq] at h
    subst h
    exact ⟨_, rfl, a⟩
  | _, _, .cons a r, i + 1, v, h => by
    obtain ⟨e, h1, h2⟩ := ents_item r i v (by simpa using h)
    exact ⟨e, by simpa using h1, h2⟩
theorem ents_len {h : Heap} {vs : List Value} {es : List Ent} (x : EntsAt h vs es) : vs.length = es.length := Paired.length x
theorem Ent.Good.lens {e : Ent} (h : e.Good) : e.key.length = 1 ∧ e.val.length ≤ 7 := by
  obtain ⟨⟨c, hc, hk⟩, hv, _⟩ := h
  refine ⟨by rw [hk]; rfl, ?_⟩
  rcases hv with ⟨_, hv⟩ | ⟨h1, h2, h3⟩
  · rcases hv with hv | hv <;> rw [hv] <;> decide +kernel
  · omega
theorem escF_len (x : Str) : (escF x).length ≤ 2 * x.length := by
  rw [← str_len, ← str_len]
  show (x.cps.toList.flatMap esc1).toArray.toList.length ≤ _
  rw [List.toList_toArray]
  refine flat_len (fun d => ?_) _
  unfold esc1
  (repeat' split) <;> simp
theorem itemF_len (k v : Str) (z : Int) : (itemF k z v).length ≤ k.length + v.length + 3 := by
  unfold itemF
  have h1 : (Str.ofString "=\"").length = 2 := by decide +kernel
  have h2 : (Str.ofString "\"").length = 1 := by decide +kernel
  split
  · rw [Str.length_append]; omega
  · rw [Str.length_append, Str.length_append, Str.length_append, h1, h2]; omega
/-- what an entry's item is, sound or not -/
def itemE (e : Ent) : Str := itemF e.key e.size e.val
/-- the turn's names hold the entry's parts -/
def Parts (es : List Ent) (i : Nat) (m : Str → Option Value) : Prop := ∀ e, es[i]? = some e → ∃ t2 t3 t4, m (Str.ofString "key") = some (.str e.key t2) ∧ m (Str.ofString "size") = some (.int e.size t3) ∧ m (Str.ofString "value") = some (.str e.val t4)
theorem Ent.Good.ok {e : Ent} (h : e.Good) : PyData.strOk e.key = true ∧ PyData.strOk e.val = true := by
  obtain ⟨⟨c, hc, hk⟩, _, hv⟩ := h
  refine ⟨?_, hv⟩
  rw [hk]
  rcases hc with rfl | rfl | rfl <;> decide +kernel
theorem Ent.Good.okItem {e : Ent} (h : e.Good) : PyData.strOk (itemE e) = true := by
  obtain ⟨h1, h2⟩ := h.ok
  unfold itemE itemF
  split
  · exact ok_append h1 h2
  · exact ok_append (ok_append (ok_append h1 (by decide +kernel)) h2) (by decide +kernel)

section
variable {prog : Program} {w : World} {A : Around} {E : Value → Shared → Prop} {s : Shared} {a b : Value} {d : Dat} {Q : Value → Shared → Prop} {n : Nat} {as bs : List Addr}
theorem dat_shaped (hn : n ≤ 64) (hd : kqdOk n d = true) : SeqAt.shaped (kqdP d) = true := by
  have l := kqd_lay n d hd
  unfold SeqAt.shaped; rw [l.1, Bool.true_and]; exact decide_eq_true (Nat.le_trans l.2 hn)
theorem eq_dat (hn : n ≤ 64) (hd : kqdOk n d = true) (ra : Reads s.heap a (kqdP d) as) (rb : Reads s.heap b (kqdP d) bs) (hu : A.units + 64 < cLine) (h : Q (.bool true) s) :
    wpAny (model prog w) A (compareOp .Eq a b) Q E s :=
  eq_dataH ra rb (dat_shaped hn hd) (dat_shaped hn hd) hu (by rw [(kqd_eqv n d d n hd hd).mpr rfl]; exact h)
theorem ne_dat (hn : n ≤ 64) (hd : kqdOk n d = true) (ra : Reads s.heap a (kqdP d) as) (rb : Reads s.heap b (kqdP d) bs) (hu : A.units + 64 < cLine) (h : Q (.bool false) s) :
    wpAny (model prog w) A (compareOp .NotEq a b) Q E s :=
  ne_dataH ra rb (dat_shaped hn hd) (dat_shaped hn hd) hu (by rw [(kqd_eqv n d d n hd hd).mpr rfl]; exact h)
end
theorem reads_strs {h : Heap} : ∀ {vs : List Value} {ws : List Str}, StrsAre vs ws → ReadsAll h vs (kqdPs (ws.map Dat.str)) []
  | _, _, .nil => .nil
  | _, _, .cons y t r => .cons (.str y t) (reads_strs r)
theorem reads_strList {h : Heap} {a : Addr} {vs : List Value} {ws : List Str} (hl : h.IsList a vs.toArray) (hS : StrsAre vs ws) : ∃ as, Reads h (.ref a) (kqdP (.list (ws.map Dat.str))) as := by
  obtain ⟨o, e, hc, n, hd⟩ := hl
  exact ⟨_, reads_list_at e hc hd (reads_strs hS)⟩
theorem strs_ok {ws : List Str} (h : ∀ y ∈ ws, PyData.strOk y = true) : kqdOk 1 (.list (ws.map Dat.str)) = true := by
  simp only [kqdOk, List.all_map, List.all_eq_true]
  intro y hy
  exact h y hy
end Mine

-- part S1
namespace Mine
local macro_rules | `(tactic| walk_at "eval ListComp") => `(tactic| refine stop ?_)
section
variable {w : World} {p : Program} {loose : List Str} {mean : ExcName → Option Value} {mg mb : Str → Option Value} {G : Heap} {L fa : Addr} {cd : Value} {m : Str → Option Value} {s : Shared} {l : Addr} {vs : List Value} {ns : List Int} {Q : Flow → Shared → Prop} {E : Value → Shared → Prop}
set_option pp.deepTerms false
set_option pp.deepTerms.threshold 8
set_option pp.maxSteps 2000
theorem ents_of {h : Heap} {zs : List Int} : ∀ {js : List Nat} {ys : List Value}, Paired (fun i y => ∃ e : Ent, e.Good ∧ e.size = sizeF (zs.getD i 0) ∧ EntAt h y e) js ys →
    ∃ es, EntsAt h ys es ∧ (∀ e ∈ es, e.Good) ∧ es.map (·.size) = js.map (fun i => sizeF (zs.getD i 0))
  | _, _, .nil => ⟨[], .nil, fun _ h => (nomatch h), rfl⟩
  | _, _, .cons ⟨e, h1, h2, h3⟩ r => by
    obtain ⟨es, k1, k2, k3⟩ := ents_of r
    refine ⟨e :: es, .cons h3 k1, fun x hx => ?_, by simp [h2, k3]⟩
    rcases List.mem_cons.mp hx with rfl | hx
    · exact h1
    · exact k2 x hx
theorem range_getD (zs : List Int) : (List.range zs.length).map (fun i => sizeF (zs.getD i 0)) = zs.map sizeF := by
  apply List.ext_getElem
  · simp
  · intro i h1 h2
    simp at h1 h2 ⊢
    simp [h2]
theorem ints_item : ∀ {vs : List Value} {ns : List Int}, IntsAre vs ns → ∀ (i : Nat) (v : Value), vs[i]? = some v → ∃ x t, v = .int x t ∧ ns[i]? = some x
  | _, _, .nil, i, v, h => by simp at h
  | _, _, .cons n t r, 0, v, h => ⟨n, t, by simpa using h.symm, rfl⟩
  | _, _, .cons n t r, i + 1, v, h => by
    obtain ⟨x, t, h1, h2⟩ := ints_item r i v (by simpa using h)
    exact ⟨x, t, h1, by simpa using h2⟩
def given : List Int := [357, 1, 24, 87, 112, 51]
theorem st1 (B : Amb w p loose mean mg mb G) (S : LawSt G L s.heap m none none) (hm : m (Str.ofString "script") = some (.ref l)) (hl : G.IsList l vs.toArray) (hI : IntsAre vs ns)
   (hlen : ns.length ≤ 63)
   (h : ∀ D evs es h' tk' m', LawSt G L h' m' (some (.ref D)) none → h'.IsList D evs.toArray → EntsAt h' evs es → (∀ e ∈ es, e.Good) → es.map (·.size) = (ns.take 6 ++ given).map sizeF → Q .next { s with heap := h', toks := tk' }) :
   wpAny (model Challenge.rw_mq0130_01.row.prog w) (callerA.deeper (lawEnv L fa cd)) (exec (stm 0) (lawEnv L fa cd)) Q E s := by
  have X := B.X
  revert X
  k_fill
  intro X
  have T := B.T
  obtain ⟨u, F⟩ := fr1 S.F hm
  obtain ⟨od, oe, rest, N, hod, hoe, hall⟩ := S.all
  show wpAny _ _ (exec (Stmt.Assign _ _ _) _) _ _ _
  k_steps
  refine Stop.out ?_
  refine lcListX (fun i y h => ∃ e : Ent, e.Good ∧ e.size = sizeF ((ns.take 6 ++ given).getD i 0) ∧ EntAt h y e) rfl ?_ rfl (by decide) rfl (by decide) ?_
  · rintro i y h h' k ⟨e, h1, h2, T, t2, t3, t4, h3, h4⟩
    exact ⟨e, h1, h2, T, t2, t3, t4, h3, k _ _ h4⟩
  k_steps
  (rename Fr _ _ _ _ => F₁); (rename News _ _ _ _ => N₁); (rename IntsAre _ (_ ++ _) => hI₁)
  rename_i D₁ ws h₁ _
  have hl₁ : h₁.IsList D₁ ws.toArray := ⟨_, (N₁ _ (.head _)).1, rfl, _, rfl⟩
  have hws : ws.length ≤ 12 := by
    rw [hI₁.length]
    simp
    omega
  have k₁ := hall h₁ F₁.keep fun q hq => (N₁ q (.tail _ (.tail _ (.tail _ hq)))).1
  clear N₁ hall
  show ListPost _ _ _ _ _ _ _ _ _ _ _ _ { s with heap := h₁, toks := _ }
  refine ⟨D₁, ws.toArray, fun _ => true, fun i m => ∃ t, m (Str.ofString "x") = some (.int ((ns.take 6 ++ given).getD i 0) t), rfl, hl₁, by simp; omega, fun i v _ => .inl ⟨_, _, rfl⟩, ⟨?_, ?_, ?_⟩, ?_⟩
  · intro C i v h tk m Q E' hv hC hn hS H
    refine asgName rfl rfl hn fun h' m' tk' hn' hm' hk' => H h' m' tk' hn' ?_ hk'
    obtain ⟨x, t, rfl, hx⟩ := ints_item hI₁ i v (by simpa using hv)
    refine ⟨t, ?_⟩
    rw [hm', List.getD_eq_getElem?_getD, show (ns.take 6 ++ given)[i]? = some x from hx]
    rfl
  · intro C i h tk m E' hi hC hn hB hS
    exact wpAny_tests_nil ⟨rfl, keeps_tok⟩
  · rintro C i h₂ tk m E' hi _ hC hn ⟨t, hB⟩ hS
    have F₂ := F₁.keeps hS
    have X₂ := B.X.keeps F₂.keep
    have T₂ := B.T.keeps F₂.keep
    clear F₁
    show wpAny _ _ _ (EltOk _ { s with heap := h₂, toks := tk }) _ { s with heap := h₂, toks := tk }
    k_steps
    refine entry_spec (ok_of B F₂) fun D t2 t3 t4 e h' tk' st ht hg he => ⟨⟨e, hg, he, D, t2, t3, t4, rfl, ht⟩, h', tk', rfl, st⟩
  · intro D h₂ tk₂ ys hD hl₂ hP hS
    have S₂ : LawSt G L h₂ _ none none := S.next (F₁.keeps hS) fun b o hb e => hS b o (k₁ b o hb e)
    obtain ⟨es, h1, h2, h3⟩ := ents_of hP
    rw [List.filter_eq_self.mpr fun _ _ => rfl] at h3
    rw [show ws.toArray.size = (ns.take 6 ++ given).length from (List.size_toArray (as := ws)).trans hI₁.length, range_getD] at h3
    refine S₂.storeE fun h₃ S₃ M => ?_
    have hlD : h₂.IsList D ys.toList.toArray := by simpa using hl₂.isList
    exact h D ys.toList es _ _ _ S₃ (S₂.list hlD M) (h1.move S₂ M) h2 h3
end
end Mine

-- part S2
namespace Mine
local macro_rules | `(tactic| walk_at "eval ListComp") => `(tactic| refine stop ?_)
local macro_rules | `(tactic| walk_at "eval Name") => `(tactic| ((with_reducible show wpAny _ _ (eval (Expr.Name _ _) (compEnvC _ _ _ _)) _ _ _); refine ldC (by assumption) (by assumption) ?_))
section
variable {w : World} {p : Program} {loose : List Str} {mean : ExcName → Option Value} {mg mb : Str → Option Value} {G : Heap} {L fa : Addr} {cd : Value} {m : Str → Option Value} {s : Shared} {Q : Flow → Shared → Prop} {E : Value → Shared → Prop}
  {D : Addr} {evs : List Value} {es : List Ent} {dv : Option Value}
set_option pp.deepTerms false
set_option pp.deepTerms.threshold 8
set_option pp.maxSteps 2000
def headF (es : List Ent) : Str := Txt.join (Str.ofString ", ") (es.map fun e => itemF e.key e.size (escF e.val))
theorem st2 (B : Amb w p loose mean mg mb G) (S : LawSt G L s.heap m (some (.ref D)) dv) (hD : s.heap.IsList D evs.toArray) (hE : EntsAt s.heap evs es) (hg : ∀ e ∈ es, e.Good) (hlen : es.length ≤ 12)
   (h : ∀ t h' tk' m', LawSt G L h' m' (some (.ref D)) dv → Move (frees L) s.heap h' → m' (Str.ofString "header") = some (.str (headF es) t) → Q .next { s with heap := h', toks := tk' }) :
   wpAny (model Challenge.rw_mq0130_01.row.prog w) (callerA.deeper (lawEnv L fa cd)) (exec (stm 1) (lawEnv L fa cd)) Q E s := by
  have X := B.X
  revert X
  k_fill
  intro X
  have T := B.T
  have F := S.F
  obtain ⟨od, oe, rest, N, hod, hoe, hall⟩ := S.all
  show wpAny _ _ (exec (Stmt.Assign _ _ _) _) _ _ _
  k_steps
  refine Stop.out ?_
  refine lcListX (fun i y h => ∀ e, es[i]? = some e → ∃ t, y = .str (itemF e.key e.size (escF e.val)) t) rfl (fun i y h h' _ r => r) rfl (by decide) rfl (by decide) ?_
  k_steps
  have hlE : evs.length = es.length := ents_len hE
  show ListPost _ _ _ _ _ _ _ _ _ _ _ _ { s with heap := s.heap, toks := _ }
  refine ⟨D, evs.toArray, fun _ => true, fun i m => Parts es i m, rfl, hD, by simp; omega, fun i v hv => .inr ⟨⟨_, _, _, rfl⟩, ?_⟩, ⟨?_, ?_, ?_⟩, ?_⟩
  · obtain ⟨e, he, T, t2, t3, t4, rfl, ht⟩ := ents_item hE i v (by simpa using hv)
    exact ⟨T, rfl⟩
  · intro C i v h tk m Q E' hv hC hn hS H
    obtain ⟨e, he, T, t2, t3, t4, rfl, ht⟩ := ents_item hE i v (by simpa using hv)
    refine asgTup3 rfl rfl rfl rfl (by decide) (by decide) (by decide) rfl hn (stays_tup hS ht) fun h' m' tk' hn' hm' hk' => H h' m' tk' hn' ?_ hk'
    intro e' he'
    rw [he] at he'; cases he'
    exact ⟨t2, t3, t4, hm'⟩
  · intro C i h tk m E' hi hC hn hB hS
    exact wpAny_tests_nil ⟨rfl, keeps_tok⟩
  · intro C i h₂ tk m E' hi _ hC hn hB hS
    obtain ⟨e, he⟩ : ∃ e, es[i]? = some e := ⟨_, List.getElem?_eq_getElem (by simp at hi; omega)⟩
    obtain ⟨t2, t3, t4, hk, hs, hv⟩ := hB e he
    obtain ⟨hl1, hl2⟩ := (hg e (List.mem_of_getElem? he)).lens
    have F₂ := F.keeps hS
    clear F N hall
    show wpAny _ _ _ (EltOk _ { s with heap := h₂, toks := tk }) _ { s with heap := h₂, toks := tk }
    k_steps
    refine replace_spec (ok_of B F₂) (by omega) fun t h' tk' st => ?_
    have F₃ := F₂.keeps st
    clear F₂ hn
    show wpAny _ _ _ _ _ { s with heap := h', toks := tk' }
    k_steps
    refine item_spec (ok_of B F₃) (by omega) (by have := escF_len e.val; omega) fun t h'' tk'' st' => ⟨fun e' he' => ?_, h'', tk'', rfl, fun b o q => st' b o (st b o q)⟩
    rw [he] at he'; cases he'
    exact ⟨t, rfl⟩
  · intro D₂ h₂ tk₂ ys hD₂ hl₂ hP hS
    have S₂ := S.next (F.keeps hS) fun b o _ e => hS b o e
    have hst := strs_paired (paired_pick (p := fun _ => true) (by simpa using hlE) (fun _ _ _ => rfl) hP)
    rw [List.filter_eq_self.mpr fun _ _ => rfl] at hst
    obtain ⟨lt, e1, e2⟩ := strs_values hst
    have hM : Move (frees L) s.heap h₂ := Move.of_stays hS
    clear hP N hall F
    have F := S₂.F
    obtain ⟨od, oe, rest, N, hod, hoe, hall⟩ := S₂.all
    show wpAny _ _ _ _ _ { s with heap := h₂, toks := tk₂ }
    k_steps
    have hlL : lt.length = es.length := by
      have := congrArg List.length e2
      simpa using this
    have hlens : ∀ y ∈ es.map (fun e => itemF e.key e.size (escF e.val)), y.length ≤ 30 := by
      intro y hy
      obtain ⟨e, he, rfl⟩ := List.mem_map.mp hy
      obtain ⟨k1, k2⟩ := (hg e he).lens
      have := itemF_len e.key (escF e.val) e.size
      have := escF_len e.val
      omega
    refine SC.join (l := lt) ?_ e2 (joinOk_of (B := 30) hlens ?_) ?_
    · rw [← e1]; simpa using hl₂.isList
    · have h2 : (Str.ofString ", ").length = 2 := by decide +kernel
      rw [h2, List.length_map]
      omega
    · intro t9 tk9
      rw [show Txt.join (Str.ofString ", ") (es.map fun e => itemF e.key e.size (escF e.val)) = headF es from rfl]
      k_steps
      (rename Fr _ _ _ _ => F₄); (rename News _ _ _ _ => N₄)
      have k₄ := hall _ F₄.keep fun q hq => (N₄ q hq).1
      have S₄ := S₂.next F₄ k₄
      exact h t9 _ _ _ S₄ (hM.trans fun b o hb e => k₄ b o (fun z => hb (by simp [z])) e) rfl
end
end Mine

-- part S3
namespace Mine
local macro_rules | `(tactic| walk_at "eval ListComp") => `(tactic| refine stop ?_)
local macro_rules | `(tactic| walk_at "exec Assign cons ListComp") => `(tactic| refine stop ?_)
local macro_rules | `(tactic| walk_at "compareOp NotEq ref ref") => `(tactic| refine stop ?_)
local macro_rules | `(tactic| walk_at "eval Name") => `(tactic| ((with_reducible show wpAny _ _ (eval (Expr.Name _ _) (compEnvC _ _ _ _)) _ _ _); refine ldC (by assumption) (by assumption) ?_))
section
variable {w : World} {p : Program} {loose : List Str} {mean : ExcName → Option Value} {mg mb : Str → Option Value} {G : Heap} {L fa : Addr} {cd : Value} {m : Str → Option Value} {s : Shared} {Q : Flow → Shared → Prop} {E : Value → Shared → Prop}
  {D I : Addr} {evs ivs : List Value} {es : List Ent} {dv ev : Option Value}
set_option pp.deepTerms false
set_option pp.deepTerms.threshold 8
set_option pp.maxSteps 2000
theorem st3 {x : Str} {t : Tok} (B : Amb w p loose mean mg mb G) (S : LawSt G L s.heap m ev dv) (hm : m (Str.ofString "header") = some (.str x t)) (hx : x.length ≤ 900)
   (h : ∀ I ivs h' tk' m', LawSt G L h' m' ev dv → Move (frees L) s.heap h' → m' (Str.ofString "items") = some (.ref I) → h'.IsList I ivs.toArray → StrsAre ivs ((hend (hrun x.cps.toList)).map Txt.strip) → Q .next { s with heap := h', toks := tk' }) :
   wpAny (model Challenge.rw_mq0130_01.row.prog w) (callerA.deeper (lawEnv L fa cd)) (exec (stm 2) (lawEnv L fa cd)) Q E s := by
  have X := B.X
  revert X
  k_fill
  intro X
  have T := B.T
  obtain ⟨u, F⟩ := fr1 S.F hm
  show wpAny _ _ (exec (Stmt.Assign _ _ _) _) _ _ _
  k_steps
  refine http_spec (ok_of B F) hx fun l vs h₁ tk₁ st hl0 hl hS => ?_
  have S₁ := S.next (F.keeps st) fun b o _ e => st b o e
  clear F
  have F := S₁.F
  obtain ⟨od, oe, rest, N, hod, hoe, hall⟩ := S₁.all
  show wpAny _ _ _ _ _ { s with heap := h₁, toks := tk₁ }
  k_steps
  (rename Fr _ _ _ _ => F₄); (rename News _ _ _ _ => N₄)
  have k₄ := hall _ F₄.keep fun q hq => (N₄ q hq).1
  have S₄ := S₁.next F₄ k₄
  have M₄ : Move (frees L) h₁ _ := fun b o hb e => k₄ b o (fun z => hb (by simp [z])) e
  exact h l vs _ _ _ S₄ ((Move.of_stays st).trans M₄) rfl (S₁.list hl.isList M₄) hS

theorem st4 (B : Amb w p loose mean mg mb G) (S : LawSt G L s.heap m (some (.ref D)) dv) (hD : s.heap.IsList D evs.toArray) (hE : EntsAt s.heap evs es) (hg : ∀ e ∈ es, e.Good) (hlen : es.length ≤ 12)
   (hm : m (Str.ofString "items") = some (.ref I)) (hI : s.heap.IsList I ivs.toArray) (hS : StrsAre ivs (es.map itemE))
   (h : ∀ h' tk', LawSt G L h' m (some (.ref D)) dv → Move (frees L) s.heap h' → Q .next { s with heap := h', toks := tk' }) :
   wpAny (model Challenge.rw_mq0130_01.row.prog w) (callerA.deeper (lawEnv L fa cd)) (exec (stm 3) (lawEnv L fa cd)) Q E s := by
  have X := B.X
  revert X
  k_fill
  intro X
  have T := B.T
  obtain ⟨u, F⟩ := fr1 S.F hm
  obtain ⟨od, oe, rest, N, hod, hoe, hall⟩ := S.all
  show wpAny _ _ (exec (Stmt.If _ _ _ _) _) _ _ _
  k_steps
  refine Stop.out ?_
  refine lcListX (fun i y h => ∀ e, es[i]? = some e → ∃ t, y = .str (itemE e) t) rfl (fun i y h h' _ r => r) rfl (by decide) rfl (by decide) ?_
  k_steps
  have hlE : evs.length = es.length := ents_len hE
  show ListPost _ _ _ _ _ _ _ _ _ _ _ _ { s with heap := s.heap, toks := _ }
  refine ⟨D, evs.toArray, fun _ => true, fun i m => Parts es i m, rfl, hD, by simp; omega, fun i v hv => .inr ⟨⟨_, _, _, rfl⟩, ?_⟩, ⟨?_, ?_, ?_⟩, ?_⟩
  · obtain ⟨e, he, T, t2, t3, t4, rfl, ht⟩ := ents_item hE i v (by simpa using hv)
    exact ⟨T, rfl⟩
  · intro C i v h tk m Q E' hv hC hn hS H
    obtain ⟨e, he, T, t2, t3, t4, rfl, ht⟩ := ents_item hE i v (by simpa using hv)
    refine asgTup3 rfl rfl rfl rfl (by decide) (by decide) (by decide) rfl hn (stays_tup hS ht) fun h' m' tk' hn' hm' hk' => H h' m' tk' hn' ?_ hk'
    intro e' he'
    rw [he] at he'; cases he'
    exact ⟨t2, t3, t4, hm'⟩
  · intro C i h tk m E' hi hC hn hB hS
    exact wpAny_tests_nil ⟨rfl, keeps_tok⟩
  · intro C i h₂ tk m E' hi _ hC hn hB hS
    obtain ⟨e, he⟩ : ∃ e, es[i]? = some e := ⟨_, List.getElem?_eq_getElem (by simp at hi; omega)⟩
    obtain ⟨t2, t3, t4, hk, hs, hv⟩ := hB e he
    obtain ⟨hl1, hl2⟩ := (hg e (List.mem_of_getElem? he)).lens
    have F₂ := F.keeps hS
    clear F N hall
    show wpAny _ _ _ (EltOk _ { s with heap := h₂, toks := tk }) _ { s with heap := h₂, toks := tk }
    k_steps
    refine item_spec (ok_of B F₂) (by omega) (by omega) fun t h'' tk'' st' => ⟨fun e' he' => ?_, h'', tk'', rfl, fun b o q => st' b o q⟩
    rw [he] at he'; cases he'
    exact ⟨t, rfl⟩
  · intro D₂ h₂ tk₂ ys hD₂ hl₂ hP hS₂
    have S₂ := S.next (S.F.keeps hS₂) fun b o _ e => hS₂ b o e
    have hst := strs_paired (paired_pick (p := fun _ => true) (by simpa using hlE) (fun _ _ _ => rfl) hP)
    rw [List.filter_eq_self.mpr fun _ _ => rfl] at hst
    have hM : Move (frees L) s.heap h₂ := Move.of_stays hS₂
    clear hP N hall F
    show wpAny _ _ _ _ _ { s with heap := h₂, toks := tk₂ }
    k_steps
    refine Stop.out ?_
    obtain ⟨as, ra⟩ := reads_strList (S.list hI hM) hS
    obtain ⟨bs, rb⟩ := reads_strList hl₂.isList (by simpa using hst)
    refine ne_dat (n := 1) (by decide) (strs_ok fun y hy => ?_) ra rb (by ke_room) ?_
    · obtain ⟨e, he, rfl⟩ := List.mem_map.mp hy
      exact (hg e he).okItem
    k_steps
    exact h _ _ S₂ hM
end
end Mine

-- part S5
namespace Mine
local macro_rules | `(tactic| walk_at "eval ListComp") => `(tactic| refine stop ?_)
local macro_rules | `(tactic| walk_at "exec Assign cons ListComp") => `(tactic| refine stop ?_)
local macro_rules | `(tactic| walk_at "eval Name") => `(tactic| ((with_reducible show wpAny _ _ (eval (Expr.Name _ _) (compEnvC _ _ _ _)) _ _ _); refine ldC (by assumption) (by assumption) ?_))
section
variable {w : World} {p : Program} {loose : List Str} {mean : ExcName → Option Value} {mg mb : Str → Option Value} {G : Heap} {L fa : Addr} {cd : Value} {m : Str → Option Value} {s : Shared} {Q : Flow → Shared → Prop} {E : Value → Shared → Prop}
  {D I : Addr} {evs ivs : List Value} {es : List Ent} {dv ev : Option Value}
set_option pp.deepTerms false
set_option pp.deepTerms.threshold 8
set_option pp.maxSteps 2000
def soundP (e : Ent) : Bool := decide (0 ≤ e.size)
theorem st5 (B : Amb w p loose mean mg mb G) (S : LawSt G L s.heap m (some (.ref D)) dv) (hD : s.heap.IsList D evs.toArray) (hE : EntsAt s.heap evs es) (hg : ∀ e ∈ es, e.Good) (hlen : es.length ≤ 12)
   (h : ∀ O ovs h' tk', LawSt G L h' (fun y => if y = Str.ofString "sound" then some (.ref O) else m y) (some (.ref D)) dv → Move (frees L) s.heap h' → h'.IsList O ovs.toArray → StrsAre ovs ((es.filter soundP).map itemE) → Q .next { s with heap := h', toks := tk' }) :
   wpAny (model Challenge.rw_mq0130_01.row.prog w) (callerA.deeper (lawEnv L fa cd)) (exec (stm 4) (lawEnv L fa cd)) Q E s := by
  have X := B.X
  revert X
  k_fill
  intro X
  have T := B.T
  have F := S.F
  obtain ⟨od, oe, rest, N, hod, hoe, hall⟩ := S.all
  show wpAny _ _ (exec (Stmt.Assign _ _ _) _) _ _ _
  refine lcListAssignX (fun i y h => ∀ e, es[i]? = some e → ∃ t, y = .str (itemE e) t) rfl rfl rfl rfl (fun i y h h' _ r => r) rfl (by decide) rfl (by decide) ?_
  k_steps
  have hlE : evs.length = es.length := ents_len hE
  show ListPostA _ _ _ _ _ _ _ _ _ _ _ _ _ { s with heap := s.heap, toks := _ }
  refine ⟨D, evs.toArray, fun i => match es[i]? with | some e => soundP e | none => false, fun i m => Parts es i m, rfl, hD, by simp; omega, fun i v hv => .inr ⟨⟨_, _, _, rfl⟩, ?_⟩, ⟨?_, ?_, ?_⟩, m, F.ns, ?_⟩
  · obtain ⟨e, he, T, t2, t3, t4, rfl, ht⟩ := ents_item hE i v (by simpa using hv)
    exact ⟨T, rfl⟩
  · intro C i v h tk m Q E' hv hC hn hS H
    obtain ⟨e, he, T, t2, t3, t4, rfl, ht⟩ := ents_item hE i v (by simpa using hv)
    refine asgTup3 rfl rfl rfl rfl (by decide) (by decide) (by decide) rfl hn (stays_tup hS ht) fun h' m' tk' hn' hm' hk' => H h' m' tk' hn' ?_ hk'
    intro e' he'
    rw [he] at he'; cases he'
    exact ⟨t2, t3, t4, hm'⟩
  · intro C i h tk m E' hi hC hn hB hS
    obtain ⟨e, he⟩ : ∃ e, es[i]? = some e := ⟨_, List.getElem?_eq_getElem (by simp at hi; omega)⟩
    obtain ⟨t2, t3, t4, hk, hs, hv⟩ := hB e he
    have F₂ := F.keeps hS
    clear F N hall
    refine wpAny_tests_one ?_
    show wpAny _ _ _ (TestOk _ { s with heap := h, toks := tk }) _ { s with heap := h, toks := tk }
    k_steps
    exact ⟨by simp [he, soundP], keeps_tok⟩
  · intro C i h₂ tk m E' hi _ hC hn hB hS
    obtain ⟨e, he⟩ : ∃ e, es[i]? = some e := ⟨_, List.getElem?_eq_getElem (by simp at hi; omega)⟩
    obtain ⟨t2, t3, t4, hk, hs, hv⟩ := hB e he
    obtain ⟨hl1, hl2⟩ := (hg e (List.mem_of_getElem? he)).lens
    have F₂ := F.keeps hS
    clear F N hall
    show wpAny _ _ _ (EltOk _ { s with heap := h₂, toks := tk }) _ { s with heap := h₂, toks := tk }
    k_steps
    refine item_spec (ok_of B F₂) (by omega) (by omega) fun t h'' tk'' st' => ⟨fun e' he' => ?_, h'', tk'', rfl, fun b o q => st' b o q⟩
    rw [he] at he'; cases he'
    exact ⟨t, rfl⟩
  · intro D₂ h₂ tk₂ ys hD₂ hl₂ hP hn hk
    have hst := strs_paired (paired_pick (p := soundP) (by simpa using hlE) (fun i e he => by simp [he]) hP)
    have S₂ := S.next ⟨hn, fun b o e => hk b o (by rintro rfl; exact absurd (Heap.lt_size e) (Nat.not_lt.mpr F.above)) (F.keep b o e), F.above⟩ hk
    exact h D₂ ys.toList h₂ tk₂ S₂ (fun b o hb e => hk b o (fun z => hb (by simp [z]; exact .inl rfl)) e) (by simpa using hl₂.isList) hst
def refusedP (e : Ent) : Bool := decide (e.size < 0)
theorem st6 (B : Amb w p loose mean mg mb G) (S : LawSt G L s.heap m (some (.ref D)) dv) (hD : s.heap.IsList D evs.toArray) (hE : EntsAt s.heap evs es) (hg : ∀ e ∈ es, e.Good) (hlen : es.length ≤ 12)
   (h : ∀ O ovs h' tk', LawSt G L h' (fun y => if y = Str.ofString "refused" then some (.ref O) else m y) (some (.ref D)) dv → Move (frees L) s.heap h' → h'.IsList O ovs.toArray → StrsAre ovs ((es.filter refusedP).map itemE) → Q .next { s with heap := h', toks := tk' }) :
   wpAny (model Challenge.rw_mq0130_01.row.prog w) (callerA.deeper (lawEnv L fa cd)) (exec (stm 5) (lawEnv L fa cd)) Q E s := by
  have X := B.X
  revert X
  k_fill
  intro X
  have T := B.T
  have F := S.F
  obtain ⟨od, oe, rest, N, hod, hoe, hall⟩ := S.all
  show wpAny _ _ (exec (Stmt.Assign _ _ _) _) _ _ _
  refine lcListAssignX (fun i y h => ∀ e, es[i]? = some e → ∃ t, y = .str (itemE e) t) rfl rfl rfl rfl (fun i y h h' _ r => r) rfl (by decide) rfl (by decide) ?_
  k_steps
  have hlE : evs.length = es.length := ents_len hE
  show ListPostA _ _ _ _ _ _ _ _ _ _ _ _ _ { s with heap := s.heap, toks := _ }
  refine ⟨D, evs.toArray, fun i => match es[i]? with | some e => refusedP e | none => false, fun i m => Parts es i m, rfl, hD, by simp; omega, fun i v hv => .inr ⟨⟨_, _, _, rfl⟩, ?_⟩, ⟨?_, ?_, ?_⟩, m, F.ns, ?_⟩
  · obtain ⟨e, he, T, t2, t3, t4, rfl, ht⟩ := ents_item hE i v (by simpa using hv)
    exact ⟨T, rfl⟩
  · intro C i v h tk m Q E' hv hC hn hS H
    obtain ⟨e, he, T, t2, t3, t4, rfl, ht⟩ := ents_item hE i v (by simpa using hv)
    refine asgTup3 rfl rfl rfl rfl (by decide) (by decide) (by decide) rfl hn (stays_tup hS ht) fun h' m' tk' hn' hm' hk' => H h' m' tk' hn' ?_ hk'
    intro e' he'
    rw [he] at he'; cases he'
    exact ⟨t2, t3, t4, hm'⟩
  · intro C i h tk m E' hi hC hn hB hS
    obtain ⟨e, he⟩ : ∃ e, es[i]? = some e := ⟨_, List.getElem?_eq_getElem (by simp at hi; omega)⟩
    obtain ⟨t2, t3, t4, hk, hs, hv⟩ := hB e he
    have F₂ := F.keeps hS
    clear F N hall
    refine wpAny_tests_one ?_
    show wpAny _ _ _ (TestOk _ { s with heap := h, toks := tk }) _ { s with heap := h, toks := tk }
    k_steps
    exact ⟨by simp [he, refusedP], keeps_tok⟩
  · intro C i h₂ tk m E' hi _ hC hn hB hS
    obtain ⟨e, he⟩ : ∃ e, es[i]? = some e := ⟨_, List.getElem?_eq_getElem (by simp at hi; omega)⟩
    obtain ⟨t2, t3, t4, hk, hs, hv⟩ := hB e he
    obtain ⟨hl1, hl2⟩ := (hg e (List.mem_of_getElem? he)).lens
    have F₂ := F.keeps hS
    clear F N hall
    show wpAny _ _ _ (EltOk _ { s with heap := h₂, toks := tk }) _ { s with heap := h₂, toks := tk }
    k_steps
    have hpr : refusedP e = true := by
      have := ‹(match es[i]? with | some e => refusedP e | none => false) = true›
      simpa [he] using this
    have hz : e.size < 0 := of_decide_eq_true hpr
    refine ⟨fun e' he' => ?_, ?_⟩
    · rw [he] at he'; cases he'
      rw [show itemE e = e.key ++ e.val from if_pos hz]
      exact ⟨_, rfl⟩
    · exact keeps_tok
  · intro D₂ h₂ tk₂ ys hD₂ hl₂ hP hn hk
    have hst := strs_paired (paired_pick (p := refusedP) (by simpa using hlE) (fun i e he => by simp [he]) hP)
    have S₂ := S.next ⟨hn, fun b o e => hk b o (by rintro rfl; exact absurd (Heap.lt_size e) (Nat.not_lt.mpr F.above)) (F.keep b o e), F.above⟩ hk
    exact h D₂ ys.toList h₂ tk₂ S₂ (fun b o hb e => hk b o (fun z => hb (by simp [z]; exact .inl rfl)) e) (by simpa using hl₂.isList) hst
end
end Mine

-- part S7
namespace Mine
local macro_rules | `(tactic| walk_at "compareOp NotEq ref ref") => `(tactic| refine stop ?_)
section
variable {w : World} {p : Program} {loose : List Str} {mean : ExcName → Option Value} {mg mb : Str → Option Value} {G : Heap} {L fa : Addr} {cd : Value} {m : Str → Option Value} {s : Shared} {Q : Flow → Shared → Prop} {E : Value → Shared → Prop}
  {D I O R : Addr} {evs ivs ovs rvs : List Value} {es : List Ent} {dv ev : Option Value}
set_option pp.deepTerms false
set_option pp.deepTerms.threshold 8
set_option pp.maxSteps 2000
def longP (y : Str) : Bool := decide (3 ≤ y.length)
theorem Ent.Good.kinds {e : Ent} (h : e.Good) : (0 ≤ e.size ∧ longP (itemE e) = true ∧ itemE e = itemF e.key 0 e.val ∧ (∃ c, c ≠ 61 ∧ e.key = ⟨#[c]⟩)) ∨ (e.size < 0 ∧ longP (itemE e) = false ∧ Bad (itemE e)) := by
  obtain ⟨⟨c, hc, hk⟩, hv, _⟩ := h
  rcases hv with ⟨h1, hv⟩ | ⟨h1, h2, h3⟩
  · refine .inr ⟨by omega, ?_, ?_⟩
    · have hb : Bad (itemE e) := ⟨c, e.val, hc, hv, by rw [itemE, h1, hk]⟩
      have := hb.len
      exact decide_eq_false (by omega)
    · exact ⟨c, e.val, hc, hv, by rw [itemE, h1, hk]⟩
  · refine .inl ⟨h1, ?_, ?_, c, by omega, hk⟩
    · have e1 : itemE e = e.key ++ Str.ofString "=\"" ++ e.val ++ Str.ofString "\"" := if_neg (by omega)
      have h1 : (Str.ofString "=\"").length = 2 := by decide +kernel
      have h2 : (Str.ofString "\"").length = 1 := by decide +kernel
      refine decide_eq_true ?_
      rw [e1, Str.length_append, Str.length_append, Str.length_append, h1, h2]
      omega
    · have e1 : itemE e = e.key ++ Str.ofString "=\"" ++ e.val ++ Str.ofString "\"" := if_neg (by omega)
      have e2 : itemF e.key 0 e.val = e.key ++ Str.ofString "=\"" ++ e.val ++ Str.ofString "\"" := if_neg (by omega)
      rw [e1, e2]
theorem long_sound : ∀ {es : List Ent}, (∀ e ∈ es, e.Good) → (es.map itemE).filter longP = (es.filter soundP).map itemE ∧ (es.map itemE).filter (fun y => !longP y) = (es.filter refusedP).map itemE
  | [], _ => ⟨rfl, rfl⟩
  | e :: r, hg => by
    obtain ⟨i1, i2⟩ := long_sound (es := r) fun x hx => hg x (.tail _ hx)
    rw [List.map_cons, List.filter_cons, List.filter_cons, List.filter_cons, List.filter_cons, i1, i2]
    rcases (hg e (.head _)).kinds with ⟨h1, h2, _⟩ | ⟨h1, h2, _⟩
    · have a : soundP e = true := decide_eq_true h1
      have b : refusedP e = false := decide_eq_false (by omega)
      simp [a, b, h2]
    · have a : soundP e = false := decide_eq_false (by omega)
      have b : refusedP e = true := decide_eq_true h1
      simp [a, b, h2]
theorem LawSt.turned {h h' : Heap} {ce dv : Option Value} (S : LawSt G L h m ce dv) (T : Turned [L] h h') : LawSt G L h' m ce dv := by
  have hL : G.get? L = none := Heap.get?_none_of_le S.F.above
  refine S.next ⟨T.ns S.F.ns, fun b o e => T.1 b o (S.F.keep b o e) fun hm => ?_, S.F.above⟩ fun b o hb e => T.1 b o e fun hm => hb (List.mem_singleton.mp hm)
  rw [List.mem_singleton.mp hm, hL] at e; cases e
theorem reads_two {h : Heap} {T a b : Addr} {va vb : List Value} {wa wb : List Str} (ht : IsTup h T #[.ref a, .ref b]) (ha : h.IsList a va.toArray) (hb : h.IsList b vb.toArray) (sa : StrsAre va wa) (sb : StrsAre vb wb) :
    ∃ as, Reads h (.ref T) (kqdP (.tuple [.list (wa.map Dat.str), .list (wb.map Dat.str)])) as := by
  obtain ⟨o, e, hc, n, hd⟩ := ht
  obtain ⟨as, ra⟩ := reads_strList ha sa
  obtain ⟨bs, rb⟩ := reads_strList hb sb
  exact ⟨_, reads_tuple_at e hc hd (.cons ra (.cons rb .nil))⟩
theorem fr3 {h₀ h : Heap} {L : Addr} {m : Str → Option Value} {a b c : Str} {va vb vc : Value} (F : Fr h₀ L h m) (h1 : m a = some va) (h2 : m b = some vb) (h3 : m c = some vc) :
    ∃ u : Str → Option Value, Fr h₀ L h (fun y => if y = a then some va else if y = b then some vb else if y = c then some vc else u y) := by
  refine ⟨m, ?_⟩
  have e : (fun y => if y = a then some va else if y = b then some vb else if y = c then some vc else m y) = m := by
    funext y
    by_cases q : y = a
    · rw [if_pos q, q, h1]
    · rw [if_neg q]
      by_cases q : y = b
      · rw [if_pos q, q, h2]
      · rw [if_neg q]
        by_cases q : y = c
        · rw [if_pos q, q, h3]
        · rw [if_neg q]
  rw [e]; exact F
theorem st7 (B : Amb w p loose mean mg mb G) (S : LawSt G L s.heap m ev dv) (hg : ∀ e ∈ es, e.Good) (hlen : es.length ≤ 12)
   (hm : m (Str.ofString "items") = some (.ref I)) (hI : s.heap.IsList I ivs.toArray) (hS : StrsAre ivs (es.map itemE))
   (hm2 : m (Str.ofString "sound") = some (.ref O)) (hO : s.heap.IsList O ovs.toArray) (hOS : StrsAre ovs ((es.filter soundP).map itemE))
   (hm3 : m (Str.ofString "refused") = some (.ref R)) (hR : s.heap.IsList R rvs.toArray) (hRS : StrsAre rvs ((es.filter refusedP).map itemE))
   (h : ∀ h' tk' m', LawSt G L h' m' ev dv → Move (frees L) s.heap h' → m' (Str.ofString "sound") = some (.ref O) → Q .next { s with heap := h', toks := tk' }) :
   wpAny (model Challenge.rw_mq0130_01.row.prog w) (callerA.deeper (lawEnv L fa cd)) (exec (stm 6) (lawEnv L fa cd)) Q E s := by
  have X := B.X
  revert X
  k_fill
  intro X
  have T := B.T
  obtain ⟨u, F⟩ := fr3 S.F hm hm2 hm3
  have SU : LawSt G L s.heap _ ev dv := ⟨F, S.ce, S.cd, S.tab⟩
  show wpAny _ _ (exec (Stmt.If _ _ _ _) _) _ _ _
  k_steps
  have hGL : G.get? L = none := Heap.get?_none_of_le S.F.above
  have hLI : I ∉ [L] := fun hm => by
    obtain ⟨o, e, hc, n, hd⟩ := hI
    have := S.off e hd
    rw [List.mem_singleton.mp hm] at this
    exact this (by simp)
  have stH : G.StaysIn (hideAll s.heap [L]) := fun b o e => hideAll_get _ (F.keep b o e) fun hm => by rw [List.mem_singleton.mp hm, hGL] at e; cases e
  refine split_spec (n := 19) (t1 := s.toks) [L] longP (ok_of B F) (fun b hb => ?_) (fun b hb => by rw [List.mem_singleton.mp hb]; exact hGL) hLI hI hS ?_ ?_ ?_ fun D Y N ys ns h₁ tk₁ Tr hY hN hDf hYN hD hYl hNl hys hns => ?_
  · rw [List.mem_singleton.mp hb]
    obtain ⟨o, _, _, e, _⟩ := F.ns
    exact ⟨o, e⟩
  · have := hS.len_eq
    simp at this
    omega
  · intro h' sh
    exact keeps_K (K := hd.heap_39 w.params) (by k_is) h' (B.X.keeps fun b o e => sh b o (stH b o e))
  · intro L' env s' y t Q' E' hfr hL' O' sh hy hq
    obtain ⟨e, he, rfl⟩ := List.mem_map.mp hy
    rcases (hg e he).kinds with ⟨h1, h2, h3, h4⟩ | ⟨h1, h2, h3⟩
    · rw [h3]
      refine sound_good (n := 18) O' h4 (Nat.le_trans (hg e he).lens.2 (by decide)) fun h' tk' st => hq _ _ _ (Turned.of_stays st) ?_
      rw [h2]
      intro prog w A Q E s hQ
      exact wpAny_truthy_bool hQ
    · refine sound_bad (n := 18) O' h3 fun h' tk' tr => hq _ _ _ ?_ ?_
      · have e1 : (env :: [lawEnv L fa cd]).filterMap (·.frame) = [L', L] := by
          rw [List.filterMap_cons, hfr]
          rfl
        rw [e1] at tr
        exact tr
      · rw [h2]
        intro prog w A Q E s hQ
        exact wpAny_truthy_bool hQ
  · obtain ⟨e1, e2⟩ := long_sound hg
    rw [e1] at hys
    rw [e2] at hns
    have S₁ := SU.turned Tr
    have M₁ : Move (frees L) s.heap h₁ := fun b o hb e => Tr.1 b o e fun hm => hb (by rw [List.mem_singleton.mp hm]; simp)
    have hO₁ := SU.list hO M₁
    have hR₁ := SU.list hR M₁
    clear F
    have F := S₁.F
    obtain ⟨od, oe, rest, Nw, hod, hoe, hall⟩ := S₁.all
    show wpAny _ _ _ _ _ { s with heap := h₁, toks := tk₁ }
    k_steps
    refine Stop.out ?_
    (rename Fr _ _ _ _ => F₂); (rename News _ _ _ _ => N₂)
    have k₂ := hall _ F₂.keep fun q hq => (N₂ q (.tail _ hq)).1
    have S₂ := S₁.next F₂ k₂
    have M₂ : Move (frees L) h₁ _ := fun b o hb e => k₂ b o (fun z => hb (by simp [z])) e
    have hT2 := (N₂ _ (.head _)).1
    have hysok : kqdOk 2 (.tuple [.list (((es.filter soundP).map itemE).map Dat.str), .list (((es.filter refusedP).map itemE).map Dat.str)]) = true := by
      have f : ∀ (pp : Ent → Bool), kqdOk 1 (.list (((es.filter pp).map itemE).map Dat.str)) = true := fun pp => strs_ok fun y hy => by
        obtain ⟨e, he, rfl⟩ := List.mem_map.mp hy
        exact (hg e (List.mem_filter.mp he).1).okItem
      show List.all _ _ = true
      rw [List.all_cons, List.all_cons, f, f]
      rfl
    obtain ⟨as, ra⟩ := reads_two (S₁.tup hD M₂) (S₁.list hYl M₂) (S₁.list hNl M₂) hys hns
    obtain ⟨bs, rb⟩ := reads_two ⟨_, hT2, rfl, _, rfl⟩ (S₁.list hO₁ M₂) (S₁.list hR₁ M₂) hOS hRS
    refine ne_dat (n := 2) (by decide) hysok ra rb (by ke_room) ?_
    clear N₂
    k_steps
    exact h _ _ _ S₂ (M₁.trans M₂) rfl
end
end Mine

-- part S10
namespace Mine
section
variable {w : World} {p : Program} {loose : List Str} {mean : ExcName → Option Value} {mg mb : Str → Option Value} {G : Heap} {L fa : Addr} {cd : Value} {m : Str → Option Value} {s : Shared} {Q : Flow → Shared → Prop} {E : Value → Shared → Prop}
  {D I O R : Addr} {evs ivs ovs rvs : List Value} {es : List Ent} {dv ev : Option Value}
set_option pp.deepTerms false
set_option pp.deepTerms.threshold 8
set_option pp.maxSteps 2000
def kvOf (es : List Ent) : List (Str × Str) := es.map fun e => (e.key, e.val)
theorem LawSt.tabbed {h h' : Heap} {ce dv : Option Value} (S : LawSt G L h m ce dv) (h61 : G.get? 61 = none) (k : ∀ b o, b ≠ 61 → h.get? b = some o → h'.get? b = some o) (t : TabSt h') : LawSt G L h' m ce dv := by
  obtain ⟨ps, e61, _⟩ := S.tab
  have hL : L ≠ 61 := by
    rintro rfl
    obtain ⟨o', es, ep, e', hd', _⟩ := S.F.ns
    rw [e61] at e'; cases e'; cases hd'
  obtain ⟨oe, e1, d1⟩ := S.ce
  obtain ⟨od, e2, d2⟩ := S.cd
  refine ⟨⟨S.F.ns.at' fun o e => k _ o hL e, fun b o e => k b o (fun q => by rw [q, h61] at e; cases e) (S.F.keep b o e), S.F.above⟩, ⟨oe, k _ _ (fun q => ?_) e1, d1⟩, ⟨od, k _ _ (fun q => ?_) e2, d2⟩, t⟩
  · rw [q, e61] at e1; cases e1; cases d1
  · rw [q, e61] at e2; cases e2; cases d2
theorem items_kv {es : List Ent} (hg : ∀ e ∈ es, e.Good) (hs : ∀ e ∈ es, 0 ≤ e.size) : items (kvOf es) = es.map itemE := by
  unfold items kvOf
  rw [List.map_map]
  refine List.map_congr_left fun e he => ?_
  rcases (hg e he).kinds with ⟨_, _, h3, _⟩ | ⟨h1, _⟩
  · exact h3.symm
  · exact absurd (hs e he) (by omega)
theorem st10 (B : Amb w p loose mean mg mb G) (S : LawSt G L s.heap m ev dv) (hg : ∀ e ∈ es, e.Good) (hs : ∀ e ∈ es, 0 ≤ e.size) (hlen : es.length ≤ 12)
   (hm2 : m (Str.ofString "sound") = some (.ref O)) (hO : s.heap.IsList O ovs.toArray) (hOS : StrsAre ovs (es.map itemE))
   (h : ∀ R ys h' tk' m', LawSt G L h' m' ev dv → Move (frees L) s.heap h' → m' (Str.ofString "row") = some (.ref R) → h'.IsList R ys.toArray → StrsAre ys (items (round 2 (round 1 (round 0 (kvOf es))))) → Q .next { s with heap := h', toks := tk' }) :
   wpAny (model Challenge.rw_mq0130_01.row.prog w) (callerA.deeper (lawEnv L fa cd)) (exec (stm 9) (lawEnv L fa cd)) Q E s := by
  have X := B.X
  revert X
  k_fill
  intro X
  have T := B.T
  obtain ⟨u, F⟩ := fr1 S.F hm2
  have SU : LawSt G L s.heap _ ev dv := ⟨F, S.ce, S.cd, S.tab⟩
  show wpAny _ _ (exec (Stmt.Assign _ _ _) _) _ _ _
  k_steps
  refine rounds_spec (n := 17) (kv := kvOf es) (ok_of B F) B.h61 B.code S.tab hO (by rw [items_kv hg hs]; exact hOS) ?_ ?_ fun R ys h₁ tk₁ k₁ t₁ hR hys => ?_
  · have := hOS.len_eq
    simp at this
    omega
  · intro q hq
    obtain ⟨e, he, rfl⟩ := List.mem_map.mp hq
    rcases (hg e he).kinds with ⟨_, _, _, h4⟩ | ⟨h1, _⟩
    · exact ⟨h4, Nat.le_trans (hg e he).lens.2 (by decide)⟩
    · exact absurd (hs e he) (by omega)
  · have S₁ := SU.tabbed B.h61 k₁ t₁
    have M₁ : Move (frees L) s.heap h₁ := fun b o hb e => k₁ b o (fun z => hb (by simp [z])) e
    clear F
    have F := S₁.F
    obtain ⟨od, oe, rest, Nw, hod, hoe, hall⟩ := S₁.all
    show wpAny _ _ _ _ _ { s with heap := h₁, toks := tk₁ }
    k_steps
    (rename Fr _ _ _ _ => F₂); (rename News _ _ _ _ => N₂)
    have k₂ := hall _ F₂.keep fun q hq => (N₂ q hq).1
    have S₂ := S₁.next F₂ k₂
    have M₂ : Move (frees L) h₁ _ := fun b o hb e => k₂ b o (fun z => hb (by simp [z])) e
    exact h R ys _ _ _ S₂ (M₁.trans M₂) rfl (S₁.list hR M₂) hys
end
end Mine

-- part L3
namespace Mine
section
variable {prog : Program} {w : World} {A : Around} {E : Value → Shared → Prop} {env : Env}
def WalkPostT (prog : Program) (w : World) (A : Around) (env : Env) (elts : List Expr) (k : Nat) (pt : Pos) (elt : Expr) (ifs : List Expr) (scope : Scope) (cl : List (Str × Addr)) (R : Nat → Value → Heap → Prop) (Q : Value → Shared → Prop) (it : Value) (s₂ : Shared) : Prop :=
  ∃ (I : Addr) (fp wr : List Addr) (n : Nat) (pr : Nat → Bool) (B : Nat → (Str → Option Value) → Prop) (VP : Nat → Array Value → Prop) (St : Nat → Heap → Prop) (Mid : Nat → Addr → Heap → Prop), it = .ref I ∧ WalksT prog w A I fp wr n VP St Mid ∧ (∀ i h a items, St i h → IsTup h a items → a ∉ wr) ∧ n ≤ 1000 ∧ St 0 s₂.heap ∧ (∀ b ∈ fp, b < s₂.heap.objs.size) ∧
   (∀ C i T vals h tk m (Q : Unit → Shared → Prop) (E' : Value → Shared → Prop), i < n → VP i vals → IsTup h T vals → h.Ns C m → (∀ b o, b ∉ wr → s₂.heap.get? b = some o → h.get? b = some o) →
      (∀ h' m' tk', h'.Ns C m' → B i m' → (∀ b o, b ≠ C → h.get? b = some o → h'.get? b = some o) → Q () { s₂ with heap := h', toks := tk' }) → wpAny (model prog w) A (assign (.Tuple elts k pt) (compEnvC scope cl C env) (.ref T)) Q E' { s₂ with heap := h, toks := tk }) ∧
   (∀ C i h tk m (E' : Value → Shared → Prop), i < n → h.Ns C m → B i m → (∀ b o, b ∉ wr → s₂.heap.get? b = some o → h.get? b = some o) →
      wpAny (model prog w) A (testsOf ifs (compEnvC scope cl C env)) (TestOk (pr i) { s₂ with heap := h, toks := tk }) E' { s₂ with heap := h, toks := tk }) ∧
   (∀ C i h tk m (E' : Value → Shared → Prop), i < n → pr i = true → h.Ns C m → B i m → (∀ b o, b ∉ wr → s₂.heap.get? b = some o → h.get? b = some o) →
      wpAny (model prog w) A (eval elt (compEnvC scope cl C env)) (EltOk (R i) { s₂ with heap := h, toks := tk }) E' { s₂ with heap := h, toks := tk }) ∧
   ∀ D h tk ys, s₂.heap.get? D = none → h.PlainList D ys → Paired (fun i y => R i y h) ((List.range n).filter pr) ys.toList → (∀ b o, b ∉ wr → s₂.heap.get? b = some o → h.get? b = some o) → Q (.ref D) { s₂ with heap := h, toks := tk }

theorem srcT {I : Addr} {fp wr : List Addr} {n : Nat} {VP : Nat → Array Value → Prop} {St : Nat → Heap → Prop} {Mid : Nat → Addr → Heap → Prop} (W : WalksT prog w A I fp wr n VP St Mid) (hT : ∀ i h a items, St i h → IsTup h a items → a ∉ wr) :
    Src prog w A I fp wr n (fun _ _ => True) St (fun i v h => ∃ T vals, v = .ref T ∧ VP i vals ∧ IsTup h T vals ∧ Mid i T h) where
  sub := W.sub
  frame := W.frame
  item := fun i s Q E hi st hQ => W.item i s Q E hi st fun T vals h' tk hv _ ht hm hk => hQ (.ref T) h' tk trivial ⟨T, vals, rfl, hv, ht, hm⟩ hk
  done := W.done
  self := W.self
  noTup := hT

/-- a list comprehension with a tuple of names over anything that gives tuples -/
theorem lcWalkT {elt iter : Expr} {elts : List Expr} {k : Nat} {pt : Pos} {ifs : List Expr} {scope : Scope} {cl : List (Str × Addr)} {pos : Pos} {s : Shared} {Q : Value → Shared → Prop} (R : Nat → Value → Heap → Prop)
    (hmono : ∀ i y h h', (∀ a items, IsTup h a items → IsTup h' a items) → R i y h → R i y h')
    (hclos : closureFor scope env = pure cl) (hcell : ∀ y ∈ scope.names, y.2 ≠ .cell) (hkind : scope.kind = .function) (hnames : ∀ y ∈ scope.names, y.2 = .local → scope.names.lookup y.1 = some .local)
    (h : wpAny (model prog w) A (eval iter env) (fun xv s₁ => wpAny (model prog w) A (pyIter xv) (WalkPostT prog w A env elts k pt elt ifs scope cl R Q) E s₁) E s)
    (hs : ∀ x, foldedSetIterable iter env x = pure x := by intro _; rfl) :
    wpAny (model prog w) A (eval (.ListComp elt [⟨.Tuple elts k pt, iter, ifs, 0⟩] scope pos) env) Q E s := by
  rw [eval_ListComp]
  refine wpAny_comprehension_free (use := none) rfl hs hclos hkind hnames (wpAny_mono h (fun xv s₁ h₁ => wpAny_mono h₁ (fun it s₂ h₂ => ?_) fun _ _ e => e) fun _ _ e => e)
  obtain ⟨I, fp, wr, n, pr, B, VP, St, Mid, rfl, W, hT, hsz, hst, hfp, asg, tests, elts', fin⟩ := h₂
  refine compBlockG (RR := fun acc C => compPost (model prog w) A E none Q acc C) (srcT W hT) hsz pr R hmono hcell hkind hst hfp ?_ ?_
  · rintro C i v h tk m E' hCs hi - ⟨T, vals, rfl, hv, ht, hM⟩ hm hk
    have hC := Heap.get?_none_of_le hCs
    have hCf : C ∉ fp := fun hm => Nat.lt_irrefl _ (Nat.lt_of_lt_of_le (hfp C hm) hCs)
    have hCw : C ∉ wr := fun hm => hCf (W.sub _ hm)
    unfold TurnGoal
    refine W.go elts k pt i T _ _ _ hM fun h₁ hS₁ hk₁ => ?_
    have ht₁ : IsTup h₁ T vals := by
      obtain ⟨o, e, r⟩ := ht
      exact ⟨o, hk₁ T o (W.apart _ _ _ hM) e, r⟩
    have hm₁ : h₁.Ns C m := hm.at' fun o e => hk₁ C o hCw e
    have stay₁ : ∀ b o, b ∉ wr → s₂.heap.get? b = some o → h₁.get? b = some o := fun b o hw e => hk₁ b o hw (hk b o hw e)
    refine asg C i T vals h₁ tk m _ _ hi hv ht₁ hm₁ stay₁ fun h₂ m₂ tk₂ hm₂ hB hk₂ => ?_
    have stay₂ : ∀ b o, b ∉ wr → s₂.heap.get? b = some o → h₂.get? b = some o := fun b o hw e => hk₂ b o (by rintro rfl; rw [hC] at e; cases e) (stay₁ b o hw e)
    have fin' : ∀ h₃ : Heap, (∀ b o, h₂.get? b = some o → h₃.get? b = some o) → St (i + 1) h₃ ∧ (∃ m, h₃.Ns C m) ∧ (∀ b o, b ∉ wr → b ∉ [C] → h.get? b = some o → h₃.get? b = some o) := fun h₃ k₃ =>
      ⟨W.frame _ _ _ hS₁ fun b hb o e => k₃ b o (hk₂ b o (fun q => hCf (q ▸ hb)) e), ⟨m₂, hm₂.keeps k₃⟩, fun b o hw hc e => k₃ b o (hk₂ b o (fun q => hc (List.mem_singleton.mpr q)) (hk₁ b o hw e))⟩
    refine wpAny_mono (tests C i h₂ tk₂ m₂ E' hi hm₂ hB stay₂) (fun ok s₃ hok => ?_) fun _ _ x => x
    obtain ⟨rfl, h₃, tk₃, rfl, k₃⟩ := hok
    cases hpr : pr i with
    | false =>
      simp only [Bool.false_eq_true, if_false]
      obtain ⟨f1, f2, f3⟩ := fin' h₃ k₃
      exact ⟨h₃, tk₃, rfl, f1, f2, f3, hpr⟩
    | true =>
      simp only [if_true]
      refine wpAny_mono (elts' C i h₃ tk₃ m₂ E' hi hpr (hm₂.keeps k₃) hB (fun b o hw e => k₃ b o (stay₂ b o hw e))) (fun y s₄ hy => ?_) fun _ _ x => x
      obtain ⟨hR, h₄, tk₄, rfl, k₄⟩ := hy
      obtain ⟨f1, f2, f3⟩ := fin' h₄ fun b o e => k₄ b o (k₃ b o e)
      exact ⟨h₄, tk₄, rfl, f1, f2, f3, hpr, hR⟩
  · intro D C h tk m ys hD hC hDC hm hl' hP hk
    refine ⟨m, hm, fun h'' hs'' => fin D h'' tk ys hD (hl'.extBut hs''.extBut hDC) (Paired.monoH (fun i y => hmono i y _ _ fun a its ht => ?_) hP) fun b o hw e => hs''.extBut b o (by rintro rfl; rw [hC] at e; cases e) (hk b o hw e)⟩
    obtain ⟨o, e, hc, nn, hd⟩ := ht
    refine ⟨o, hs''.extBut a o (fun q => ?_) e, hc, nn, hd⟩
    obtain ⟨o', es, ep, e', hd', _⟩ := hm
    rw [q, e'] at e
    cases e
    rw [hd'] at hd
    cases hd
end
end Mine

-- part P1
namespace Mine
/-- what the tree asks lies below n, and its end, with the answers of lt, is R -/
def treeOk (lt : Nat → Nat → Bool) (n : Nat) {α : Type} (R : α → Prop) : KasT α → Prop
  | .ret a => R a
  | .ask i j k => i < n ∧ j < n ∧ treeOk lt n R (k (lt i j))
section
variable {lt : Nat → Nat → Bool} {n : Nat}
theorem treeOk_mono {α : Type} {R R' : α → Prop} (h : ∀ a, R a → R' a) : ∀ (t : KasT α), treeOk lt n R t → treeOk lt n R' t
  | .ret a, x => h a x
  | .ask i j k, x => ⟨x.1, x.2.1, treeOk_mono h (k (lt i j)) x.2.2⟩
theorem treeOk_bind {α β : Type} {f : α → KasT β} {R : β → Prop} : ∀ (t : KasT α), treeOk lt n (fun a => treeOk lt n R (f a)) t → treeOk lt n R (t.bind f)
  | .ret _, x => x
  | .ask i j k, x => ⟨x.1, x.2.1, treeOk_bind (k (lt i j)) x.2.2⟩
theorem treeOk_wp {α : Type} {R : α → Prop} {cmp : Nat → Nat → (Bool → Shared → Prop) → Shared → Prop} {P : Shared → Prop} {Q : α → Shared → Prop}
    (hc : ∀ i j C s, i < n → j < n → P s → (∀ s', P s' → C (lt i j) s') → cmp i j C s) (hQ : ∀ a s, R a → P s → Q a s) : ∀ (t : KasT α) (s : Shared), treeOk lt n R t → P s → t.kasWp cmp Q s
  | .ret a, s, x, p => hQ a s x p
  | .ask i j k, s, x, p => hc i j _ s x.1 x.2.1 p fun s' p' => treeOk_wp hc hQ (k (lt i j)) s' x.2.2 p'
end
section
variable {K : Nat → Nat} {n : Nat}
def at' (p : Array Nat) (i : Nat) : Nat := p.getD i 0
theorem at_eq (p : Array Nat) (i : Nat) : at' p i = (p[i]?).getD 0 := by
  unfold at'
  simp [Array.getD_eq_getD_getElem?]
structure Pm (n : Nat) (p : Array Nat) : Prop where
  perm : p.toList.Perm (List.range n)
theorem Pm.size {p : Array Nat} (h : Pm n p) : p.size = n := by
  have := h.perm.length_eq
  simpa using this
theorem Pm.lt {p : Array Nat} (h : Pm n p) {i : Nat} (hi : i < n) : at' p i < n := by
  have hs := h.size
  have e : p[i]? = some (p[i]'(by omega)) := Array.getElem?_eq_getElem (by omega)
  rw [at_eq, e]
  have : p[i]'(by omega) ∈ p.toList := by simp
  have := h.perm.mem_iff.mp this
  simpa using this
theorem Pm.inj {p : Array Nat} (h : Pm n p) {i j : Nat} (hi : i < n) (hj : j < n) (e : at' p i = at' p j) : i = j := by
  have hs := h.size
  have nd : p.toList.Nodup := h.perm.nodup_iff.mpr List.nodup_range
  have hi' : i < p.toList.length := by simpa using (by omega : i < p.size)
  have hj' : j < p.toList.length := by simpa using (by omega : j < p.size)
  rw [at_eq, at_eq, Array.getElem?_eq_getElem (by omega), Array.getElem?_eq_getElem (by omega)] at e
  have e' : p.toList[i] = p.toList[j] := by simpa using e
  exact (List.getElem_inj nd).mp e'
/-- ascending up to k -/
def Up (K : Nat → Nat) (p : Array Nat) (k : Nat) : Prop := ∀ i j, i < j → j < k → K (at' p i) < K (at' p j)
def Dn (K : Nat → Nat) (p : Array Nat) (k : Nat) : Prop := ∀ i j, i < j → j < k → K (at' p j) < K (at' p i)
variable (hK : ∀ i j, i < n → j < n → K i = K j → i = j)
include hK
theorem Pm.ne {p : Array Nat} (h : Pm n p) {i j : Nat} (hi : i < n) (hj : j < n) (hij : i ≠ j) : K (at' p i) ≠ K (at' p j) := fun e =>
  hij (h.inj hi hj (hK _ _ (h.lt hi) (h.lt hj) e))
theorem asc_ok {p : Array Nat} (h : Pm n p) : ∀ (f m : Nat), 1 ≤ m → m + f ≤ n → Up K p m →
    treeOk (fun i j => decide (K i < K j)) n (fun m' => m ≤ m' ∧ m' ≤ m + f ∧ Up K p m' ∧ (m' < m + f → K (at' p m') < K (at' p (m' - 1)))) (kas_asc p f m)
  | 0, m, h1, hf, hu => ⟨Nat.le_refl _, Nat.le_refl _, hu, fun x => absurd x (Nat.lt_irrefl _)⟩
  | f + 1, m, h1, hf, hu => by
    refine ⟨h.lt (by omega), h.lt (by omega), ?_⟩
    show treeOk _ n _ (if decide (K (at' p m) < K (at' p (m - 1))) = true then KasT.ret m else kas_asc p f (m + 1))
    by_cases c : K (at' p m) < K (at' p (m - 1))
    · rw [if_pos (decide_eq_true c)]
      exact ⟨Nat.le_refl _, Nat.le_add_right _ _, hu, fun _ => c⟩
    · rw [if_neg (by simpa using c)]
      have hne := h.ne hK (i := m) (j := m - 1) (by omega) (by omega) (by omega)
      have hu' : Up K p (m + 1) := fun i j hij hj => by
        by_cases q : j < m
        · exact hu i j hij q
        · have : j = m := by omega
          subst this
          by_cases r : i = j - 1
          · subst r; omega
          · have := hu i (j - 1) (by omega) (by omega)
            omega
      refine treeOk_mono (fun m' x => ?_) _ (asc_ok h f (m + 1) (by omega) (by omega) hu')
      obtain ⟨a, b, c', d⟩ := x
      exact ⟨by omega, by omega, c', fun y => d (by omega)⟩
theorem desc_ok {p : Array Nat} (h : Pm n p) : ∀ (f m : Nat), 1 ≤ m → m + f ≤ n → Dn K p m →
    treeOk (fun i j => decide (K i < K j)) n (fun r => r.1 = p ∧ r.2.2 = 0 ∧ m ≤ r.2.1 ∧ r.2.1 ≤ m + f ∧ Dn K p r.2.1) (kas_desc f p m 0)
  | 0, m, h1, hf, hu => ⟨rfl, rfl, Nat.le_refl _, Nat.le_refl _, hu⟩
  | f + 1, m, h1, hf, hu => by
    refine ⟨h.lt (by omega), h.lt (by omega), ?_⟩
    have hne := h.ne hK (i := m) (j := m - 1) (by omega) (by omega) (by omega)
    show treeOk _ n _ (if decide (K (at' p m) < K (at' p (m - 1))) = true then (if 0 > 0 then _ else kas_desc f p (m + 1) 0) else _)
    by_cases c : K (at' p m) < K (at' p (m - 1))
    · rw [if_pos (decide_eq_true c), if_neg (by omega)]
      have hu' : Dn K p (m + 1) := fun i j hij hj => by
        by_cases q : j < m
        · exact hu i j hij q
        · have : j = m := by omega
          subst this
          by_cases r : i = j - 1
          · subst r; omega
          · have := hu i (j - 1) (by omega) (by omega)
            omega
      refine treeOk_mono (fun r x => ?_) _ (desc_ok h f (m + 1) (by omega) (by omega) hu')
      obtain ⟨a, b, c', d, e⟩ := x
      exact ⟨a, b, by omega, by omega, e⟩
    · rw [if_neg (by simpa using c)]
      refine ⟨h.lt (by omega), h.lt (by omega), ?_⟩
      show treeOk _ n _ (if decide (K (at' p (m - 1)) < K (at' p m)) = true then KasT.ret (p, m, 0) else _)
      rw [if_pos (decide_eq_true (by omega))]
      exact ⟨rfl, rfl, Nat.le_refl _, Nat.le_add_right _ _, hu⟩
omit hK in
theorem rev_ok {p : Array Nat} (h : Pm n p) {m : Nat} (hm : m ≤ n) (hd : Dn K p m) : Pm n (kas_rev p 0 m) ∧ Up K (kas_rev p 0 m) m := by
  have hs := h.size
  refine ⟨⟨(Array.perm_iff_toList_perm.mp (mirror_perm _ _ _ _)).trans h.perm⟩, fun i j hij hj => ?_⟩
  have at1 : ∀ k, k < m → at' (kas_rev p 0 m) k = at' p (m - 1 - k) := fun k hk => by
    rw [at_eq, at_eq]
    have e := getElem?_mirror_all (xs := p) (i := 0) (j := m) (by omega) k
    unfold kas_rev
    rw [e, if_pos ⟨Nat.zero_le _, hk⟩, Nat.zero_add]
  rw [at1 i (by omega), at1 j hj]
  exact hd _ _ (by omega) (by omega)
theorem tail3_ok {p : Array Nat} (h : Pm n p) {m : Nat} (h1 : 1 ≤ m) (hm : m ≤ n) (hd : Dn K p m) :
    treeOk (fun i j => decide (K i < K j)) n (fun r => 1 ≤ r.1 ∧ r.1 ≤ n ∧ Pm n r.2 ∧ Up K r.2 r.1) (kas_tail3 m n p) := by
  obtain ⟨hp, hu⟩ := rev_ok h hm hd
  unfold kas_tail3
  refine treeOk_bind _ (treeOk_mono (fun m' x => ?_) _ (asc_ok hK hp (n - m) m h1 (by omega) hu))
  obtain ⟨a, b, c, _⟩ := x
  exact ⟨by omega, by omega, hp, c⟩
theorem count_ok {p : Array Nat} (h : Pm n p) (hn : 1 ≤ n) :
    treeOk (fun i j => decide (K i < K j)) n (fun r => 1 ≤ r.1 ∧ r.1 ≤ n ∧ Pm n r.2 ∧ Up K r.2 r.1) (kas_count n p) := by
  unfold kas_count
  refine treeOk_bind _ (treeOk_mono (fun m x => ?_) _ (asc_ok hK h (n - 1) 1 (Nat.le_refl _) (by omega) (fun i j hij hj => by omega)))
  obtain ⟨a, b, c, d⟩ := x
  by_cases e : m = n
  · rw [if_pos (by simpa using e)]
    exact ⟨a, by omega, h, c⟩
  rw [if_neg (by simpa using e)]
  by_cases g : m > 1
  · rw [if_pos g]
    refine ⟨h.lt (by omega), h.lt (by omega), ?_⟩
    show treeOk _ n _ (if decide (K (at' p 0) < K (at' p (m - 1))) = true then _ else _)
    rw [if_pos (decide_eq_true (c 0 (m - 1) (by omega) (by omega)))]
    exact ⟨a, by omega, h, c⟩
  · rw [if_neg g]
    have e1 : m = 1 := by omega
    subst e1
    have hd := d (by omega)
    unfold kas_descPart
    refine treeOk_bind _ (treeOk_mono (fun r x => ?_) _ (desc_ok hK h (n - (1 + 1)) (1 + 1) (by omega) (by omega) (fun i j hij hj => ?_)))
    · obtain ⟨a', b', c', d', e'⟩ := x
      rw [if_neg (by omega), a']
      exact tail3_ok hK h (by omega) (by omega) e'
    · have : i = 0 ∧ j = 1 := by omega
      rw [this.1, this.2]
      exact hd
theorem place_ok {p : Array Nat} (h : Pm n p) {k : Nat} (hk : k < n) (hu : Up K p k) : ∀ (f l r : Nat), l ≤ r → r ≤ k → r - l ≤ f → (∀ i, i < l → K (at' p i) < K (at' p k)) → (∀ i, r ≤ i → i < k → K (at' p k) < K (at' p i)) →
    treeOk (fun i j => decide (K i < K j)) n (fun l' => l' ≤ k ∧ (∀ i, i < l' → K (at' p i) < K (at' p k)) ∧ (∀ i, l' ≤ i → i < k → K (at' p k) < K (at' p i))) (kas_place p k f l r)
  | 0, l, r, h1, h2, h3, h4, h5 => by
    have : l = r := by omega
    subst this
    exact ⟨h2, h4, h5⟩
  | f + 1, l, r, h1, h2, h3, h4, h5 => by
    show treeOk _ n _ (if l ≥ r then KasT.ret l else _)
    by_cases c : l ≥ r
    · rw [if_pos c]
      have : l = r := by omega
      subst this
      exact ⟨h2, h4, h5⟩
    rw [if_neg c]
    refine ⟨h.lt hk, h.lt (by omega), ?_⟩
    show treeOk _ n _ (if decide (K (at' p k) < K (at' p ((l + r) / 2))) = true then _ else _)
    have hne := h.ne hK (i := k) (j := (l + r) / 2) hk (by omega) (by omega)
    by_cases d : K (at' p k) < K (at' p ((l + r) / 2))
    · rw [if_pos (decide_eq_true d)]
      refine place_ok h hk hu f l _ (by omega) (by omega) (by omega) h4 fun i hi hik => ?_
      by_cases e : i = (l + r) / 2
      · rw [e]; exact d
      · have := hu ((l + r) / 2) i (by omega) hik
        omega
    · rw [if_neg (by simpa using d)]
      refine place_ok h hk hu f _ r (by omega) (by omega) (by omega) (fun i hi => ?_) h5
      by_cases e : i = (l + r) / 2
      · rw [e]; omega
      · have := hu i ((l + r) / 2) (by omega) (by omega)
        omega
omit hK in
theorem bubble_ok {p : Array Nat} (h : Pm n p) {k l : Nat} (hk : k < n) (hu : Up K p k) (hl : l ≤ k) (h4 : ∀ i, i < l → K (at' p i) < K (at' p k)) (h5 : ∀ i, l ≤ i → i < k → K (at' p k) < K (at' p i)) :
    Pm n (bubble p k (k - l)) ∧ Up K (bubble p k (k - l)) (k + 1) := by
  have hs := h.size
  refine ⟨⟨(Array.perm_iff_toList_perm.mp (bubble_perm _ _ _)).trans h.perm⟩, ?_⟩
  have at1 : ∀ j, at' (bubble p k (k - l)) j = if j = l then at' p k else if l < j ∧ j ≤ k then at' p (j - 1) else at' p j := fun j => by
    rw [at_eq, getElem?_bubble (by omega) (k - l) (by omega) j, show k - (k - l) = l by omega, at_eq, at_eq, at_eq]
    (repeat' split) <;> rfl
  intro i j hij hj
  rw [at1 i, at1 j]
  by_cases a : i = l
  · rw [if_pos a, if_neg (by omega), if_pos (by omega)]
    exact h5 _ (by omega) (by omega)
  · rw [if_neg a]
    by_cases b : j = l
    · rw [if_pos b, if_neg (by omega)]
      exact h4 _ (by omega)
    · rw [if_neg b]
      by_cases c : l < i
      · rw [if_pos (by omega), if_pos (by omega)]
        exact hu _ _ (by omega) (by omega)
      · rw [if_neg (by omega)]
        by_cases d : l < j
        · rw [if_pos (by omega)]
          exact hu _ _ (by omega) (by omega)
        · rw [if_neg (by omega)]
          exact hu _ _ (by omega) (by omega)
theorem bin_ok : ∀ (f k : Nat) {p : Array Nat}, Pm n p → k + f ≤ n → Up K p k → treeOk (fun i j => decide (K i < K j)) n (fun p' => Pm n p' ∧ Up K p' (k + f)) (kas_bin f p k)
  | 0, k, p, h, hf, hu => ⟨h, hu⟩
  | f + 1, k, p, h, hf, hu => by
    show treeOk _ n _ ((kas_place p k k 0 k).bind fun l => kas_bin f (bubble p k (k - l)) (k + 1))
    refine treeOk_bind _ (treeOk_mono (fun l x => ?_) _ (place_ok hK h (by omega) hu k 0 k (Nat.zero_le _) (Nat.le_refl _) (by omega) (fun i hi => by omega) (fun i hi hik => by omega)))
    obtain ⟨a, b, c⟩ := x
    obtain ⟨hp, hu'⟩ := bubble_ok h (by omega) hu a b c
    refine treeOk_mono (fun p' y => ?_) _ (bin_ok f (k + 1) hp (by omega) hu')
    rw [show k + (f + 1) = k + 1 + f by omega]
    exact y
theorem sort_ok (hn : 1 ≤ n) : treeOk (fun i j => decide (K i < K j)) n (fun p => Pm n p ∧ Up K p n) (kas_sort n) := by
  unfold kas_sort
  refine treeOk_bind _ (treeOk_mono (fun r x => ?_) _ (count_ok hK (p := List.toArray (List.range n)) ⟨by simp⟩ hn))
  obtain ⟨a, b, c, d⟩ := x
  by_cases e : r.1 < n
  · rw [if_pos e, show max r.1 1 = r.1 by omega]
    refine treeOk_mono (fun p' y => ?_) _ (bin_ok hK (n - r.1) r.1 c (by omega) d)
    rw [show r.1 + (n - r.1) = n by omega] at y
    exact y
  · rw [if_neg e]
    have : r.1 = n := by omega
    rw [this] at d
    exact ⟨c, d⟩
end
end Mine

-- part L4
namespace Mine
def szAt (es : List Ent) (i : Nat) : Int := match es[i]? with | some e => e.size | none => 0
def RankAt (es : List Ent) (h : Heap) (i : Nat) (y : Value) : Prop := ∃ T t1 t2, y = .ref T ∧ IsTup h T #[.int (szAt es i) t1, .int i t2]
def rankK (es : List Ent) (i : Nat) : Nat := (szAt es i).toNat * 64 + i
def isSound (es : List Ent) (i : Nat) : Bool := match es[i]? with | some e => soundP e | none => false
theorem isSound_eq {es : List Ent} {i : Nat} {e : Ent} (h : es[i]? = some e) : isSound es i = soundP e := by unfold isSound; rw [h]
def placesOf (es : List Ent) : List Nat := (List.range es.length).filter (isSound es)
theorem places_len (es : List Ent) : (placesOf es).length ≤ es.length := by
  have := List.length_filter_le (isSound es) (List.range es.length)
  rwa [List.length_range] at this
theorem paired_mem {α β : Type} {R R' : α → β → Prop} : ∀ {l : List α} {ys : List β}, (∀ a ∈ l, ∀ b, R a b → R' a b) → Paired R l ys → Paired R' l ys
  | _, _, _, .nil => .nil
  | _, _, h, .cons x r => .cons (h _ (.head _) _ x) (paired_mem (fun a ha b => h a (.tail _ ha) b) r)
theorem map_getD_self (l : List Nat) : (List.range l.length).map (fun a => l.getD a 0) = l := by
  apply List.ext_getElem
  · simp
  · intro i h1 h2
    simp at h1 ⊢
    simp [h1]
theorem ranks_perm {places : List Nat} {p : Array Nat} (hp : Pm places.length p) : (p.toList.map fun a => places.getD a 0).Perm places := by
  have := hp.perm.map (fun a => places.getD a 0)
  rwa [map_getD_self] at this
theorem ranks_up {K : Nat → Nat} {places : List Nat} {p : Array Nat} (hp : Pm places.length p) (hu : Up (fun a => K (places.getD a 0)) p places.length) : (p.toList.map fun a => places.getD a 0).Pairwise (fun a b => K a < K b) := by
  rw [List.pairwise_map, List.pairwise_iff_getElem]
  intro i j hi hj hij
  have hs := hp.size
  have hi' : i < p.size := by simpa using hi
  have hj' : j < p.size := by simpa using hj
  have := hu i j hij (by omega)
  rw [at_eq, at_eq, Array.getElem?_eq_getElem hi', Array.getElem?_eq_getElem hj'] at this
  simpa using this
theorem paired_at {R : Nat → Value → Prop} : ∀ {places : List Nat} {ys : List Value}, Paired R places ys → ∀ a, a < places.length → R (places.getD a 0) (ys.getD a Value.none)
  | _, _, .nil, a, h => by simp at h
  | _, _, .cons h r, 0, _ => by simpa using h
  | _, _, .cons h r, a + 1, ha => by
    have := paired_at r a (by simpa using ha)
    simpa using this
theorem ranks_pair {R : Nat → Value → Prop} {places : List Nat} {ys : List Value} (h : Paired R places ys) : ∀ {l : List Nat}, (∀ a ∈ l, a < places.length) → Paired R (l.map fun a => places.getD a 0) (l.map fun a => ys.getD a Value.none)
  | [], _ => .nil
  | a :: r, hl => .cons (paired_at h a (hl a (.head _))) (ranks_pair h fun b hb => hl b (.tail _ hb))
theorem rank_tups {es : List Ent} {h : Heap} : ∀ {js : List Nat} {ys : List Value}, Paired (fun i y => RankAt es h i y) js ys → ∃ fs, KatTups h ys fs ∧ fs.length = js.length ∧ ∀ v ∈ fs, ∃ x t, v = Value.int x t
  | _, _, .nil => ⟨[], KatTups.nil, rfl, fun _ h => nomatch h⟩
  | _, _, .cons ⟨T, t1, t2, e, o, e1, c1, n, d1⟩ r => by
    obtain ⟨fs, h1, h2, h3⟩ := rank_tups r
    subst e
    refine ⟨_ :: fs, KatTups.cons e1 c1 d1 rfl h1, by simp [h2], fun v hv => ?_⟩
    rcases List.mem_cons.mp hv with rfl | hv
    · exact ⟨_, _, rfl⟩
    · exact h3 v hv
section
variable {prog : Program} {w : World} {A : Around} {E : Value → Shared → Prop} {s : Shared}
/-- two ranks compared -/
theorem rank_lt {es : List Ent} {i j : Nat} {x y : Value} {Q : Bool → Shared → Prop} (hx : RankAt es s.heap i x) (hy : RankAt es s.heap j y) (hi : i < 64) (hj : j < 64) (zi : 0 ≤ szAt es i) (zj : 0 ≤ szAt es j)
    (h : Q (decide (rankK es i < rankK es j)) s) : wpAny (model prog w) A (keyLt' (tuples' true) x y) Q E s := by
  obtain ⟨T, t1, t2, rfl, o, e1, c1, n, d1⟩ := hx
  obtain ⟨U, u1, u2, rfl, o', e2, c2, n', d2⟩ := hy
  refine kat_lt e1 d1 e2 d2 ?_
  show KatLex _ _ _ _ _ _ [(Value.int (szAt es i) t1, Value.int (szAt es j) u1), (Value.int (i : Nat) t2, Value.int (j : Nat) u2)] 0 s
  refine kat_cons (wpAny_eqBool_int ?_)
  unfold rankK at h
  by_cases q : szAt es i = szAt es j
  · rw [show (szAt es i == szAt es j) = true by simpa using q]
    refine kat_yes (kat_cons (wpAny_eqBool_int ?_))
    by_cases r : i = j
    · subst r
      rw [beq_self_eq_true]
      refine kat_yes (kat_nil ?_)
      rw [show decide ((szAt es i).toNat * 64 + i < (szAt es i).toNat * 64 + i) = false from decide_eq_false (by omega)] at h
      simpa using h
    · rw [show ((i : Int) == (j : Int)) = false from beq_eq_false_iff_ne.mpr (by omega)]
      refine kat_no ?_
      show wpAny _ _ (oneLt' false _ _) _ _ _
      refine kat_one _ _ (lt_int ?_)
      show Q (decide ((i : Int) < (j : Int))) s
      have : decide ((i : Int) < (j : Int)) = decide ((szAt es i).toNat * 64 + i < (szAt es j).toNat * 64 + j) := by
        rw [q]
        by_cases z : i < j
        · rw [decide_eq_true (by omega), decide_eq_true (by omega)]
        · rw [decide_eq_false (by omega), decide_eq_false (by omega)]
      rw [this]
      exact h
  · rw [show (szAt es i == szAt es j) = false from beq_eq_false_iff_ne.mpr q]
    refine kat_no ?_
    show wpAny _ _ (oneLt' true _ _) _ _ _
    refine oneLt_int ?_
    have : decide (szAt es i < szAt es j) = decide ((szAt es i).toNat * 64 + i < (szAt es j).toNat * 64 + j) := by
      by_cases z : szAt es i < szAt es j
      · rw [decide_eq_true z, decide_eq_true (by omega)]
      · rw [decide_eq_false z, decide_eq_false (by omega)]
    rw [this]
    exact h
end
theorem szAt_nonneg {es : List Ent} {i : Nat} (h : i ∈ placesOf es) : 0 ≤ szAt es i ∧ i < es.length := by
  unfold placesOf at h
  obtain ⟨h1, h2⟩ := List.mem_filter.mp h
  have hi : i < es.length := by simpa using h1
  refine ⟨?_, hi⟩
  rw [isSound_eq (List.getElem?_eq_getElem hi)] at h2
  unfold szAt
  rw [List.getElem?_eq_getElem hi]
  exact of_decide_eq_true h2
end Mine

-- part S8
namespace Mine
local macro_rules | `(tactic| walk_at "eval ListComp") => `(tactic| refine stop ?_)
local macro_rules | `(tactic| walk_at "call type:enumerate") => `(tactic| refine stop ?_)
local macro_rules | `(tactic| walk_at "newTuple") => `(tactic| refine stop ?_)
local macro_rules | `(tactic| walk_at "call builtin:sorted") => `(tactic| refine stop ?_)
local macro_rules | `(tactic| walk_at "eval Name") => `(tactic| ((with_reducible show wpAny _ _ (eval (Expr.Name _ _) (compEnvC _ _ _ _)) _ _ _); refine ldC (by assumption) (by assumption) ?_))
section
variable {w : World} {p : Program} {loose : List Str} {mean : ExcName → Option Value} {mg mb : Str → Option Value} {G : Heap} {L fa : Addr} {cd : Value} {m : Str → Option Value} {s : Shared} {Q : Flow → Shared → Prop} {E : Value → Shared → Prop}
  {D I O R : Addr} {evs ivs ovs rvs : List Value} {es : List Ent} {dv ev : Option Value}
set_option pp.deepTerms false
set_option pp.deepTerms.threshold 8
set_option pp.maxSteps 2000
theorem st8 (B : Amb w p loose mean mg mb G) (S : LawSt G L s.heap m (some (.ref D)) dv) (hD : s.heap.IsList D evs.toArray) (hE : EntsAt s.heap evs es) (hlen : es.length ≤ 12) (h2 : 2 ≤ (placesOf es).length)
   (h : ∀ R rvs js h' tk' m', LawSt G L h' m' (some (.ref D)) dv → Move (frees L) s.heap h' → m' (Str.ofString "sound") = m (Str.ofString "sound") → m' (Str.ofString "ranks") = some (.ref R) → h'.IsList R rvs.toArray → Paired (fun i y => RankAt es h' i y) js rvs → js.Perm (placesOf es) → js.Pairwise (fun a b => rankK es a < rankK es b) → Q .next { s with heap := h', toks := tk' }) :
   wpAny (model Challenge.rw_mq0130_01.row.prog w) (callerA.deeper (lawEnv L fa cd)) (exec (stm 7) (lawEnv L fa cd)) Q E s := by
  have X := B.X
  revert X
  k_fill
  intro X
  have T := B.T
  have F := S.F
  obtain ⟨od, oe, rest, N, hod, hoe, hall⟩ := S.all
  show wpAny _ _ (exec (Stmt.Assign _ _ _) _) _ _ _
  k_steps
  refine Stop.out ?_
  refine lcWalkT (fun i y h => ∀ e, es[i]? = some e → ∃ T t1 t2, y = .ref T ∧ IsTup h T #[.int e.size t1, .int i t2]) ?_ rfl (by decide) rfl (by decide) ?_
  · intro i y h h' k r e he
    obtain ⟨T, t1, t2, h1, h2⟩ := r e he
    exact ⟨T, t1, t2, h1, k _ _ h2⟩
  k_steps
  refine Stop.out ?_
  refine call_enumerate_list hD fun h₁ he hi hsz hk => ?_
  have hDne : D ≠ s.heap.objs.size + 1 ∧ D ≠ s.heap.objs.size := by
    obtain ⟨o, e, _⟩ := hD
    have := Heap.lt_size e
    exact ⟨Nat.ne_of_lt (Nat.lt_succ_of_lt this), Nat.ne_of_lt this⟩
  have W := WalksT.enumerate (prog := Challenge.rw_mq0130_01.row.prog) (w := w) (A := callerA.deeper (lawEnv L fa cd)) rfl (s.heap.objs.size + 1) s.heap.objs.size D (Nat.succ_ne_self _) hDne.1 hDne.2 evs.toArray
  refine wpAny_pyIter_enum he ?_
  have hlE : evs.length = es.length := ents_len hE
  have hD₁ : h₁.IsList D evs.toArray := hD.at fun o e => hk _ o e
  have F₁ := F.keeps hk
  refine ⟨_, _, _, _, isSound es, fun i m => ∃ t v, m (Str.ofString "place") = some (.int i t) ∧ m (Str.ofString "entry") = some v ∧ evs[i]? = some v, _, _, _, rfl, W, ?_, by simp; omega, ⟨⟨_, he⟩, hi, hD₁⟩, ?_, ?_, ?_, ?_, ?_⟩
  · rintro i h a its ⟨⟨old, e1⟩, ⟨o, e2, c2, _⟩, _⟩ ⟨o', e3, c3, _⟩ hm
    rcases List.mem_cons.mp hm with rfl | hm
    · rw [e1] at e3; cases e3; exact absurd (show (Value.type "enumerate") = Value.type "tuple" from c3) (by decide)
    · rw [List.mem_singleton.mp hm, e2] at e3; cases e3; rw [c2] at c3; exact absurd c3 (by decide)
  · intro b hb
    simp only [List.mem_cons, List.not_mem_nil, or_false] at hb
    rcases hb with rfl | rfl | rfl
    · exact Heap.lt_size he
    · obtain ⟨o, e, _⟩ := hi; exact Heap.lt_size e
    · obtain ⟨o, e, _⟩ := hD₁; exact Heap.lt_size e
  · rintro C i T vals h tk m Q E' hi' ⟨t, x, hx, rfl⟩ ht hn hS H
    exact asgTup2 rfl rfl rfl (by decide) rfl hn ht fun h' m' tk' hn' hm' hk' => H h' m' tk' hn' ⟨t, x, hm'.1, hm'.2, by simpa using hx⟩ hk'
  · rintro C i h tk m E' hi' hn ⟨t, v, hp, hv, hx⟩ hS
    obtain ⟨e, he', T', t2, t3, t4, rfl, ht⟩ := ents_item hE i v hx
    have st : s.heap.StaysIn h := fun b o e => hS b o (fun hm => by
      have := Heap.lt_size e
      simp only [List.mem_cons, List.not_mem_nil, or_false] at hm
      rcases hm with rfl | rfl
      · exact absurd this (Nat.not_lt.mpr (Nat.le_succ _))
      · exact absurd this (Nat.lt_irrefl _)) (hk b o e)
    have ht₂ := stays_tup st ht
    have F₂ := F.keeps st
    clear F F₁ N hall hS
    refine wpAny_tests_one ?_
    show wpAny _ _ _ (TestOk _ { s with heap := h, toks := tk }) _ { s with heap := h, toks := tk }
    k_steps
    exact ⟨by rw [isSound_eq he']; rfl, keeps_tok⟩
  · rintro C i h tk m E' hi' hpr hn ⟨t, v, hp, hv, hx⟩ hS
    obtain ⟨e, he', T', t2, t3, t4, rfl, ht⟩ := ents_item hE i v hx
    have st : s.heap.StaysIn h := fun b o e => hS b o (fun hm => by
      have := Heap.lt_size e
      simp only [List.mem_cons, List.not_mem_nil, or_false] at hm
      rcases hm with rfl | rfl
      · exact absurd this (Nat.not_lt.mpr (Nat.le_succ _))
      · exact absurd this (Nat.lt_irrefl _)) (hk b o e)
    have ht₂ := stays_tup st ht
    have F₂ := F.keeps st
    clear F F₁ N hall hS
    show wpAny _ _ _ (EltOk _ { s with heap := h, toks := tk }) _ { s with heap := h, toks := tk }
    k_steps
    refine Stop.out (wpAny_newTuple ?_ (by size_fits))
    refine ⟨fun e'' he'' => ?_, keeps_of fun b o e => Heap.get?_push_of_some _ e⟩
    rw [he'] at he''; cases he''
    exact ⟨_, t3, t, rfl, _, Heap.get?_push_size _ rfl, rfl, _, rfl⟩
  · intro D₂ h₂ tk₂ ys hD₂ hl₂ hP hS
    have st : s.heap.StaysIn h₂ := fun b o e => hS b o (fun hm => by
      have := Heap.lt_size e
      simp only [List.mem_cons, List.not_mem_nil, or_false] at hm
      rcases hm with rfl | rfl
      · exact absurd this (Nat.not_lt.mpr (Nat.le_succ _))
      · exact absurd this (Nat.lt_irrefl _)) (hk b o e)
    have S₂ := S.next (S.F.keeps st) fun b o _ e => st b o e
    have M₂ : Move (frees L) s.heap h₂ := Move.of_stays st
    have hPl : Paired (fun i y => RankAt es h₂ i y) (placesOf es) ys.toList := by
      rw [show evs.toArray.size = es.length by simpa using hlE] at hP
      refine paired_mem (fun i hi y hr => ?_) hP
      have hi' := (szAt_nonneg hi).2
      obtain ⟨T, t1, t2, e, ht⟩ := hr _ (List.getElem?_eq_getElem hi')
      refine ⟨T, t1, t2, e, ?_⟩
      unfold szAt
      rw [List.getElem?_eq_getElem hi']
      exact ht
    clear F F₁ N hall hP
    have F := S₂.F
    obtain ⟨od, oe, rest, N, hod, hoe, hall⟩ := S₂.all
    show wpAny _ _ _ _ _ { s with heap := h₂, toks := tk₂ }
    k_steps
    refine Stop.out ?_
    have hpl := Paired.length hPl
    have hp12 := places_len es
    refine kat_sorted (vs := ys.toList) F N (by simpa using hl₂.isList) (by omega) (by omega) fun R e1 h₃ F₃ N₃ hlt => ?_
    have k₃ := hall h₃ F₃.keep fun q hq => (N₃ q (.tail _ hq)).1
    have S₃ := S₂.next F₃ k₃
    have M₃ : Move (frees L) h₂ h₃ := fun b o hb e => k₃ b o (fun z => hb (by simp [z])) e
    have hP₃ : Paired (fun i y => RankAt es h₃ i y) (placesOf es) ys.toList := hPl.mono fun i y ⟨T, t1, t2, e, ht⟩ => ⟨T, t1, t2, e, S₂.tup ht M₃⟩
    obtain ⟨fs, hf1, hf2, hf3⟩ := rank_tups hP₃
    refine kat_kind (T := Value.type "int") hf1 (by omega) (fun v hv => ?_) rfl ?_
    · obtain ⟨x, t, rfl⟩ := hf3 v hv
      exact Looks.of_pure rfl
    have hn : 1 ≤ (placesOf es).length := by omega
    have nd : (placesOf es).Nodup := List.Pairwise.filter _ List.nodup_range
    have gd : ∀ a, a < (placesOf es).length → (placesOf es).getD a 0 ∈ placesOf es := fun a ha => by
      rw [List.getD_eq_getElem?_getD, List.getElem?_eq_getElem ha]; exact List.getElem_mem ha
    have hK : ∀ i j, i < (placesOf es).length → j < (placesOf es).length → rankK es ((placesOf es).getD i 0) = rankK es ((placesOf es).getD j 0) → i = j := fun i j hi hj e => by
      have a1 := szAt_nonneg (gd i hi)
      have a2 := szAt_nonneg (gd j hj)
      have e2 : (placesOf es).getD i 0 = (placesOf es).getD j 0 := by unfold rankK at e; omega
      rw [List.getD_eq_getElem?_getD, List.getD_eq_getElem?_getD, List.getElem?_eq_getElem hi, List.getElem?_eq_getElem hj] at e2
      exact (List.getElem_inj nd).mp (by simpa using e2)
    have tr := sort_ok (K := fun a => rankK es ((placesOf es).getD a 0)) hK hn
    rw [show ys.toList.length = (placesOf es).length by omega]
    refine treeOk_wp (P := fun s' => s' = { s with heap := h₃, toks := tk₂ }) ?_ ?_ _ _ tr rfl
    · rintro i j C s' hi hj rfl hC
      refine rank_lt (es := es) (i := (placesOf es).getD i 0) (j := (placesOf es).getD j 0) (paired_at hP₃ i hi) (paired_at hP₃ j hj) (by have := (szAt_nonneg (gd i hi)).2; omega) (by have := (szAt_nonneg (gd j hj)).2; omega) (szAt_nonneg (gd i hi)).1 (szAt_nonneg (gd j hj)).1 (hC _ rfl)
    · rintro p' s' ⟨hp1, hp2⟩ rfl
      have hp : Pm (placesOf es).length p' := hp1
      refine KasFin.intro F₃ N₃ (.head fun q hq => Nat.ne_of_lt (hlt q hq)) fun h₄ c F₄ N₄ => ?_
      have k₄ := hall h₄ F₄.keep fun q hq => (N₄ q (.tail _ hq)).1
      have S₄ := S₂.next F₄ k₄
      have M₄ : Move (frees L) h₂ h₄ := fun b o hb e => k₄ b o (fun z => hb (by simp [z])) e
      have mp : ∀ a ∈ p'.toList, a < (placesOf es).length := fun a ha => by simpa using hp.perm.mem_iff.mp ha
      have hr := ranks_pair hP₃ mp
      clear F₃ N₃ F N
      show wpAny _ _ _ _ _ { s with heap := h₄, toks := tk₂ }
      k_steps
      (rename Fr _ _ _ _ => F₅); (rename News _ _ _ _ => N₅)
      have k₅ := hall _ F₅.keep fun q hq => (N₅ q (.tail _ hq)).1
      have S₅ := S₂.next F₅ k₅
      have M₅ : Move (frees L) h₂ _ := fun b o hb e => k₅ b o (fun z => hb (by simp [z])) e
      have hr' : Paired (fun i y => RankAt es _ i y) _ _ := (ranks_pair hPl mp).mono fun i y ⟨T, t1, t2, e, ht⟩ => ⟨T, t1, t2, e, S₂.tup ht M₅⟩
      exact h R _ _ _ _ _ S₅ (M₂.trans M₅) rfl rfl ⟨_, (N₅ _ (.head _)).1, rfl, _, rfl⟩ hr' (ranks_perm hp) (ranks_up hp hp2)
end
end Mine

-- part S9
namespace Mine
local macro_rules | `(tactic| walk_at "eval ListComp") => `(tactic| refine stop ?_)
local macro_rules | `(tactic| walk_at "subscriptTail") => `(tactic| refine stop ?_)
local macro_rules | `(tactic| walk_at "eval Name") => `(tactic| ((with_reducible show wpAny _ _ (eval (Expr.Name _ _) (compEnvC _ _ _ _)) _ _ _); first | with_reducible refine ldC (by assumption) (by assumption) ?_ (by with_unfolding_all rfl) (by with_unfolding_all rfl) (by decide +kernel) | with_reducible refine ldCell (by with_unfolding_all rfl) (by assumption) (by assumption) ?_ (by with_unfolding_all rfl) (by with_unfolding_all rfl) (by decide +kernel)))
theorem paired_all' {α : Type} {R' : α → Value → Prop} {full : List α} : ∀ (l : List α) (k : Nat) (ys : List Value), (∀ i, full[k + i]? = l[i]?) →
    Paired (fun i y => ∀ a, full[i]? = some a → R' a y) (List.range' k l.length) ys → Paired R' l ys
  | [], k, ys, _, h => by
    cases h
    exact .nil
  | e :: r, k, ys, hk, h => by
    have e0 : full[k]? = some e := by simpa using hk 0
    have hr : ∀ i, full[k + 1 + i]? = r[i]? := fun i => by
      have := hk (i + 1)
      rw [show k + 1 + i = k + (i + 1) by omega]
      simpa using this
    rw [List.length_cons, List.range'_succ] at h
    cases h with
    | cons h1 h2 => exact .cons (h1 e e0) (paired_all' r (k + 1) _ hr h2)
theorem paired_all {α : Type} {R' : α → Value → Prop} {l : List α} {n : Nat} (hn : n = l.length) {ys : List Value} (h : Paired (fun i y => ∀ a, l[i]? = some a → R' a y) (List.range n) ys) : Paired R' l ys := by
  subst hn
  rw [List.range_eq_range'] at h
  exact paired_all' l 0 ys (fun i => by rw [Nat.zero_add]) h
theorem paired_item {α : Type} {R : α → Value → Prop} : ∀ {l : List α} {ys : List Value}, Paired R l ys → ∀ (i : Nat) (v : Value), ys[i]? = some v → ∃ a, l[i]? = some a ∧ R a v
  | _, _, .nil, i, v, h => by simp at h
  | _, _, .cons a r, 0, v, h => by
    simp only [List.getElem?_cons_zero, Option.some.injEq] at h
    subst h
    exact ⟨_, rfl, a⟩
  | _, _, .cons a r, i + 1, v, h => by
    obtain ⟨e, h1, h2⟩ := paired_item r i v (by simpa using h)
    exact ⟨e, by simpa using h1, h2⟩
def dueOf (es : List Ent) (js : List Nat) : List Ent := js.filterMap (es[·]?)
theorem due_ents {h : Heap} {evs : List Value} {es : List Ent} (hE : EntsAt h evs es) : ∀ {js : List Nat} {dvs : List Value}, Paired (fun j y => evs[j]? = some y) js dvs → EntsAt h dvs (dueOf es js)
  | _, _, .nil => .nil
  | j :: _, _, .cons x r => by
    obtain ⟨e, h1, h2⟩ := ents_item hE j _ x
    unfold dueOf
    rw [List.filterMap_cons, h1]
    exact .cons h2 (due_ents hE r)
section
variable {w : World} {p : Program} {loose : List Str} {mean : ExcName → Option Value} {mg mb : Str → Option Value} {G : Heap} {L fa : Addr} {cd : Value} {m : Str → Option Value} {s : Shared} {Q : Flow → Shared → Prop} {E : Value → Shared → Prop}
  {D I O R : Addr} {evs ivs ovs rvs : List Value} {es : List Ent} {dv ev : Option Value} {js : List Nat}
set_option pp.deepTerms false
set_option pp.deepTerms.threshold 8
set_option pp.maxSteps 2000
theorem st9 (B : Amb w p loose mean mg mb G) (S : LawSt G L s.heap m (some (.ref D)) dv) (hD : s.heap.IsList D evs.toArray) (hE : EntsAt s.heap evs es) (hlen : es.length ≤ 12)
   (hm : m (Str.ofString "ranks") = some (.ref R)) (hR : s.heap.IsList R rvs.toArray) (hP : Paired (fun i y => RankAt es s.heap i y) js rvs) (hjs : ∀ j ∈ js, j < es.length) (hjl : js.length ≤ 12)
   (h : ∀ U dvs h' tk', LawSt G L h' m (some (.ref D)) (some (.ref U)) → Move (frees L) s.heap h' → h'.IsList U dvs.toArray → EntsAt h' dvs (dueOf es js) → Q .next { s with heap := h', toks := tk' }) :
   wpAny (model Challenge.rw_mq0130_01.row.prog w) (callerA.deeper (lawEnv L fa cd)) (exec (stm 8) (lawEnv L fa cd)) Q E s := by
  have X := B.X
  revert X
  k_fill
  intro X
  have T := B.T
  obtain ⟨u, F⟩ := fr1 S.F hm
  obtain ⟨od, oe, rest, N, hod, hoe, hall⟩ := S.all
  show wpAny _ _ (exec (Stmt.Assign _ _ _) _) _ _ _
  refine wpAny_Assign_Name ?_
  refine lcListX (fun i y h => ∀ j, js[i]? = some j → evs[j]? = some y) rfl (fun i y h h' _ r => r) rfl (by decide) rfl (by decide) ?_
  k_steps
  have hlJ : rvs.length = js.length := (Paired.length hP).symm
  show ListPost _ _ _ _ _ _ _ _ _ _ _ _ { s with heap := s.heap, toks := _ }
  refine ⟨R, rvs.toArray, fun _ => true, fun i m => ∀ j, js[i]? = some j → ∃ t, m (Str.ofString "place") = some (.int (j : Nat) t), rfl, hR, by simp; omega, fun i v hv => .inr ⟨⟨_, _, _, rfl⟩, ?_⟩, ⟨?_, ?_, ?_⟩, ?_⟩
  · obtain ⟨j, hj, T, t1, t2, rfl, ht⟩ := paired_item hP i v (by simpa using hv)
    exact ⟨T, rfl⟩
  · intro C i v h tk m Q E' hv hC hn hS H
    obtain ⟨j, hj, T, t1, t2, rfl, ht⟩ := paired_item hP i v (by simpa using hv)
    refine asgTup2 rfl rfl rfl (by decide) rfl hn (stays_tup hS ht) fun h' m' tk' hn' hm' hk' => H h' m' tk' hn' ?_ hk'
    intro j' hj'
    rw [hj] at hj'; cases hj'
    exact ⟨t2, hm'.2⟩
  · intro C i h tk m E' hi hC hn hB hS
    exact wpAny_tests_nil ⟨rfl, keeps_tok⟩
  · intro C i h₂ tk m E' hi _ hC hn hB hS
    obtain ⟨j, hj⟩ : ∃ j, js[i]? = some j := ⟨_, List.getElem?_eq_getElem (by simp at hi; omega)⟩
    obtain ⟨t, hp⟩ := hB j hj
    have hje := hjs j (List.mem_of_getElem? hj)
    have hlE : evs.length = es.length := ents_len hE
    have F₂ := F.keeps hS
    have hoe₂ := hS _ _ (N _ (.tail _ (.head _))).1
    have hD₂ := stays_list hS hD
    clear F N hall
    show wpAny _ _ _ (EltOk _ { s with heap := h₂, toks := tk }) _ { s with heap := h₂, toks := tk }
    k_steps
    refine Stop.out ?_
    have hjl : j < evs.length := by omega
    have hx : evs[j]? = some evs[j] := List.getElem?_eq_getElem hjl
    refine tail_any hD₂.typeIs slot_list_getitem.lookup (wpAny_getItem_list hD₂ (k := (j : Nat)) (by omega) (by omega) (show evs.toArray[((j : Nat) : Int).toNat]? = some evs[j] by simpa using hx) ?_) (by with_unfolding_all rfl)
    refine ⟨fun j' hj' => ?_, keeps_tok⟩
    rw [hj] at hj'; cases hj'
    exact hx
  · intro D₂ h₂ tk₂ ys hD₂ hl₂ hP₂ hS₂
    have S₂ := S.next (S.F.keeps hS₂) fun b o _ e => hS₂ b o e
    rw [List.filter_eq_self.mpr fun _ _ => rfl] at hP₂
    have hpr := paired_all (l := js) (by simpa using hlJ) hP₂
    have hM : Move (frees L) s.heap h₂ := Move.of_stays hS₂
    have hE₂ := due_ents (hE.move S hM) hpr
    show wpAny _ _ _ _ _ { s with heap := h₂, toks := tk₂ }
    refine S₂.storeD fun h₃ S₃ M => ?_
    have hlD : h₂.IsList D₂ ys.toList.toArray := by simpa using hl₂.isList
    exact h D₂ ys.toList _ _ S₃ (hM.trans M) (S₂.list hlD M) (hE₂.move S₂ M)
end
end Mine

-- part S11
namespace Mine
local macro_rules | `(tactic| walk_at "eval ListComp") => `(tactic| refine stop ?_)
local macro_rules | `(tactic| walk_at "exec Assign cons ListComp") => `(tactic| refine stop ?_)
local macro_rules | `(tactic| walk_at "compareOp NotEq ref ref") => `(tactic| refine stop ?_)
local macro_rules | `(tactic| walk_at "eval Name") => `(tactic| ((with_reducible show wpAny _ _ (eval (Expr.Name _ _) (compEnvC _ _ _ _)) _ _ _); refine ldC (by assumption) (by assumption) ?_))
section
variable {w : World} {p : Program} {loose : List Str} {mean : ExcName → Option Value} {mg mb : Str → Option Value} {G : Heap} {L fa : Addr} {cd : Value} {m : Str → Option Value} {s : Shared} {Q : Flow → Shared → Prop} {E : Value → Shared → Prop}
  {D I : Addr} {evs ivs : List Value} {es : List Ent} {dv ev : Option Value}
set_option pp.deepTerms false
set_option pp.deepTerms.threshold 8
set_option pp.maxSteps 2000
theorem st11 (B : Amb w p loose mean mg mb G) (S : LawSt G L s.heap m ev (some (.ref D))) (hD : s.heap.IsList D evs.toArray) (hE : EntsAt s.heap evs es) (hg : ∀ e ∈ es, e.Good) (hlen : es.length ≤ 12)
   (hm : m (Str.ofString "row") = some (.ref I)) (hI : s.heap.IsList I ivs.toArray) (hS : StrsAre ivs (es.map itemE))
   (h : ∀ h' tk', LawSt G L h' m ev (some (.ref D)) → Move (frees L) s.heap h' → Q .next { s with heap := h', toks := tk' }) :
   wpAny (model Challenge.rw_mq0130_01.row.prog w) (callerA.deeper (lawEnv L fa cd)) (exec (stm 10) (lawEnv L fa cd)) Q E s := by
  have X := B.X
  revert X
  k_fill
  intro X
  have T := B.T
  obtain ⟨u, F⟩ := fr1 S.F hm
  obtain ⟨od, oe, rest, N, hod, hoe, hall⟩ := S.all
  show wpAny _ _ (exec (Stmt.If _ _ _ _) _) _ _ _
  k_steps
  refine Stop.out ?_
  refine lcListX (fun i y h => ∀ e, es[i]? = some e → ∃ t, y = .str (itemE e) t) rfl (fun i y h h' _ r => r) rfl (by decide) rfl (by decide) ?_
  k_steps
  have hlE : evs.length = es.length := ents_len hE
  show ListPost _ _ _ _ _ _ _ _ _ _ _ _ { s with heap := s.heap, toks := _ }
  refine ⟨D, evs.toArray, fun _ => true, fun i m => Parts es i m, rfl, hD, by simp; omega, fun i v hv => .inr ⟨⟨_, _, _, rfl⟩, ?_⟩, ⟨?_, ?_, ?_⟩, ?_⟩
  · obtain ⟨e, he, T, t2, t3, t4, rfl, ht⟩ := ents_item hE i v (by simpa using hv)
    exact ⟨T, rfl⟩
  · intro C i v h tk m Q E' hv hC hn hS H
    obtain ⟨e, he, T, t2, t3, t4, rfl, ht⟩ := ents_item hE i v (by simpa using hv)
    refine asgTup3 rfl rfl rfl rfl (by decide) (by decide) (by decide) rfl hn (stays_tup hS ht) fun h' m' tk' hn' hm' hk' => H h' m' tk' hn' ?_ hk'
    intro e' he'
    rw [he] at he'; cases he'
    exact ⟨t2, t3, t4, hm'⟩
  · intro C i h tk m E' hi hC hn hB hS
    exact wpAny_tests_nil ⟨rfl, keeps_tok⟩
  · intro C i h₂ tk m E' hi _ hC hn hB hS
    obtain ⟨e, he⟩ : ∃ e, es[i]? = some e := ⟨_, List.getElem?_eq_getElem (by simp at hi; omega)⟩
    obtain ⟨t2, t3, t4, hk, hs, hv⟩ := hB e he
    obtain ⟨hl1, hl2⟩ := (hg e (List.mem_of_getElem? he)).lens
    have F₂ := F.keeps hS
    clear F N hall
    show wpAny _ _ _ (EltOk _ { s with heap := h₂, toks := tk }) _ { s with heap := h₂, toks := tk }
    k_steps
    refine item_spec (ok_of B F₂) (by omega) (by omega) fun t h'' tk'' st' => ⟨fun e' he' => ?_, h'', tk'', rfl, fun b o q => st' b o q⟩
    rw [he] at he'; cases he'
    exact ⟨t, rfl⟩
  · intro D₂ h₂ tk₂ ys hD₂ hl₂ hP hS₂
    have S₂ := S.next (S.F.keeps hS₂) fun b o _ e => hS₂ b o e
    have hst := strs_paired (paired_pick (p := fun _ => true) (by simpa using hlE) (fun _ _ _ => rfl) hP)
    rw [List.filter_eq_self.mpr fun _ _ => rfl] at hst
    have hM : Move (frees L) s.heap h₂ := Move.of_stays hS₂
    clear hP N hall F
    show wpAny _ _ _ _ _ { s with heap := h₂, toks := tk₂ }
    k_steps
    refine Stop.out ?_
    obtain ⟨as, ra⟩ := reads_strList (S.list hI hM) hS
    obtain ⟨bs, rb⟩ := reads_strList hl₂.isList (by simpa using hst)
    refine ne_dat (n := 1) (by decide) (strs_ok fun y hy => ?_) ra rb (by ke_room) ?_
    · obtain ⟨e, he, rfl⟩ := List.mem_map.mp hy
      exact (hg e he).okItem
    k_steps
    exact h _ _ S₂ hM
end
end Mine

-- part S12
namespace Mine
section
variable {w : World} {p : Program} {loose : List Str} {mean : ExcName → Option Value} {mg mb : Str → Option Value} {G : Heap} {L fa : Addr} {cd : Value} {m : Str → Option Value} {s : Shared} {Q : Flow → Shared → Prop} {E : Value → Shared → Prop}
  {D I O R U : Addr} {evs ivs ovs rvs : List Value} {es : List Ent} {dv ev : Option Value} {js : List Nat}
set_option pp.deepTerms false
set_option pp.deepTerms.threshold 8
set_option pp.maxSteps 2000
theorem st12 (B : Amb w p loose mean mg mb G) (S : LawSt G L s.heap m ev dv) (hm : m (Str.ofString "row") = some (.ref R))
   (h : ∀ K n h' tk' m', LawSt G L h' m' ev dv → Move (frees L) s.heap h' → m' (Str.ofString "row") = some (.ref R) → m' (Str.ofString "keys") = some (.ref K) → h'.get? K = some (W.listOf #[] n) → G.get? K = none → Q .next { s with heap := h', toks := tk' }) :
   wpAny (model Challenge.rw_mq0130_01.row.prog w) (callerA.deeper (lawEnv L fa cd)) (exec (stm 11) (lawEnv L fa cd)) Q E s := by
  have X := B.X
  revert X
  k_fill
  intro X
  have T := B.T
  obtain ⟨u, F⟩ := fr1 S.F hm
  obtain ⟨od, oe, rest, N, hod, hoe, hall⟩ := S.all
  show wpAny _ _ (exec (Stmt.Assign _ _ _) _) _ _ _
  k_steps
  (rename Fr _ _ _ _ => F₂); (rename News _ _ _ _ => N₂)
  have k₂ := hall _ F₂.keep fun q hq => (N₂ q (.tail _ hq)).1
  have S₂ := S.next F₂ k₂
  have M₂ : Move (frees L) s.heap _ := fun b o hb e => k₂ b o (fun z => hb (by simp [z])) e
  exact h _ _ _ _ _ S₂ M₂ rfl rfl (N₂ _ (.head _)).1 (N₂ _ (.head _)).2.2
end
end Mine

-- part S13
namespace Mine
local macro_rules | `(tactic| walk_at "compareOp NotIn") => `(tactic| refine stop ?_)
local macro_rules | `(tactic| walk_at "compareOp NotIn str ref") => `(tactic| refine stop ?_)
local macro_rules | `(tactic| walk_at "call builtin:list.append") => `(tactic| refine stop ?_)
def keyStep (ks : List Str) (e : Ent) : List Str := if e.key ∈ ks then ks else ks ++ [e.key]
def keysF (es : List Ent) : List Str := es.foldl keyStep []
theorem keyStep_len (ks : List Str) (e : Ent) : (keyStep ks e).length ≤ ks.length + 1 := by unfold keyStep; split <;> simp
theorem keys_len' : ∀ (es : List Ent) (ks : List Str), (es.foldl keyStep ks).length ≤ ks.length + es.length
  | [], ks => by simp
  | e :: r, ks => by
    have := keys_len' r (keyStep ks e)
    have := keyStep_len ks e
    simp only [List.foldl_cons, List.length_cons]
    omega
theorem keys_mem' : ∀ (es : List Ent) (ks : List Str) (k : Str), k ∈ es.foldl keyStep ks → k ∈ ks ∨ ∃ e ∈ es, e.key = k
  | [], ks, k, h => .inl h
  | e :: r, ks, k, h => by
    rcases keys_mem' r (keyStep ks e) k h with h | ⟨x, hx, h⟩
    · unfold keyStep at h
      split at h
      · exact .inl h
      · rcases List.mem_append.mp h with h | h
        · exact .inl h
        · exact .inr ⟨e, .head _, (List.mem_singleton.mp h).symm⟩
    · exact .inr ⟨x, .tail _ hx, h⟩
theorem keys_take_succ {es : List Ent} {i : Nat} {e : Ent} (h : es[i]? = some e) : keysF (es.take (i + 1)) = keyStep (keysF (es.take i)) e := by
  unfold keysF
  rw [List.take_add_one, h, List.foldl_append]
  rfl
section
variable {G h : Heap} {L K : Addr} {m : Str → Option Value} {ce dv : Option Value}
theorem LawSt.all2 (S : LawSt G L h m ce dv) : ∃ od oe rest, News G L h ((L + 1 + 1, od) :: (L + 1, oe) :: rest) ∧ od.data = .cell dv ∧ oe.data = .cell ce ∧
    ∀ b o, b ≠ L → h.get? b = some o → G.get? b = some o ∨ (b, o) ∈ rest := by
  obtain ⟨od, oe, N, hd, he⟩ := S.news
  let rest : List (Addr × Obj) := (List.range h.objs.size).filterMap fun b => if b = L ∨ (G.get? b).isSome = true then none else (h.get? b).map fun o => (b, o)
  have mem : ∀ q, q ∈ rest ↔ (h.get? q.1 = some q.2 ∧ q.1 ≠ L ∧ G.get? q.1 = none) := fun q => by
    show q ∈ List.filterMap _ _ ↔ _
    rw [List.mem_filterMap]
    constructor
    · rintro ⟨b, hb, e⟩
      by_cases c : b = L ∨ (G.get? b).isSome = true
      · rw [if_pos c] at e; cases e
      · rw [if_neg c] at e
        obtain ⟨o, eo, rfl⟩ := Option.map_eq_some_iff.mp e
        refine ⟨eo, fun z => c (.inl z), ?_⟩
        cases z : G.get? b with
        | none => rfl
        | some _ => exact absurd (.inr (by rw [z]; rfl)) c
    · rintro ⟨e, h1, h2⟩
      refine ⟨q.1, List.mem_range.mpr (Heap.lt_size e), ?_⟩
      rw [if_neg (by rintro (z | z); exact h1 z; rw [h2] at z; cases z), e]
      rfl
  refine ⟨od, oe, rest, fun q hq => ?_, hd, he, fun b o hb e => ?_⟩
  · rcases List.mem_cons.mp hq with rfl | hq
    · exact N _ (.head _)
    rcases List.mem_cons.mp hq with rfl | hq
    · exact N _ (.tail _ (.head _))
    · obtain ⟨e, h1, h2⟩ := (mem q).mp hq
      exact ⟨e, h1, h2⟩
  · cases z : G.get? b with
    | some o' =>
      have := S.F.keep _ _ z
      rw [e] at this
      cases this
      exact .inl rfl
    | none => exact .inr ((mem (b, o)).mpr ⟨e, hb, z⟩)
theorem LawSt.allBut (S : LawSt G L h m ce dv) {xs : Array Value} {n : Nat} (eK : h.get? K = some (W.listOf xs n)) (gK : G.get? K = none) :
    ∃ od oe rest, News G L h ((K, W.listOf xs n) :: (L + 1 + 1, od) :: (L + 1, oe) :: rest) ∧ od.data = .cell dv ∧ oe.data = .cell ce ∧ (∀ q ∈ (L + 1 + 1, od) :: (L + 1, oe) :: rest, q.1 ≠ K) ∧
    ∀ h' : Heap, G.StaysIn h' → (∀ q ∈ (L + 1 + 1, od) :: (L + 1, oe) :: rest, h'.get? q.1 = some q.2) → ∀ b o, b ≠ L → b ≠ K → h.get? b = some o → h'.get? b = some o := by
  obtain ⟨od, oe, rest, N, hd, he, hall⟩ := S.all2
  have off := S.off eK rfl
  refine ⟨od, oe, rest.filter (fun q => decide (q.1 ≠ K)), fun q hq => ?_, hd, he, fun q hq => ?_, fun h' hG hq b o hb hbK e => ?_⟩
  · rcases List.mem_cons.mp hq with rfl | hq
    · exact ⟨eK, fun z => off (by simp [show K = L from z]), gK⟩
    rcases List.mem_cons.mp hq with rfl | hq
    · exact N _ (.head _)
    rcases List.mem_cons.mp hq with rfl | hq
    · exact N _ (.tail _ (.head _))
    · exact N q (.tail _ (.tail _ (List.mem_filter.mp hq).1))
  · rcases List.mem_cons.mp hq with rfl | hq
    · exact fun z => off (by simp [← show L + 1 + 1 = K from z])
    rcases List.mem_cons.mp hq with rfl | hq
    · exact fun z => off (by simp [← show L + 1 = K from z])
    · exact of_decide_eq_true (List.mem_filter.mp hq).2
  · rcases hall b o hb e with z | z
    · exact hG _ _ z
    · exact hq (b, o) (.tail _ (.tail _ (List.mem_filter.mpr ⟨z, decide_eq_true hbK⟩)))
end
section
variable {prog : Program} {w : World} {A : Around} {E : Value → Shared → Prop} {s : Shared}
theorem notIn_strs {K : Addr} {k : Str} {t : Tok} {kvs : List Value} {ks : List Str} {Q : Value → Shared → Prop} (hl : s.heap.IsList K kvs.toArray) (hS : StrsAre kvs ks) (hk : PyData.strOk k = true) (hks : ∀ y ∈ ks, PyData.strOk y = true) (hu : A.units + 10 < cLine)
    (h : Q (.bool (!decide (k ∈ ks))) s) : wpAny (model prog w) A (compareOp .NotIn (.str k t) (.ref K)) Q E s := by
  obtain ⟨o, e, hc, n, hd⟩ := hl
  have hd1 : ∀ d ∈ ks.map Dat.str, kqdOk 8 d = true := fun d hd => by
    obtain ⟨y, hy, rfl⟩ := List.mem_map.mp hd
    exact hks y hy
  have l := kqd_layL hd1
  have any := kqd_any (ks.map Dat.str) (.str k) hd1 hk
  refine SeqAt.notIn_list_reads (d := .str k) (reads_list_at e hc hd (reads_strs hS)) (.str k t) l.1 hk ?_ ?_
  · have := Nat.min_le_left (PyData.depthAll (kqdPs (ks.map Dat.str))) (PyData.str k).depth
    omega
  · have e2 : ((kqdPs (ks.map Dat.str)).any fun y => PyData.eqv y (PyData.str k)) = decide (k ∈ ks) := by
      have m : Dat.str k ∈ ks.map Dat.str ↔ k ∈ ks := by simp
      by_cases q : k ∈ ks
      · rw [decide_eq_true q]; exact any.mpr (m.mpr q)
      · rw [decide_eq_false q]; exact Bool.eq_false_iff.mpr fun z => q (m.mp (any.mp z))
    rw [e2]
    exact h
end
section
variable {w : World} {p : Program} {loose : List Str} {mean : ExcName → Option Value} {mg mb : Str → Option Value} {G : Heap} {L fa : Addr} {cd : Value} {m : Str → Option Value} {s : Shared} {Q : Flow → Shared → Prop} {E : Value → Shared → Prop}
  {R U K : Addr} {dvs : List Value} {des : List Ent} {ev : Option Value}
set_option pp.deepTerms false
set_option pp.deepTerms.threshold 8
set_option pp.maxSteps 2000
def keysJ (des : List Ent) (R K : Addr) (rest : List (Addr × Obj)) (i : Nat) (m : Str → Option Value) (news : List (Addr × Obj)) : Prop :=
  ∃ (u : Str → Option Value) (kvs : List Value) (n : Nat), m = (fun y => if y = Str.ofString "keys" then some (.ref K) else if y = Str.ofString "row" then some (.ref R) else u y) ∧ news = (K, W.listOf kvs.toArray n) :: rest ∧ StrsAre kvs (keysF (des.take i))
theorem keysM {m : Str → Option Value} {a b : Value} (e1 : m (Str.ofString "keys") = some a) (e2 : m (Str.ofString "row") = some b) :
    m = (fun z => if z = Str.ofString "keys" then some a else if z = Str.ofString "row" then some b else m z) := by
  funext z
  by_cases q : z = Str.ofString "keys"
  · subst q; rw [if_pos rfl, e1]
  · by_cases r : z = Str.ofString "row"
    · subst r; rw [if_neg q, if_pos rfl, e2]
    · rw [if_neg q, if_neg r]
theorem st13 {n₀ : Nat} (hPE : PassesOwn (model Challenge.rw_mq0130_01.row.prog w) (callerA.deeper (lawEnv L fa cd)) (lawEnv L fa cd) E) (B : Amb w p loose mean mg mb G) (S : LawSt G L s.heap m ev (some (.ref U))) (hU : s.heap.IsList U dvs.toArray) (hE : EntsAt s.heap dvs des) (hg : ∀ e ∈ des, e.Good) (hlen : des.length ≤ 12) (hUK : U ≠ K)
   (hK : s.heap.get? K = some (W.listOf #[] n₀)) (hKG : G.get? K = none) (hm : m (Str.ofString "keys") = some (.ref K)) (hm2 : m (Str.ofString "row") = some (.ref R))
   (h : ∀ kvs h' tk' m', LawSt G L h' m' ev (some (.ref U)) → (∀ b o, b ∉ frees L → b ≠ K → s.heap.get? b = some o → h'.get? b = some o) → m' (Str.ofString "row") = some (.ref R) → m' (Str.ofString "keys") = some (.ref K) → h'.IsList K kvs.toArray → StrsAre kvs (keysF des) → Q .next { s with heap := h', toks := tk' }) :
   wpAny (model Challenge.rw_mq0130_01.row.prog w) (callerA.deeper (lawEnv L fa cd)) (exec (stm 12) (lawEnv L fa cd)) Q E s := by
  have X := B.X
  revert X
  k_fill
  intro X
  have T := B.T
  obtain ⟨u, F⟩ := fr2 S.F hm hm2
  obtain ⟨od, oe, rest, N, hod, hoe, hoff, hall⟩ := S.allBut hK hKG
  have hlE : dvs.length = des.length := ents_len hE
  have hUL : U ≠ L := fun z => by
    obtain ⟨o, e, hc, nn, hd⟩ := hU
    exact S.off e hd (by simp [z])
  have hUlt : U < s.heap.objs.size := by obtain ⟨o, e, _⟩ := hU; exact Heap.lt_size e
  show wpAny _ _ (exec (Stmt.For _ _ _ _ _) _) _ _ _
  refine For_invV G rfl rfl ?_ (hE := hPE)
  refine ldCN (c := L + 1 + 1) N rfl (.tail _ (.head _)) hod ?_
  refine wpAny_pyIter_list hU ?_
  refine ⟨s.heap.objs.size, [s.heap.objs.size, U], [s.heap.objs.size], dvs.toArray.size, _, _, _, _, keysJ des R K ((L + 1 + 1, od) :: (L + 1, oe) :: rest), rfl, Walks.list rfl s.heap.objs.size U (Nat.ne_of_lt hUlt) dvs.toArray, ?_, ?_, ?_, ?_, F.push _, fun q hq => ⟨Heap.get?_push_of_some _ (N q hq).1, (N q hq).2⟩, ⟨_, [], n₀, rfl, rfl, .nil⟩, ?_, ?_⟩
  · intro hm
    rcases List.mem_cons.mp hm with z | hm
    · exact absurd F.ns.lt (by rw [← show L = s.heap.objs.size from z]; exact Nat.lt_irrefl _)
    · exact hUL (List.mem_singleton.mp hm).symm
  · intro b hb
    rw [List.mem_singleton.mp hb]
    exact next_is_new F
  · intro q hq hm
    exact absurd (Heap.lt_size (N q hq).1) (List.mem_singleton.mp hm ▸ Nat.lt_irrefl _)
  · exact ⟨⟨_, Heap.get?_push_size _ rfl, rfl, rfl⟩, hU.push _⟩
  · rintro i v m₁ news₁ _ own ⟨h₁, tk, rfl⟩ hi hv ⟨u, kvs, n, rfl, rfl, hS⟩ hnw hof hown hin st F₁ N₁
    obtain ⟨e, he, T', t2, t3, t4, rfl, ht⟩ := ents_item hE i v (by simpa using hv)
    have hgE := hg e (List.mem_of_getElem? he)
    have hoK : ∀ q ∈ own, q.1 ≠ K := fun q hq z => by
      have := hof q hq
      rw [z] at this
      rcases List.mem_cons.mp this with y | y
      · exact absurd (Heap.lt_size hK) (by rw [show K = s.heap.objs.size from y]; exact Nat.lt_irrefl _)
      · exact hUK (List.mem_singleton.mp y).symm
    have k₁ := hall h₁ F₁.keep fun q hq => (N₁ q (List.mem_append_right _ (.tail _ hq))).1
    have ht₁ : IsTup h₁ T' #[.str e.key t2, .int e.size t3, .str e.val t4] := by
      obtain ⟨o, e1, c1, nn, d1⟩ := ht
      refine ⟨o, k₁ _ o (fun z => S.off e1 d1 (by simp [z])) (fun z => ?_) e1, c1, nn, d1⟩
      rw [z, hK] at e1
      cases e1
      exact absurd (show (Value.type "list") = Value.type "tuple" from c1) (by decide)
    have N₁' : News G L h₁ ((K, W.listOf kvs.toArray n) :: (((L + 1 + 1, od) :: (L + 1, oe) :: rest) ++ own)) := fun q hq => N₁ q (by
      simp only [List.mem_append, List.mem_cons] at hq ⊢
      rcases hq with z | (z | z | z) | z <;> simp [z])
    have hkl : (keysF (des.take i)).length ≤ 12 := by
      have := keys_len' (des.take i) []
      have := List.length_take_le' i des
      simp only [List.length_nil] at *
      unfold keysF
      omega
    have hks : ∀ y ∈ keysF (des.take i), PyData.strOk y = true := fun y hy => by
      rcases keys_mem' _ _ _ hy with z | ⟨x, hx, rfl⟩
      · cases z
      · exact (hg x (List.mem_of_mem_take hx)).ok.1
    refine wpAny_mono (Q := End3 G L own { s with heap := h₁, toks := tk } (keysJ des R K ((L + 1 + 1, od) :: (L + 1, oe) :: rest) (i + 1))) ?_ (fun f s' hs => ?_) fun _ _ e => e
    · clear N₁ F N hall
      show wpAny _ _ _ _ _ { s with heap := h₁, toks := tk }
      k_steps
      refine Stop.out ?_
      have hKl : h₁.IsList K kvs.toArray := ⟨_, (N₁' _ (.head _)).1, rfl, _, rfl⟩
      refine notIn_strs hKl hS hgE.ok.1 hks (by show callerA.units + 3 + 10 < _; decide) ?_
      by_cases hin : e.key ∈ keysF (des.take i)
      · rw [decide_eq_true hin]
        k_steps
        refine ⟨rfl, h₁, _, _, (K, W.listOf kvs.toArray n) :: (L + 1 + 1, od) :: (L + 1, oe) :: rest, rfl, F₁, fun q hq => N₁' q ?_, _, kvs, n, keysM rfl rfl, rfl, ?_⟩
        · simp only [List.mem_append, List.mem_cons] at hq ⊢
          rcases hq with z | z | z | z | z <;> simp [z]
        · rw [keys_take_succ he, keyStep, if_pos hin]
          exact hS
      · rw [decide_eq_false hin]
        k_steps
        refine Stop.out ?_
        refine append_K F₁ N₁' (Upd.head fun q hq => ?_) (fun h₃ F₃ N₃ => ?_) (Nat.le_trans (by have := hS.len_eq; simp; omega : kvs.toArray.size ≤ 100) (by decide : 100 ≤ sizeLine))
        · rcases List.mem_append.mp hq with z | z
          · exact hoff q z
          · exact hoK q z
        clear F₁ N₁'
        k_steps
        (rename Fr _ _ _ _ => F₄); (rename News _ _ _ _ => N₄)
        refine ⟨rfl, _, _, _, (K, W.listOf (kvs ++ [Value.str e.key t2]).toArray (n + 1)) :: (L + 1 + 1, od) :: (L + 1, oe) :: rest, rfl, F₄, fun q hq => ?_, _, kvs ++ [Value.str e.key t2], n + 1, keysM rfl rfl, rfl, ?_⟩
        · have := N₄ q
          simp only [List.mem_append, List.mem_cons, List.push_toArray] at hq this ⊢
          refine this ?_
          rcases hq with z | z | z | z | z <;> simp [z]
        · rw [keys_take_succ he, keyStep, if_neg hin]
          exact hS.append' (.cons _ _ .nil)
    · obtain ⟨rfl, h', tk', m', news', rfl, F₂, N₂, hJ₂⟩ := hs
      refine LoopStepV.next (LoopStepU.intro F₂ N₂ (fun q hq hm => ?_) hJ₂)
      obtain ⟨_, _, _, _, rfl, _⟩ := hJ₂
      have hI : ∀ q ∈ (K, W.listOf #[] n₀) :: (L + 1 + 1, od) :: (L + 1, oe) :: rest, q.1 ≠ s.heap.objs.size := fun q hq z => absurd (Heap.lt_size (N q hq).1) (by rw [z]; exact Nat.lt_irrefl _)
      have hm' := List.mem_singleton.mp hm
      rcases List.mem_cons.mp hq with rfl | hq
      · exact hI _ (.head _) hm'
      · exact hI _ (.tail _ hq) hm'
  · rintro h' tk m' news' F' N' _ ⟨u, kvs, n, rfl, rfl, hS⟩
    have k := hall h' F'.keep fun q hq => (N' q (.tail _ hq)).1
    rw [List.take_of_length_le (by simp; omega)] at hS
    have S' : LawSt G L h' (fun y => if y = Str.ofString "keys" then some (.ref K) else if y = Str.ofString "row" then some (.ref R) else u y) ev (some (.ref U)) := by
      refine ⟨F', ⟨oe, (N' (L + 1, oe) (.tail _ (.tail _ (.head _)))).1, hoe⟩, ⟨od, (N' (L + 1 + 1, od) (.tail _ (.head _))).1, hod⟩, ?_⟩
      obtain ⟨ps, e, hp⟩ := S.tab
      have nK : ∀ b o, b ≠ K → s.heap.get? b = some o → (∀ es n, o.data ≠ .dict es n) → h'.get? b = some o := fun b o hb e hd => k b o (fun z => by
        obtain ⟨o', es, ep, e', hd', _⟩ := F.ns
        rw [z, e'] at e; cases e; exact hd _ _ hd') hb e
      refine ⟨ps, nK _ _ (fun z => ?_) e (fun _ _ z => nomatch z), ?_⟩
      · rw [z, hK] at e; exact nomatch (congrArg Obj.cls (Option.some.inj e))
      · rcases hp with hp | ⟨c', h1, h2, c2, oc, vs, t, e3, ho, d1, d2⟩
        · exact .inl hp
        · cases e3
          refine .inr ⟨c', h1, h2, c', oc, vs, t, rfl, nK _ _ (fun z => ?_) ho (fun _ _ z => ?_), d1, d2⟩
          · rw [z, hK] at ho; cases ho; cases d1
          · rw [d1] at z; cases z
    exact h kvs h' tk _ S' (fun b o hb hbK e => k b o (fun z => hb (by simp [z])) hbK e) rfl rfl ⟨_, (N' _ (.head _)).1, rfl, _, rfl⟩ hS
end
end Mine

-- part S14
namespace Mine
local macro_rules | `(tactic| walk_at "call builtin:dict.items") => `(tactic| refine stop ?_)
local macro_rules | `(tactic| walk_at "call type:list") => `(tactic| refine stop ?_)
theorem paired_kv : ∀ {D : List (Str × Str)} {kvs : List (Str × Value)}, KVs D kvs → ∀ (j : Nat) (r : Str × Value), kvs[j]? = some r → ∃ q, D[j]? = some q ∧ r.1 = q.1 ∧ ∃ t, r.2 = .str q.2 t
  | _, _, .nil, j, r, h => by simp at h
  | _, _, .cons a _, 0, r, h => by
    simp only [List.getElem?_cons_zero, Option.some.injEq] at h
    subst h
    exact ⟨_, rfl, a⟩
  | _, _, .cons a r, j + 1, v, h => by
    obtain ⟨e, h1, h2⟩ := paired_kv r j v (by simpa using h)
    exact ⟨e, by simpa using h1, h2⟩
theorem paired_of_at {α β : Type} {R : α → β → Prop} : ∀ {l : List α} {ys : List β}, l.length = ys.length → (∀ (j : Nat) (a : α) (b : β), l[j]? = some a → ys[j]? = some b → R a b) → Paired R l ys
  | [], [], _, _ => .nil
  | [], _ :: _, h, _ => by simp at h
  | _ :: _, [], h, _ => by simp at h
  | a :: l, b :: ys, h, H => .cons (H 0 a b rfl rfl) (paired_of_at (by simpa using h) fun j x y hx hy => H (j + 1) x y (by simpa using hx) (by simpa using hy))
def PairAt (h : Heap) (v : Value) (q : Str × Str) : Prop := ∃ a t1 t2, v = .ref a ∧ IsTup h a #[.str q.1 t1, .str q.2 t2]
section
variable {w : World} {p : Program} {loose : List Str} {mean : ExcName → Option Value} {mg mb : Str → Option Value} {G : Heap} {L fa : Addr} {cd : Value} {m : Str → Option Value} {s : Shared} {Q : Flow → Shared → Prop} {E : Value → Shared → Prop}
  {R U K : Addr} {rvs : List Value} {kv : List (Str × Str)} {ev dv : Option Value}
set_option pp.deepTerms false
set_option pp.deepTerms.threshold 8
set_option pp.maxSteps 2000
theorem st14 (B : Amb w p loose mean mg mb G) (S : LawSt G L s.heap m ev dv) (hm : m (Str.ofString "row") = some (.ref R)) (hm2 : m (Str.ofString "keys") = some (.ref K))
   (hR : s.heap.IsList R rvs.toArray) (hRS : StrsAre rvs (items kv)) (hsz : kv.length ≤ 12) (hg : ∀ q ∈ kv, (∃ c, c ≠ 61 ∧ q.1 = ⟨#[c]⟩) ∧ q.2.length ≤ 100)
   (h : ∀ T tvs h' tk' m', LawSt G L h' m' ev dv → Move (frees L) s.heap h' → m' (Str.ofString "keys") = some (.ref K) → m' (Str.ofString "told") = some (.ref T) → h'.IsList T tvs.toArray → Paired (fun q v => PairAt h' v q) (keqvF kv) tvs → Q .next { s with heap := h', toks := tk' }) :
   wpAny (model Challenge.rw_mq0130_01.row.prog w) (callerA.deeper (lawEnv L fa cd)) (exec (stm 13) (lawEnv L fa cd)) Q E s := by
  have X := B.X
  revert X
  k_fill
  intro X
  have T := B.T
  obtain ⟨u, F⟩ := fr2 S.F hm hm2
  have SU : LawSt G L s.heap _ ev dv := ⟨F, S.ce, S.cd, S.tab⟩
  show wpAny _ _ (exec (Stmt.Assign _ _ _) _) _ _ _
  k_steps
  refine keqv_spec (kv := kv) (ok_of B F) hR hRS ?_ hg fun D kvs h₁ tk₁ st hD lo hdict hkv => ?_
  · have := hRS.len_eq
    simp [items] at this
    omega
  have S₁ := SU.next (F.keeps st) fun b o _ e => st b o e
  refine getMethod_builtin hdict.typeIs PySem.F.plainAttrs_dict PySem.F.slot_dict_items PySem.F.type_dict_items hdict.mapOf.noDict ?_
  dsimp only
  k_steps
  refine Stop.out ?_
  refine call_meetsIn PySem.F.slot_dict_items hdict.typeIs PySem.F.entry_dict_items (PySem.F.args_dict_items_1 _) (meets_dict_items _ D lo) ⟨⟨_, hdict⟩, ?_⟩
  obtain ⟨ep, hat⟩ := hdict.dictAt
  have up : ∀ b o, h₁.get? b = some o → (h₁.push { cls := .type "dict_items", data := .fields #[.ref D] }).get? b = some o := fun b o e => Heap.get?_push_of_some _ e
  have S₂ := S₁.next (S₁.F.keeps up) fun b o _ e => up b o e
  clear F
  have F := S₂.F
  show wpAny _ _ _ _ _ { s with heap := h₁.push { cls := .type "dict_items", data := .fields #[.ref D] }, toks := tk₁ }
  k_steps
  refine Stop.out ?_
  have hkl : kvs.length = (keqvF kv).length := (Paired.length hkv).symm
  refine kdx_call (knd := PySem.strKind Challenge.rw_mq0130_01.row.prog w) (kvs := kvs) (ep := ep) rfl ⟨_, Heap.get?_push_size _ rfl, rfl, rfl⟩ (hat.at fun o e => up _ o e) (Nat.le_trans (by have := keqvF_len kv; omega : kvs.length ≤ 12) (by decide)) fun h₃ tk₃ acc c as k₃ hl₃ hlen hG hacc => ?_
  have S₃ := S₂.next (S₂.F.keeps k₃) fun b o _ e => k₃ b o e
  have hP₃ : ∀ (j : Nat) (q : Str × Str) (v : Value), (keqvF kv)[j]? = some q → (as.map Value.ref)[j]? = some v → PairAt h₃ v q := by
    intro j q v hq hv
    rw [List.getElem?_map] at hv
    obtain ⟨a, ha, rfl⟩ := Option.map_eq_some_iff.mp hv
    obtain ⟨key, k, x, e1, e2, e3⟩ := hG.pairs j a ha
    obtain ⟨t, rfl⟩ := Value.isStrOf_shape e2
    obtain ⟨q', hq', r1, t', r2⟩ := paired_kv hkv j (k, x) e1
    rw [hq] at hq'; cases hq'
    dsimp only at r1 r2
    subst r1 r2
    exact ⟨a, t, t', rfl, _, e3, rfl, _, rfl⟩
  have hpp : Paired (fun q v => PairAt h₃ v q) (keqvF kv) (as.map Value.ref) := paired_of_at (by simp; omega) hP₃
  clear F
  have F := S₃.F
  obtain ⟨od, oe, rest, N, hod, hoe, hall⟩ := S₃.all
  show wpAny _ _ _ _ _ { s with heap := h₃, toks := tk₃ }
  k_steps
  (rename Fr _ _ _ _ => F₄); (rename News _ _ _ _ => N₄)
  have k₄ := hall _ F₄.keep fun q hq => (N₄ q hq).1
  have S₄ := S₃.next F₄ k₄
  have M₄ : Move (frees L) h₃ _ := fun b o hb e => k₄ b o (fun z => hb (by simp [z])) e
  have M : Move (frees L) s.heap h₃ := Move.of_stays fun b o e => k₃ b o (up b o (st b o e))
  refine h _ (as.map Value.ref) _ _ _ S₄ (M.trans M₄) rfl rfl (S₃.list ⟨_, hl₃, rfl, c, ?_⟩ M₄) (hpp.mono fun q v ⟨a, t1, t2, e, ht⟩ => ⟨a, t1, t2, e, S₃.tup ht M₄⟩)
  rw [← hacc]
end
end Mine

-- part L5
namespace Mine
section
variable {M : Model} {A : Around} {E : Value → Shared → Prop} {s : Shared}
theorem nfe_cells {scope : Scope} {globals : Addr} {cl : List (Str × Addr)} {qual : Str} {func : Option Addr} {code : Value} {outer : Env} {Q : Env → Shared → Prop}
    (h : Q { scope := scope, locals := s.heap.objs.size, globals := globals, cells := cellsFrom (s.heap.objs.size + 1) scope.names cl, qual := qual, func := func, code := outer.code, frame := outer.frame, builtins := outer.builtins }
      { s with heap := pushCells (s.heap.push { cls := .type "dict", data := .dict #[] }) scope.names }) :
    wpAny M A (newFunctionEnv scope globals cl [] qual func code (some outer)) Q E s := by
  simp only [newFunctionEnv, Option.isSome_some, if_true]
  refine wpAny_bind (wpAny_alloc ?_)
  refine wpAny_bind (wpAny_layCells _ (fun name kind cells => by cases hkc : kind == NameKind.cell <;> simp [hkc]) _ _ _ _ ?_)
  rw [show ({ s with heap := s.heap.push { cls := .type "dict", data := .dict #[] } } : Shared).heap.objs.size = s.heap.objs.size + 1 from Heap.size_push ..]
  refine wpAny_bind ?_
  rw [List.forIn_nil]
  exact wpAny_pure (wpAny_pure h)
end

theorem nq0 {b I : Nat} (h : b < I) : b ≠ I := by omega
theorem nq1 {b I : Nat} (h : b < I) : b ≠ I + 1 := by omega
theorem nq2 {b I : Nat} (h : b < I) : b ≠ I + 2 := by omega
theorem nq3 {b I : Nat} (h : b < I) : b ≠ I + 2 + 1 := by omega
theorem nq4 (I : Nat) : I + 2 ≠ I + 2 + 1 ∧ I ≠ I + 2 + 1 ∧ I + 1 ≠ I ∧ I + 2 ≠ I ∧ I + 2 + 1 ≠ I ∧ I + 1 ≠ I + 2 ∧ I + 1 ≠ I + 2 + 1 ∧ I ≤ I + 2 ∧ I ≤ I + 2 + 1 := by omega
theorem notin1 {b x : Addr} (h : b ≠ x) : b ∉ [x] := fun hm => h (List.mem_singleton.mp hm)
theorem notin2 {b x y : Addr} (h : b ≠ x) (h' : b ≠ y) : b ∉ [x, y] := fun hm => by
  simp only [List.mem_cons, List.not_mem_nil, or_false] at hm
  rcases hm with z | z
  · exact h z
  · exact h' z
section
variable {prog : Program} {w : World} {A : Around} {E : Value → Shared → Prop} {env : Env}
def CellAt (h : Heap) (c : Addr) (v : Option Value) : Prop := ∃ o, h.get? c = some o ∧ o.data = .cell v
def CellPost (prog : Program) (w : World) (A : Around) (env : Env) (x : Str) (elt : Expr) (scope : Scope) (cl : List (Str × Addr)) (R : Nat → Value → Heap → Prop) (Q : Value → Shared → Prop) (xv : Value) (s₁ : Shared) : Prop :=
  ∃ l items, xv = .ref l ∧ s₁.heap.IsList l items ∧ items.size ≤ 1000 ∧
    (∀ C c i v h tk (E' : Value → Shared → Prop), items[i]? = some v → s₁.heap.get? C = none → s₁.heap.get? c = none → (∃ m, h.Ns C m) → CellAt h c (some v) → s₁.heap.StaysIn h →
      wpAny (model prog w) A (eval elt (compEnvC scope ((x, c) :: cl) C env)) (EltOk (R i) { s₁ with heap := h, toks := tk }) E' { s₁ with heap := h, toks := tk }) ∧
    ∀ D h tk ys, s₁.heap.get? D = none → h.PlainList D ys → Paired (fun i y => R i y h) (List.range items.size) ys.toList → s₁.heap.StaysIn h → Q (.ref D) { s₁ with heap := h, toks := tk }

/-- a list comprehension over a list, its one name a cell -/
theorem lcCell {elt iter : Expr} {x : Str} {px : Pos} {scope : Scope} {cl : List (Str × Addr)} {pos : Pos} {s : Shared} {Q : Value → Shared → Prop} (R : Nat → Value → Heap → Prop)
    (hh : A.handled = none)
    (hmono : ∀ i y h h', (∀ a items, IsTup h a items → IsTup h' a items) → R i y h → R i y h')
    (hclos : closureFor scope env = pure cl) (hcells : ∀ n, cellsFrom n scope.names cl = (x, n) :: cl) (hpush : ∀ h : Heap, pushCells h scope.names = h.push { cls := .type "cell", data := .cell none })
    (hkind : scope.kind = .function) (hnames : ∀ y ∈ scope.names, y.2 = .local → scope.names.lookup y.1 = some .local)
    (hkx : ∀ C c, (compEnvC scope ((x, c) :: cl) C env).kindOf x = some .cell)
    (h : wpAny (model prog w) A (eval iter env) (CellPost prog w A env x elt scope cl R Q) E s)
    (hs : ∀ x, foldedSetIterable iter env x = pure x := by intro _; rfl) :
    wpAny (model prog w) A (eval (.ListComp elt [⟨.Name x px, iter, [], 0⟩] scope pos) env) Q E s := by
  rw [eval_ListComp]
  refine wpAny_comprehension_free (use := none) rfl hs hclos hkind hnames (wpAny_mono h (fun xv s₁ h₁ => ?_) fun _ _ e => e)
  obtain ⟨l, items, rfl, hl, hsz, elts, fin⟩ := h₁
  obtain ⟨ol, hol, _⟩ := id hl
  have hlt : l < s₁.heap.objs.size := Heap.lt_size hol
  refine wpAny_pyIter_list hl ?_
  generalize hI : s₁.heap.objs.size = I at *
  generalize hH1 : s₁.heap.push { cls := .type "list_iterator", data := .fields #[.ref l, .int 0 0] } = H1
  have hz1 : H1.objs.size = I + 1 := by rw [← hH1, Heap.size_push, hI]
  have up1 : ∀ b o, s₁.heap.get? b = some o → H1.get? b = some o := fun b o e => by rw [← hH1]; exact Heap.get?_push_of_some _ e
  have hit1 : H1.IsListIter I l 0 := ⟨_, by rw [← hH1, ← hI]; exact Heap.get?_push_size _ rfl, rfl, rfl⟩
  refine wpAny_newObj_type ?_
  show wpAny _ _ _ _ _ { s₁ with heap := H1.push { cls := .type "list", dict := none, data := .seq ([] : List Value).toArray } }
  generalize hH2 : H1.push { cls := .type "list", dict := none, data := .seq ([] : List Value).toArray } = H2
  have hz2 : H2.objs.size = I + 2 := by rw [← hH2, Heap.size_push, hz1]
  have up2 : ∀ b o, H1.get? b = some o → H2.get? b = some o := fun b o e => by rw [← hH2]; exact Heap.get?_push_of_some _ e
  have hD2 : H2.PlainList (I + 1) #[] := ⟨_, by rw [← hH2, ← hz1]; exact Heap.get?_push_size _ rfl⟩
  refine nfe_cells ?_
  dsimp only
  rw [hcells, hpush, hz2, hz1]
  generalize hH3 : H2.push { cls := .type "dict", data := .dict #[] } = H3
  have hz3 : H3.objs.size = I + 2 + 1 := by rw [← hH3, Heap.size_push, hz2]
  have up3 : ∀ b o, H2.get? b = some o → H3.get? b = some o := fun b o e => by rw [← hH3]; exact Heap.get?_push_of_some _ e
  have hns3 : H3.Ns (I + 2) (fun _ => none) := by rw [← hH3, ← hz2]; exact Heap.Ns.new H2 (.type "dict")
  generalize hH4 : H3.push { cls := .type "cell", data := .cell none } = H4
  have up4 : ∀ b o, H3.get? b = some o → H4.get? b = some o := fun b o e => by rw [← hH4]; exact Heap.get?_push_of_some _ e
  have hc4 : CellAt H4 (I + 2 + 1) none := ⟨_, by rw [← hH4, ← hz3]; exact Heap.get?_push_size _ rfl, rfl⟩
  have upA : ∀ b o, s₁.heap.get? b = some o → H4.get? b = some o := fun b o e => up4 b o (up3 b o (up2 b o (up1 b o e)))
  have ne : ∀ b o, s₁.heap.get? b = some o → b < I := fun b o e => hI ▸ Heap.lt_size e
  have W := Src.list (prog := prog) (w := w) hh I l (Nat.ne_of_lt hlt) items
  have loop : ∀ s₃ : Shared, s₃ = { s₁ with heap := H4 } →
      codeAny (model prog w) A (.compLoop (.ListComp elt [⟨.Name x px, iter, [], 0⟩] scope pos) 0 (.ref I) (.ref (I + 1)) (compEnvC scope ((x, I + 2 + 1) :: cl) (I + 2) env))
        (compPost (model prog w) A E none Q (.ref (I + 1)) (I + 2)) s₃ := by
    rintro s₃ rfl
    have hc : ∀ h : Heap, (∀ b o, b ∉ [I] → b ∉ [I + 2, I + 2 + 1] → b ≠ I + 1 → H4.get? b = some o → h.get? b = some o) → s₁.heap.StaysIn h := fun h hk b o e => by
      have := ne b o e
      exact hk b o (notin1 (nq0 this)) (notin2 (nq2 this) (nq3 this)) (nq1 this) (upA b o e)
    refine compLoopG (cenv := compEnvC scope ((x, I + 2 + 1) :: cl) (I + 2) env) (ow := [I + 2, I + 2 + 1]) W (fun _ => true) R (fun h => (∃ m, h.Ns (I + 2) m) ∧ ∃ v, CellAt h (I + 2 + 1) v) hmono ?_ ?_ ?_ ?_ ?_ ?_ ?_ ⟨⟨_, hns3.keeps up4⟩, _, hc4⟩ ?_ ?_ hsz
    · rintro h h' ⟨⟨m, hm⟩, v, o, e, d⟩ hk
      exact ⟨⟨m, hm.at' fun o e => hk _ (by simp) o e⟩, v, o, hk _ (by simp) o e, d⟩
    · rintro h a its ⟨⟨m, o, es, ep, ho, hd, _⟩, v, o2, e2, d2⟩ ⟨o', ho', _, nn, hd'⟩ hm
      simp only [List.mem_cons, List.not_mem_nil, or_false] at hm
      rcases hm with rfl | rfl
      · rw [ho] at ho'; cases ho'; rw [hd] at hd'; cases hd'
      · rw [e2] at ho'; cases ho'; rw [d2] at hd'; cases hd'
    · exact notin2 (nq4 I).2.2.2.2.2.1 (nq4 I).2.2.2.2.2.2.1
    · exact notin2 (nq4 I).2.2.1 (nq1 hlt).symm
    · intro b hb
      simp only [List.mem_cons, List.not_mem_nil, or_false] at hb
      rcases hb with rfl | rfl
      · exact notin2 (nq4 I).2.2.2.1 (nq2 hlt).symm
      · exact notin2 (nq4 I).2.2.2.2.1 (nq3 hlt).symm
    · exact ⟨hit1.at fun o e => up4 _ o (up3 _ o (up2 _ o e)), hl.at fun o e => upA _ o e⟩
    · obtain ⟨n, e⟩ := hD2
      exact ⟨n, up4 _ _ (up3 _ _ e)⟩
    · rintro i v h tk hi hP hM ⟨⟨m, hm⟩, cv, o2, e2, d2⟩ hk _
      have hst := hc h fun b o h1 h2 h3 e => hk b o h1 h2 h3 e
      unfold TurnGoal
      refine wpAny_pure ?_
      refine wpAny_assign_Name (wpAny_storeName_cell (c := I + 2 + 1) hkind (hkx _ _) (by show List.lookup x ((x, _) :: cl) = _; simp) ⟨o2, e2, d2⟩ fun h₂ hv hs₂ => ?_)
      have hst₂ : s₁.heap.StaysIn h₂ := fun b o e => hs₂.extBut b o (nq3 (ne b o e)) (hst b o e)
      have hm₂ : h₂.Ns (I + 2) m := hm.at' fun o e => hs₂.extBut _ o (nq4 I).1 e
      refine wpAny_tests_nil ?_
      rw [if_pos rfl]
      have freshI : ∀ j : Nat, I ≤ j → s₁.heap.get? j = none := fun j hj => Heap.get?_none_of_le (by rw [hI]; exact hj)
      refine wpAny_mono (elts (I + 2) (I + 2 + 1) i v h₂ tk _ hP (freshI _ (nq4 I).2.2.2.2.2.2.2.1) (freshI _ (nq4 I).2.2.2.2.2.2.2.2) ⟨m, hm₂⟩ hv hst₂) (fun y s₄ hy => ?_) fun _ _ x => x
      obtain ⟨hR, h₄, tk₄, rfl, k₄⟩ := hy
      refine ⟨h₄, tk₄, rfl, ⟨hM.1.at fun o e => k₄ _ o (hs₂.extBut _ o (nq4 I).2.1 e), hM.2.at fun o e => k₄ _ o (hs₂.extBut _ o (nq3 hlt) e)⟩, ⟨⟨m, hm₂.keeps k₄⟩, some v, ?_⟩, fun b o h1 h2 e => k₄ b o (hs₂.extBut b o (fun z => h2 (by simp [z])) e), rfl, hR⟩
      obtain ⟨o, e, d⟩ := hv
      exact ⟨o, k₄ _ _ e, d⟩
    · rintro h tk ys ⟨⟨m, hm⟩, _⟩ hD hP hk
      rw [List.filter_eq_self.mpr fun _ _ => rfl] at hP
      have hst := hc h hk
      refine ⟨m, hm, fun h'' hs'' => fin (I + 1) h'' tk ys (Heap.get?_none_of_le (by rw [hI]; exact Nat.le_succ _)) (hD.extBut hs''.extBut (nq4 I).2.2.2.2.2.1) (Paired.monoH (fun i y => hmono i y _ _ fun a its ht => ?_) hP) fun b o e => hs''.extBut b o (nq2 (ne b o e)) (hst b o e)⟩
      obtain ⟨o, e, hc', nn, hd⟩ := ht
      refine ⟨o, hs''.extBut a o (fun q => ?_) e, hc', nn, hd⟩
      obtain ⟨o', es, ep, e', hd', _⟩ := hm
      rw [q, e'] at e
      cases e
      rw [hd'] at hd
      cases hd
  exact codeAny_compStart_list (loop _ rfl) (W.self 0 _ _ _ ⟨hit1.at fun o e => up4 _ o (up3 _ o (up2 _ o e)), hl.at fun o e => upA _ o e⟩ (loop _ rfl))
end
end Mine

-- part S15
namespace Mine
local macro_rules | `(tactic| walk_at "eval ListComp") => `(tactic| refine stop ?_)
local macro_rules | `(tactic| walk_at "subscriptTail ListComp") => `(tactic| refine stop ?_)
local macro_rules | `(tactic| walk_at "newTuple") => `(tactic| refine stop ?_)
local macro_rules | `(tactic| walk_at "compareOp Eq ref ref") => `(tactic| refine stop ?_)
local macro_rules | `(tactic| walk_at "eval Name") => `(tactic| ((with_reducible show wpAny _ _ (eval (Expr.Name _ _) (compEnvC _ _ _ _)) _ _ _); first | with_reducible refine ldC (by assumption) (by assumption) ?_ (by with_unfolding_all rfl) (by with_unfolding_all rfl) (by decide +kernel) | with_reducible refine ldCell (by with_unfolding_all rfl) (by assumption) (by assumption) ?_ (by with_unfolding_all rfl) (by with_unfolding_all rfl) (by decide +kernel)))
def valsOf (des : List Ent) (k : Str) : List Str := (des.filter fun e => decide (e.key = k)).map (·.val)
def lastOf (des : List Ent) (k : Str) : Str := (valsOf des k).getLast?.getD Str.empty
def isKey (des : List Ent) (k : Str) (i : Nat) : Bool := match des[i]? with | some e => decide (e.key = k) | none => false
theorem isKey_eq {des : List Ent} {k : Str} {i : Nat} {e : Ent} (h : des[i]? = some e) : isKey des k i = decide (e.key = k) := by unfold isKey; rw [h]
theorem strs_snoc : ∀ {ws : List Str} {x : Str} {ys : List Value}, StrsAre ys (ws ++ [x]) → ∃ vi t, ys = vi ++ [Value.str x t]
  | [], x, _, .cons _ t .nil => ⟨[], t, rfl⟩
  | _ :: ws, x, _, .cons y t r => by
    obtain ⟨vi, t', e⟩ := strs_snoc (ws := ws) r
    exact ⟨Value.str y t :: vi, t', by rw [e]; rfl⟩
theorem strs_last {des : List Ent} {k : Str} {ys : List Value} (h : StrsAre ys ((des.filter fun e => decide (e.key = k)).map (·.val))) (hne : valsOf des k ≠ []) : ∃ vi t, ys = vi ++ [Value.str (lastOf des k) t] := by
  have e : valsOf des k = (valsOf des k).dropLast ++ [lastOf des k] := by
    unfold lastOf
    rw [List.getLast?_eq_some_getLast hne]
    exact (List.dropLast_concat_getLast hne).symm
  have h' : StrsAre ys (valsOf des k) := h
  rw [e] at h'
  exact strs_snoc h'
theorem paired_map {h : Heap} {f : Str → Str} : ∀ {ks : List Str} {ys : List Value}, Paired (fun k y => ∃ T t1 t2, y = Value.ref T ∧ IsTup h T #[.str k t1, .str (f k) t2]) ks ys → Paired (fun q v => PairAt h v q) (ks.map fun k => (k, f k)) ys
  | _, _, .nil => .nil
  | _, _, .cons ⟨T, t1, t2, e, ht⟩ r => .cons ⟨T, t1, t2, e, ht⟩ (paired_map r)
def pairDat (q : Str × Str) : Dat := .tuple [.str q.1, .str q.2]
theorem reads_pairs {h : Heap} : ∀ {D : List (Str × Str)} {vs : List Value}, Paired (fun q v => PairAt h v q) D vs → ∃ as, ReadsAll h vs (kqdPs (D.map pairDat)) as
  | _, _, .nil => ⟨_, .nil⟩
  | _, _, .cons ⟨T, t1, t2, e, o, eo, hc, n, hd⟩ r => by
    obtain ⟨as, ih⟩ := reads_pairs r
    subst e
    exact ⟨_, .cons (reads_tuple_at eo hc hd (.cons (.str _ _) (.cons (.str _ _) .nil))) ih⟩
theorem reads_pairList {h : Heap} {a : Addr} {vs : List Value} {D : List (Str × Str)} (hl : h.IsList a vs.toArray) (hP : Paired (fun q v => PairAt h v q) D vs) : ∃ as, Reads h (.ref a) (kqdP (.list (D.map pairDat))) as := by
  obtain ⟨o, e, hc, n, hd⟩ := hl
  obtain ⟨as, r⟩ := reads_pairs hP
  exact ⟨_, reads_list_at e hc hd r⟩
theorem pairs_ok {D : List (Str × Str)} (h : ∀ q ∈ D, PyData.strOk q.1 = true ∧ PyData.strOk q.2 = true) : kqdOk 2 (.list (D.map pairDat)) = true := by
  simp only [kqdOk, List.all_map, List.all_eq_true]
  intro q hq
  show (List.all [Dat.str q.1, Dat.str q.2] (kqdOk 0)) = true
  rw [List.all_cons, List.all_cons, List.all_nil]
  simp [kqdOk, h q hq]
section
variable {w : World} {p : Program} {loose : List Str} {mean : ExcName → Option Value} {mg mb : Str → Option Value} {G : Heap} {L fa : Addr} {cd : Value} {m : Str → Option Value} {s : Shared} {Q : Flow → Shared → Prop} {E : Value → Shared → Prop}
  {T U K : Addr} {kvs tvs dvs : List Value} {des : List Ent} {ks : List Str} {ev : Option Value} {D : List (Str × Str)}
set_option pp.deepTerms false
set_option pp.deepTerms.threshold 8
set_option pp.maxSteps 2000
theorem st15 (B : Amb w p loose mean mg mb G) (S : LawSt G L s.heap m ev (some (.ref U))) (hU : s.heap.IsList U dvs.toArray) (hE : EntsAt s.heap dvs des) (hg : ∀ e ∈ des, e.Good) (hlen : des.length ≤ 12)
   (hm : m (Str.ofString "told") = some (.ref T)) (hm2 : m (Str.ofString "keys") = some (.ref K)) (hT : s.heap.IsList T tvs.toArray) (hTP : Paired (fun q v => PairAt s.heap v q) D tvs)
   (hK : s.heap.IsList K kvs.toArray) (hKS : StrsAre kvs ks) (hkl : ks.length ≤ 12) (hks : ∀ k ∈ ks, PyData.strOk k = true ∧ ∃ e ∈ des, e.key = k)
   (hD : D = ks.map fun k => (k, lastOf des k))
   (h : ∀ h' tk', LawSt G L h' m ev (some (.ref U)) → Move (frees L) s.heap h' → Q (.ret (.bool true)) { s with heap := h', toks := tk' }) :
   wpAny (model Challenge.rw_mq0130_01.row.prog w) (callerA.deeper (lawEnv L fa cd)) (exec (stm 14) (lawEnv L fa cd)) Q E s := by
  have X := B.X
  revert X
  k_fill
  intro X
  have TG := B.T
  obtain ⟨u, F⟩ := fr2 S.F hm hm2
  obtain ⟨od, oe, rest, N, hod, hoe, hall⟩ := S.all
  show wpAny _ _ (exec (Stmt.Return _ _) _) _ _ _
  k_steps
  refine Stop.out ?_
  refine lcCell (cl := [(Str.ofString "due", L + 1 + 1)]) (fun i y h => ∀ k, ks[i]? = some k → ∃ T t1 t2, y = .ref T ∧ IsTup h T #[.str k t1, .str (lastOf des k) t2]) rfl ?_ rfl (fun _ => rfl) (fun _ => rfl) rfl (by decide) (fun _ _ => rfl) ?_
  · intro i y h h' k r e he
    obtain ⟨T, t1, t2, h1, h2⟩ := r e he
    exact ⟨T, t1, t2, h1, k _ _ h2⟩
  k_steps
  have hlK : kvs.length = ks.length := hKS.len_eq
  have hlD : dvs.length = des.length := ents_len hE
  show CellPost _ _ _ _ _ _ _ _ _ _ _ { s with heap := s.heap, toks := _ }
  refine ⟨K, kvs.toArray, rfl, hK, by simp; omega, ?_, ?_⟩
  · rintro C c i v h₂ tk E' hv hC hc ⟨mc, hn⟩ ⟨o, eo, dO⟩ hS
    obtain ⟨k, t, rfl, hk⟩ := hKS.item i v (by simpa using hv)
    have hodue := hS _ _ (N _ (.head _)).1
    have F₂ := F.keeps hS
    clear F N hall
    show wpAny _ _ _ (EltOk _ { s with heap := h₂, toks := tk }) _ { s with heap := h₂, toks := tk }
    k_steps
    refine Stop.out ?_
    refine lcListX (cl := [(Str.ofString "key", c)]) (fun i y h => ∀ e, des[i]? = some e → ∃ t, y = .str e.val t) rfl (fun i y h h' _ r => r) rfl (by decide) rfl (by decide) ?_
    k_steps
    have hU₂ := stays_list hS hU
    show ListPost _ _ _ _ _ _ _ _ _ _ _ _ { s with heap := h₂, toks := tk }
    refine ⟨U, dvs.toArray, isKey des k, fun i m => ∀ e, des[i]? = some e → ∃ T t2 t3 t4, m (Str.ofString "entry") = some (.ref T) ∧ IsTup h₂ T #[.str e.key t2, .int e.size t3, .str e.val t4], rfl, hU₂, by simp; omega, fun i v hv => .inl ⟨_, _, rfl⟩, ⟨?_, ?_, ?_⟩, ?_⟩
    · intro C' j v h tk m Q E' hv hC' hn' hS' H
      obtain ⟨e, he, T', t2, t3, t4, rfl, ht⟩ := ents_item hE j v (by simpa using hv)
      refine asgName rfl rfl hn' fun h' m' tk' hn' hm' hk' => H h' m' tk' hn' ?_ hk'
      intro e' he'
      rw [he] at he'; cases he'
      exact ⟨T', t2, t3, t4, hm', stays_tup hS ht⟩
    · intro C' j h₃ tk' m' E'' hj hC' hn' hB hS'
      obtain ⟨e, he⟩ : ∃ e, des[j]? = some e := ⟨_, List.getElem?_eq_getElem (by simp at hj; omega)⟩
      obtain ⟨T', t2, t3, t4, hme, ht⟩ := hB e he
      have ht₃ := stays_tup hS' ht
      have eo₃ := hS' _ _ eo
      have F₃ := F₂.keeps hS'
      clear F₂
      refine wpAny_tests_one ?_
      show wpAny _ _ _ (TestOk _ { s with heap := h₃, toks := tk' }) _ { s with heap := h₃, toks := tk' }
      k_steps
      exact ⟨by rw [isKey_eq he]; by_cases q : e.key = k <;> simp [q], keeps_tok⟩
    · intro C' j h₃ tk' m' E'' hj _ hC' hn' hB hS'
      obtain ⟨e, he⟩ : ∃ e, des[j]? = some e := ⟨_, List.getElem?_eq_getElem (by simp at hj; omega)⟩
      obtain ⟨T', t2, t3, t4, hme, ht⟩ := hB e he
      have ht₃ := stays_tup hS' ht
      have F₃ := F₂.keeps hS'
      clear F₂
      show wpAny _ _ _ (EltOk _ { s with heap := h₃, toks := tk' }) _ { s with heap := h₃, toks := tk' }
      k_steps
      refine ⟨fun e' he' => ?_, keeps_tok⟩
      rw [he] at he'; cases he'
      exact ⟨_, rfl⟩
    · intro D₃ h₃ tk₃ zs hD₃ hl₃ hP₃ hS₃
      have hst := strs_paired (paired_pick (p := fun e => decide (e.key = k)) (by simpa using hlD) (fun i e he => isKey_eq he) hP₃)
      have hne : valsOf des k ≠ [] := by
        obtain ⟨e, he, hek⟩ := (hks k (List.mem_of_getElem? hk)).2
        exact List.ne_nil_of_mem (List.mem_map.mpr ⟨e, List.mem_filter.mpr ⟨he, decide_eq_true hek⟩, rfl⟩)
      obtain ⟨vi, tl, hvi⟩ := strs_last hst hne
      have F₃ := F₂.keeps hS₃
      clear F₂
      show wpAny _ _ _ _ _ { s with heap := h₃, toks := tk₃ }
      k_steps
      refine Stop.out ?_
      have hlz : h₃.IsList D₃ (vi ++ [Value.str (lastOf des k) tl]).toArray := by
        rw [← hvi]; simpa using hl₃.isList
      refine tail_any (T := "list") (by obtain ⟨o, e, hc, _⟩ := hlz; exact ⟨o, e, hc⟩) slot_list_getitem.lookup (wpAny_getItem_list_neg hlz (by decide) (by simp; omega) (by decide) (x := Value.str (lastOf des k) tl) (by
        have e : ((-1 : Int) + ((vi ++ [Value.str (lastOf des k) tl]).toArray.size : Int)).toNat = vi.length := by simp; omega
        rw [e]; simp) ?_) (by with_unfolding_all rfl)
      k_steps
      refine Stop.out (wpAny_newTuple ?_ (by size_fits))
      refine ⟨fun k' hk' => ?_, keeps_of fun b o e => Heap.get?_push_of_some _ (hS₃ b o e)⟩
      rw [hk] at hk'; cases hk'
      exact ⟨_, t, tl, rfl, _, Heap.get?_push_size _ rfl, rfl, _, rfl⟩
  · intro D₂ h₂ tk₂ ys hD₂ hl₂ hP hS₂
    have S₂ := S.next (S.F.keeps hS₂) fun b o _ e => hS₂ b o e
    have hM : Move (frees L) s.heap h₂ := Move.of_stays hS₂
    have hpr := paired_all (l := ks) (by simpa using hlK) hP
    have hpr' : Paired (fun q v => PairAt h₂ v q) D ys.toList := by
      rw [hD]
      exact paired_map hpr
    have hT₂ := S.list hT hM
    have hTP₂ : Paired (fun q v => PairAt h₂ v q) D tvs := hTP.mono fun q v ⟨a, t1, t2, e, ht⟩ => ⟨a, t1, t2, e, S.tup ht hM⟩
    have hok : ∀ q ∈ D, PyData.strOk q.1 = true ∧ PyData.strOk q.2 = true := fun q hq => by
      rw [hD] at hq
      obtain ⟨k, hk, rfl⟩ := List.mem_map.mp hq
      refine ⟨(hks k hk).1, ?_⟩
      unfold lastOf
      cases z : (valsOf des k).getLast? with
      | none => exact (show PyData.strOk Str.empty = true by decide +kernel)
      | some x =>
        have := List.mem_of_getLast? z
        obtain ⟨e, he, rfl⟩ := List.mem_map.mp this
        exact (hg e (List.mem_filter.mp he).1).ok.2
    clear F N hall
    show wpAny _ _ _ _ _ { s with heap := h₂, toks := tk₂ }
    k_steps
    refine Stop.out ?_
    obtain ⟨as, ra⟩ := reads_pairList hT₂ hTP₂
    obtain ⟨bs, rb⟩ := reads_pairList (vs := ys.toList) (by simpa using hl₂.isList) hpr'
    refine eq_dat (n := 2) (by decide) (pairs_ok hok) ra rb (by ke_room) ?_
    k_steps
    exact h _ _ S₂ hM
end
end Mine

-- part P2
namespace Mine
/-- an item's signs as they stand in the header -/
def escItem (e : Ent) : Str := itemF e.key e.size (escF e.val)
theorem headF_eq (es : List Ent) : Txt.join (Str.ofString ", ") (es.map fun e => itemF e.key e.size (escF e.val)) = Str.join (Str.ofString ", ") (es.map escItem) := by
  show Builtin.Str.glued (Str.ofString ", ") (es.map fun e => itemF e.key e.size (escF e.val)) = _
  rw [StrLaws.glued_eq_join]
  rfl
def strL (l : List Nat) : Str := ⟨l.toArray⟩
theorem strL_list (x : Str) : strL x.cps.toList = x := by cases x; simp [strL]
theorem strL_append (a b : List Nat) : strL (a ++ b) = strL a ++ strL b := by
  refine str_ext ?_
  simp [strL, toList_append']
theorem part_one (p : Str) (l : List Nat) (c : Nat) : p ++ one c ++ strL l = p ++ strL (c :: l) := by
  refine str_ext ?_
  simp [strL, one, toList_append']
theorem run_quoted (res : List Str) : ∀ (l : List Nat) (part : Str), (l.flatMap esc1).foldl hstep ⟨res, part, false, true⟩ = ⟨res, part ++ strL l, false, true⟩
  | [], part => by
    show HS.mk res part false true = _
    have : part ++ strL [] = part := str_ext (by simp [strL, toList_append'])
    rw [this]
  | d :: r, part => by
    rw [List.flatMap_cons, List.foldl_append]
    have step : (esc1 d).foldl hstep ⟨res, part, false, true⟩ = ⟨res, part ++ one d, false, true⟩ := by
      unfold esc1
      by_cases h : d = 92
      · subst h; rfl
      · rw [if_neg h]
        by_cases h' : d = 34
        · subst h'; rfl
        · rw [if_neg h']
          simp [hstep, h, h']
    rw [step, run_quoted res r, part_one]
theorem run_item {e : Ent} (hg : e.Good) (res : List Str) (part : Str) : (escItem e).cps.toList.foldl hstep ⟨res, part, false, false⟩ = ⟨res, part ++ itemE e, false, false⟩ := by
  obtain ⟨⟨c, hc, hk⟩, hv, _⟩ := hg
  have h44 : c ≠ 44 := by omega
  have h34 : c ≠ 34 := by omega
  rcases hv with ⟨h1, hv⟩ | ⟨h1, h2, h3⟩
  · have e1 : escItem e = e.key ++ escF e.val := if_pos (by rw [h1]; decide)
    have e2 : itemE e = e.key ++ e.val := if_pos (by rw [h1]; decide)
    rw [e1, e2, hk]
    rcases hv with hv | hv
    · rw [hv]
      have a1 : (⟨#[c]⟩ ++ escF (Str.ofString "") : Str) = one c := str_ext (by simp [one, toList_append', escF]; decide +kernel)
      have a2 : (⟨#[c]⟩ ++ Str.ofString "" : Str) = one c := str_ext (by simp [one, toList_append']; decide +kernel)
      rw [a1, a2]
      show hstep ⟨res, part, false, false⟩ c = _
      simp [hstep, h44, h34]
    · rw [hv]
      have a1 : (⟨#[c]⟩ ++ escF (Str.ofString "=") : Str) = ⟨#[c, 61]⟩ := str_ext (by rw [toList_append', show escF (Str.ofString "=") = ⟨#[61]⟩ by decide +kernel]; rfl)
      have a2 : part ++ (⟨#[c]⟩ ++ Str.ofString "=" : Str) = part ++ one c ++ one 61 := str_ext (by rw [show Str.ofString "=" = ⟨#[61]⟩ by decide +kernel]; simp [one, toList_append'])
      rw [a1, a2]
      show hstep (hstep ⟨res, part, false, false⟩ c) 61 = _
      simp [hstep, h44, h34]
  · have e1 : escItem e = e.key ++ Str.ofString "=\"" ++ escF e.val ++ Str.ofString "\"" := if_neg (by omega)
    have e2 : itemE e = e.key ++ Str.ofString "=\"" ++ e.val ++ Str.ofString "\"" := if_neg (by omega)
    have sE : Str.ofString "=\"" = ⟨#[61, 34]⟩ := by decide +kernel
    rw [e1, e2, hk, sE, sQ, toList_append', toList_append', toList_append', List.foldl_append, List.foldl_append, List.foldl_append]
    have f1 : ([c] : List Nat).foldl hstep ⟨res, part, false, false⟩ = ⟨res, part ++ one c, false, false⟩ := by
      show hstep ⟨res, part, false, false⟩ c = _
      simp [hstep, h44, h34]
    have f2 : ∀ p : Str, ([61, 34] : List Nat).foldl hstep ⟨res, p, false, false⟩ = ⟨res, p ++ one 61 ++ one 34, false, true⟩ := fun p => rfl
    have f3 : ∀ p : Str, ([34] : List Nat).foldl hstep ⟨res, p, false, true⟩ = ⟨res, p ++ one 34, false, false⟩ := fun p => rfl
    show List.foldl hstep (List.foldl hstep (List.foldl hstep (([c] : List Nat).foldl hstep ⟨res, part, false, false⟩) [61, 34]) (escF e.val).cps.toList) [34] = _
    rw [f1, f2]
    have f4 : (escF e.val).cps.toList = e.val.cps.toList.flatMap esc1 := by
      show (e.val.cps.toList.flatMap esc1).toArray.toList = _
      rw [List.toList_toArray]
    rw [f4, run_quoted, f3, strL_list]
    congr 1
    refine str_ext ?_
    simp [one, toList_append']
/-- the machine over the rest of the header -/
theorem run_rest : ∀ (es : List Ent) (_ : ∀ e ∈ es, e.Good) (res : List Str) (part : Str),
    (es.flatMap fun e => [44, 32] ++ (escItem e).cps.toList).foldl hstep ⟨res, part, false, false⟩ =
      ⟨(res ++ [part] ++ (es.map fun e => one 32 ++ itemE e)).dropLast, ((res ++ [part] ++ (es.map fun e => one 32 ++ itemE e)).getLast?).getD Str.empty, false, false⟩
  | [], _, res, part => by simp
  | e :: r, hg, res, part => by
    rw [List.flatMap_cons, List.foldl_append, List.foldl_append]
    have f : ([44, 32] : List Nat).foldl hstep ⟨res, part, false, false⟩ = ⟨res ++ [part], Str.ofString "" ++ one 32, false, false⟩ := rfl
    have z : Str.ofString "" ++ one 32 = one 32 := by decide +kernel
    rw [f, z, run_item (hg e (.head _)), run_rest r (fun x hx => hg x (.tail _ hx))]
    simp [List.append_assoc]
theorem join_flat (f : Ent → Str) : ∀ (e : Ent) (es : List Ent), (Str.join (Str.ofString ", ") ((e :: es).map f)).cps.toList = (f e).cps.toList ++ es.flatMap fun e => [44, 32] ++ (f e).cps.toList
  | e, [] => by
    rw [List.flatMap_nil, List.append_nil]
    rfl
  | e, x :: r => by
    have ih := join_flat f x r
    have s2 : (Str.ofString ", ").cps.toList = [44, 32] := by decide +kernel
    show (f e ++ Str.ofString ", " ++ Str.join (Str.ofString ", ") ((x :: r).map f)).cps.toList = _
    rw [toList_append', toList_append', ih, s2, List.flatMap_cons, List.append_assoc, List.append_assoc]
/-- a sign that strip leaves -/
def solid (c : Nat) : Prop := Unicode.isSpace c = false
theorem strip_solid {c z : Nat} {m l : List Nat} (hl : l = m ++ [z]) (h0 : l.head? = some c) (hc : solid c) (hz : solid z) : Txt.strip (strL l) = strL l ∧ Txt.strip (one 32 ++ strL l) = strL l := by
  have hlen : (strL l).length = l.length := by simp [strL, Str.length]
  have lo : stripLo Unicode.isSpace true (strL l) = 0 := by
    unfold stripLo
    rw [if_pos rfl]
    cases l with
    | nil => simp at h0
    | cons a r =>
      have : a = c := by simpa using h0
      subst this
      show (List.takeWhile Unicode.isSpace (a :: r)).length = 0
      rw [List.takeWhile_cons, hc]
      rfl
  have rev : (l.reverse.takeWhile Unicode.isSpace) = [] := by
    rw [hl, List.reverse_append]
    show List.takeWhile Unicode.isSpace (z :: m.reverse) = []
    rw [List.takeWhile_cons, hz]
    rfl
  constructor
  · show Txt.stripBy Unicode.isSpace true true (strL l) = _
    rw [PyProof.Rows.stripBy_eq, lo]
    have hi : stripHi Unicode.isSpace true (strL l) 0 = (strL l).length := by
      unfold stripHi
      rw [if_pos rfl]
      show _ - ((List.drop 0 l).reverse.takeWhile Unicode.isSpace).length = _
      rw [List.drop_zero, rev]
      rfl
    rw [hi]
    refine str_ext ?_
    show ((strL l).cps.extract 0 (strL l).length).toList = _
    simp [strL, Str.length]
  · have e : one 32 ++ strL l = strL (32 :: l) := str_ext (by simp [one, strL, toList_append'])
    rw [e]
    show Txt.stripBy Unicode.isSpace true true (strL (32 :: l)) = _
    have lo' : stripLo Unicode.isSpace true (strL (32 :: l)) = 1 := by
      unfold stripLo at lo ⊢
      rw [if_pos rfl] at lo ⊢
      show (List.takeWhile Unicode.isSpace (32 :: l)).length = 1
      rw [List.takeWhile_cons, show Unicode.isSpace 32 = true by decide +kernel]
      show (List.takeWhile Unicode.isSpace l).length + 1 = 1
      rw [show (List.takeWhile Unicode.isSpace l).length = 0 from lo]
    rw [PyProof.Rows.stripBy_eq, lo']
    have hi : stripHi Unicode.isSpace true (strL (32 :: l)) 1 = (strL (32 :: l)).length := by
      unfold stripHi
      rw [if_pos rfl]
      show _ - ((List.drop 1 (32 :: l)).reverse.takeWhile Unicode.isSpace).length = _
      rw [List.drop_one, List.tail_cons, rev]
      rfl
    rw [hi]
    refine str_ext ?_
    show ((strL (32 :: l)).cps.extract 1 (strL (32 :: l)).length).toList = _
    simp [strL, Str.length]
theorem item_ends {e : Ent} (hg : e.Good) : ∃ l m c z, itemE e = strL l ∧ l = m ++ [z] ∧ l.head? = some c ∧ solid c ∧ solid z := by
  obtain ⟨⟨c, hc, hk⟩, hv, _⟩ := hg
  have sc : solid c := by rcases hc with rfl | rfl | rfl <;> (unfold solid; decide +kernel)
  rcases hv with ⟨h1, hv⟩ | ⟨h1, h2, h3⟩
  · have e2 : itemE e = e.key ++ e.val := if_pos (by rw [h1]; decide)
    rw [e2, hk]
    rcases hv with hv | hv
    · rw [hv]
      exact ⟨[c], [], c, c, str_ext (by rw [show Str.ofString "" = ⟨#[]⟩ by decide +kernel]; simp [strL, toList_append']), rfl, rfl, sc, sc⟩
    · rw [hv]
      exact ⟨[c, 61], [c], c, 61, str_ext (by rw [show Str.ofString "=" = ⟨#[61]⟩ by decide +kernel]; simp [strL, toList_append']), rfl, rfl, sc, by unfold solid; decide +kernel⟩
  · have e2 : itemE e = e.key ++ Str.ofString "=\"" ++ e.val ++ Str.ofString "\"" := if_neg (by omega)
    have sE : Str.ofString "=\"" = ⟨#[61, 34]⟩ := by decide +kernel
    rw [e2, hk, sE, sQ]
    refine ⟨c :: 61 :: 34 :: (e.val.cps.toList ++ [34]), c :: 61 :: 34 :: e.val.cps.toList, c, 34, str_ext ?_, by simp, rfl, sc, by unfold solid; decide +kernel⟩
    simp [strL, toList_append']
theorem strip_item {e : Ent} (hg : e.Good) : Txt.strip (itemE e) = itemE e ∧ Txt.strip (one 32 ++ itemE e) = itemE e := by
  obtain ⟨l, m, c, z, h1, h2, h3, h4, h5⟩ := item_ends hg
  rw [h1]
  exact strip_solid h2 h3 h4 h5
/-- the header's reading gives the items back -/
theorem http_back : ∀ {es : List Ent}, es ≠ [] → (∀ e ∈ es, e.Good) → (hend (hrun (headF es).cps.toList)).map Txt.strip = es.map itemE
  | [], h, _ => absurd rfl h
  | e :: r, _, hg => by
    have hH : (headF (e :: r)).cps.toList = (escItem e).cps.toList ++ r.flatMap fun e => [44, 32] ++ (escItem e).cps.toList := by
      unfold headF
      rw [headF_eq, join_flat]
    have ge := hg e (.head _)
    have gr : ∀ x ∈ r, x.Good := fun x hx => hg x (.tail _ hx)
    have hr : hrun (headF (e :: r)).cps.toList = ⟨([itemE e] ++ (r.map fun e => one 32 ++ itemE e)).dropLast, (([itemE e] ++ (r.map fun e => one 32 ++ itemE e)).getLast?).getD Str.empty, false, false⟩ := by
      unfold hrun
      rw [hH, List.foldl_append, run_item ge, run_rest r gr]
      have : Str.ofString "" ++ itemE e = itemE e := str_ext (by rw [toList_append', show (Str.ofString "").cps.toList = [] by decide +kernel]; rfl)
      rw [this]
      rfl
    rw [hr]
    have hne : ([itemE e] ++ (r.map fun e => one 32 ++ itemE e)) ≠ [] := by simp
    have hlast : (([itemE e] ++ (r.map fun e => one 32 ++ itemE e)).getLast?).getD Str.empty = ([itemE e] ++ (r.map fun e => one 32 ++ itemE e)).getLast hne := by
      rw [List.getLast?_eq_some_getLast hne]
      rfl
    have hlen : ∀ x ∈ ([itemE e] ++ (r.map fun e => one 32 ++ itemE e)), x.length ≠ 0 := by
      intro x hx
      have il : ∀ y : Ent, y.Good → (itemE y).length ≠ 0 := fun y hy => by
        obtain ⟨l, m, c, z, h1, h2, h3, _⟩ := item_ends hy
        rw [h1]
        cases l with
        | nil => simp at h3
        | cons a b => simp [strL, Str.length]
      rcases List.mem_append.mp hx with hx | hx
      · rw [List.mem_singleton.mp hx]
        exact il e ge
      · obtain ⟨y, hy, rfl⟩ := List.mem_map.mp hx
        rw [Str.length_append]
        have := il y (gr y hy)
        omega
    rw [hlast]
    unfold hend
    rw [if_neg (hlen _ (List.getLast_mem hne))]
    show (List.dropLast _ ++ [_]).map Txt.strip = _
    rw [List.dropLast_concat_getLast]
    rw [List.map_append, List.map_cons, List.map_nil, (strip_item ge).1, List.map_map]
    show itemE e :: r.map _ = itemE e :: r.map itemE
    congr 1
    exact List.map_congr_left fun x hx => (strip_item (gr x hx)).2
end Mine

-- part P3
namespace Mine
/-- the keyed dict -/
theorem lastOf_snoc (des : List Ent) (e : Ent) (k : Str) : lastOf (des ++ [e]) k = if e.key = k then e.val else lastOf des k := by
  unfold lastOf valsOf
  rw [List.filter_append, List.map_append, List.filter_cons]
  by_cases h : e.key = k
  · rw [if_pos h, if_pos (decide_eq_true h)]
    simp
  · rw [if_neg h, if_neg (by simpa using h)]
    simp
theorem keysF_snoc (des : List Ent) (e : Ent) : keysF (des ++ [e]) = keyStep (keysF des) e := by
  unfold keysF
  rw [List.foldl_append]
  rfl
theorem keqvF_snoc (des : List Ent) (e : Ent) : keqvF (kvOf (des ++ [e])) = putS e.key e.val (keqvF (kvOf des)) := by
  unfold keqvF kvOf
  rw [List.map_append, List.foldl_append]
  rfl
theorem dict_step {des : List Ent} (e : Ent) (h : keqvF (kvOf des) = (keysF des).map fun k => (k, lastOf des k)) : keqvF (kvOf (des ++ [e])) = (keysF (des ++ [e])).map fun k => (k, lastOf (des ++ [e]) k) := by
  rw [keqvF_snoc, keysF_snoc, h]
  have any : ((keysF des).map fun k => (k, lastOf des k)).any (fun p => decide (p.1 = e.key)) = decide (e.key ∈ keysF des) := by
    by_cases q : e.key ∈ keysF des
    · rw [decide_eq_true q, List.any_eq_true]
      exact ⟨(e.key, lastOf des e.key), List.mem_map.mpr ⟨_, q, rfl⟩, by simp⟩
    · rw [decide_eq_false q]
      refine Bool.eq_false_iff.mpr fun z => ?_
      obtain ⟨p, hp, hd⟩ := List.any_eq_true.mp z
      obtain ⟨k, hk, rfl⟩ := List.mem_map.mp hp
      have : k = e.key := of_decide_eq_true hd
      exact q (this ▸ hk)
  unfold putS keyStep
  rw [any]
  by_cases q : e.key ∈ keysF des
  · rw [if_pos (decide_eq_true q), if_pos q, List.map_map]
    refine List.map_congr_left fun k hk => ?_
    rw [lastOf_snoc]
    show (if k = e.key then (k, e.val) else (k, lastOf des k)) = _
    by_cases r : k = e.key
    · rw [if_pos r, if_pos r.symm]
    · rw [if_neg r, if_neg (fun z => r z.symm)]
  · rw [if_neg (by simpa using q), if_neg q, List.map_append]
    congr 1
    · refine List.map_congr_left fun k hk => ?_
      rw [lastOf_snoc, if_neg (fun z => q (by rw [z]; exact hk))]
    · show [(e.key, e.val)] = [(e.key, lastOf (des ++ [e]) e.key)]
      rw [lastOf_snoc, if_pos rfl]
theorem dict_rest : ∀ (r des : List Ent), (keqvF (kvOf des) = (keysF des).map fun k => (k, lastOf des k)) → keqvF (kvOf (des ++ r)) = (keysF (des ++ r)).map fun k => (k, lastOf (des ++ r) k)
  | [], des, h => by rw [List.append_nil]; exact h
  | e :: r, des, h => by
    have := dict_rest r (des ++ [e]) (dict_step e h)
    rwa [List.append_assoc] at this
theorem dict_law (des : List Ent) : keqvF (kvOf des) = (keysF des).map fun k => (k, lastOf des k) := dict_rest des [] rfl

/-- the three rounds -/
def kvAt (es : List Ent) (i : Nat) : Str × Str := match es[i]? with | some e => (e.key, e.val) | none => (Str.empty, Str.empty)
def lenAt (es : List Ent) (i : Nat) : Nat := (kvAt es i).2.length
theorem due_kv (es : List Ent) : ∀ js : List Nat, (∀ j ∈ js, j < es.length) → kvOf (dueOf es js) = js.map (kvAt es)
  | [], _ => rfl
  | j :: r, h => by
    have ih := due_kv es r fun x hx => h x (.tail _ hx)
    have hj := h j (.head _)
    unfold dueOf kvOf at ih ⊢
    rw [List.filterMap_cons, List.getElem?_eq_getElem hj, List.map_cons, List.map_cons, ih]
    congr 1
    unfold kvAt
    rw [List.getElem?_eq_getElem hj]
theorem due_places' {full : List Ent} : ∀ (es : List Ent) (k : Nat), (∀ i, full[k + i]? = es[i]?) → dueOf full ((List.range' k es.length).filter (isSound full)) = es.filter soundP
  | [], k, _ => rfl
  | e :: r, k, hk => by
    have e0 : full[k]? = some e := by simpa using hk 0
    have hr : ∀ i, full[k + 1 + i]? = r[i]? := fun i => by
      have := hk (i + 1)
      rw [show k + 1 + i = k + (i + 1) by omega]
      simpa using this
    have ih := due_places' r (k + 1) hr
    rw [List.length_cons, List.range'_succ, List.filter_cons, List.filter_cons, isSound_eq e0]
    cases hp : soundP e with
    | false => simpa using ih
    | true =>
      simp only [if_true]
      unfold dueOf at ih ⊢
      rw [List.filterMap_cons, e0, ih]
theorem due_places (es : List Ent) : dueOf es (placesOf es) = es.filter soundP := by
  unfold placesOf
  rw [List.range_eq_range']
  exact due_places' es 0 fun i => by rw [Nat.zero_add]
def dg (es : List Ent) (t : Nat) (i : Nat) : Nat := lenAt es i / 2 ^ t % 2
def rnd (es : List Ent) (t : Nat) (l : List Nat) : List Nat := (l.filter fun i => decide (dg es t i = 0)) ++ l.filter fun i => decide (dg es t i ≠ 0)
theorem digit_dg (es : List Ent) (t i : Nat) : (digit (t : Int) (kvAt es i).2 ≠ 0) ↔ dg es t i ≠ 0 := by
  unfold digit dg lenAt
  rw [Int.toNat_natCast]
  generalize (kvAt es i).2.length = n
  have e : ((n : Int).fdiv (2 ^ t)).fmod 2 = ((n / 2 ^ t % 2 : Nat) : Int) := by
    rw [Int.fdiv_eq_ediv_of_nonneg _ (Int.le_of_lt (Int.pow_pos (by decide))), Int.fmod_eq_emod_of_nonneg _ (by decide)]
    push_cast
    rfl
  rw [e]
  omega
theorem round_rnd (es : List Ent) (t : Nat) (l : List Nat) : round (t : Int) (l.map (kvAt es)) = (rnd es t l).map (kvAt es) := by
  unfold round rnd
  rw [List.map_append, List.filter_map, List.filter_map]
  congr 1
  · congr 1
    refine List.filter_congr fun i _ => ?_
    show (!decide (digit (t : Int) (kvAt es i).2 ≠ 0)) = _
    have := digit_dg es t i
    by_cases q : dg es t i = 0
    · rw [decide_eq_true q, decide_eq_false (fun z => (this.mp z) q)]; rfl
    · rw [decide_eq_false q, decide_eq_true (this.mpr q)]; rfl
  · congr 1
    refine List.filter_congr fun i _ => ?_
    show decide (digit (t : Int) (kvAt es i).2 ≠ 0) = _
    have := digit_dg es t i
    by_cases q : dg es t i = 0
    · rw [decide_eq_false (fun z => (this.mp z) q), decide_eq_false (fun z => z q)]
    · rw [decide_eq_true (this.mpr q), decide_eq_true q]
theorem rnd_perm (es : List Ent) (t : Nat) (l : List Nat) : (rnd es t l).Perm l := by
  unfold rnd
  have : (fun i => decide (dg es t i ≠ 0)) = fun i => !decide (dg es t i = 0) := by
    funext i
    by_cases q : dg es t i = 0 <;> simp [q]
  rw [this]
  exact List.filter_append_perm _ _
theorem rnd_up {es : List Ent} {t M : Nat} {K : Nat → Nat} {l : List Nat} (h : l.Pairwise (fun a b => K a < K b)) (hM : ∀ a ∈ l, K a < M) : (rnd es t l).Pairwise (fun a b => dg es t a * M + K a < dg es t b * M + K b) := by
  unfold rnd
  have two : ∀ i, dg es t i = 0 ∨ dg es t i = 1 := fun i => by unfold dg; omega
  refine List.pairwise_append.mpr ⟨?_, ?_, fun a ha b hb => ?_⟩
  · refine List.Pairwise.imp_of_mem ?_ (h.filter _)
    intro a b ha hb hab
    have e1 : dg es t a = 0 := of_decide_eq_true (List.mem_filter.mp ha).2
    have e2 : dg es t b = 0 := of_decide_eq_true (List.mem_filter.mp hb).2
    rw [e1, e2]; omega
  · refine List.Pairwise.imp_of_mem ?_ (h.filter _)
    intro a b ha hb hab
    have n1 : dg es t a ≠ 0 := of_decide_eq_true (List.mem_filter.mp ha).2
    have n2 : dg es t b ≠ 0 := of_decide_eq_true (List.mem_filter.mp hb).2
    have e1 := (two a).resolve_left n1
    have e2 := (two b).resolve_left n2
    rw [e1, e2]; omega
  · have e1 : dg es t a = 0 := of_decide_eq_true (List.mem_filter.mp ha).2
    have n2 : dg es t b ≠ 0 := of_decide_eq_true (List.mem_filter.mp hb).2
    have e2 := (two b).resolve_left n2
    have := hM a (List.mem_filter.mp ha).1
    rw [e1, e2]; omega
theorem sort_one {K : Nat → Nat} : ∀ {a b : List Nat}, a.Perm b → a.Pairwise (fun x y => K x < K y) → b.Pairwise (fun x y => K x < K y) → a = b
  | [], b, h, _, _ => by rw [List.nil_perm.mp h]
  | x :: a, [], h, _, _ => by have := h.length_eq; simp at this
  | x :: a, y :: b, h, ha, hb => by
    have ha' := List.pairwise_cons.mp ha
    have hb' := List.pairwise_cons.mp hb
    have e : x = y := by
      have hx : x ∈ y :: b := h.mem_iff.mp (.head _)
      have hy : y ∈ x :: a := h.mem_iff.mpr (.head _)
      rcases List.mem_cons.mp hx with z | z
      · exact z
      · rcases List.mem_cons.mp hy with w | w
        · exact w.symm
        · have := hb'.1 x z
          have := ha'.1 y w
          omega
    subst e
    rw [sort_one ((List.perm_cons x).mp h) ha'.2 hb'.2]
theorem places_up (es : List Ent) : (placesOf es).Pairwise (fun a b => a < b) := by
  unfold placesOf
  exact List.Pairwise.filter _ List.pairwise_lt_range
theorem lenAt_sz {es : List Ent} (hg : ∀ e ∈ es, e.Good) {i : Nat} (hi : i ∈ placesOf es) : szAt es i = (lenAt es i : Int) ∧ lenAt es i ≤ 7 := by
  have h := szAt_nonneg hi
  have he := List.getElem?_eq_getElem h.2
  have hge := hg _ (List.getElem_mem h.2)
  have h0 := h.1
  unfold szAt at h0 ⊢
  unfold lenAt kvAt
  rw [he] at h0 ⊢
  obtain ⟨_, hv, _⟩ := hge
  dsimp only at h0 ⊢
  rcases hv with ⟨h1, _⟩ | ⟨h1, h2, h3⟩
  · omega
  · exact ⟨h3.symm, by omega⟩
/-- the rounds sort by the size, equals as they stood -/
theorem rounds_law {es : List Ent} (hg : ∀ e ∈ es, e.Good) (hlen : es.length ≤ 12) {js : List Nat} (hp : js.Perm (placesOf es)) (hu : js.Pairwise (fun a b => rankK es a < rankK es b)) :
    round 2 (round 1 (round 0 (kvOf (es.filter soundP)))) = kvOf (dueOf es js) := by
  have pl : ∀ j ∈ placesOf es, j < es.length := fun j hj => (szAt_nonneg hj).2
  have jl : ∀ j ∈ js, j < es.length := fun j hj => pl j (hp.mem_iff.mp hj)
  rw [← due_places, due_kv es _ pl, due_kv es _ jl]
  have r0 := round_rnd es 0 (placesOf es)
  have r1 := round_rnd es 1 (rnd es 0 (placesOf es))
  have r2 := round_rnd es 2 (rnd es 1 (rnd es 0 (placesOf es)))
  rw [show round 0 ((placesOf es).map (kvAt es)) = _ from r0, show round 1 _ = _ from r1, show round 2 _ = _ from r2]
  congr 1
  have p1 := (rnd_perm es 0 (placesOf es))
  have p2 := (rnd_perm es 1 (rnd es 0 (placesOf es))).trans p1
  have p3 := (rnd_perm es 2 (rnd es 1 (rnd es 0 (placesOf es)))).trans p2
  have two : ∀ t i, dg es t i ≤ 1 := fun t i => by unfold dg; omega
  have u0 := places_up es
  have u1 := rnd_up (es := es) (t := 0) (M := 64) (K := fun a => a) u0 (fun a ha => by have := pl a ha; omega)
  have u2 := rnd_up (es := es) (t := 1) (M := 128) u1 (fun a ha => by have := pl a (p1.mem_iff.mp ha); have := two 0 a; omega)
  have u3 := rnd_up (es := es) (t := 2) (M := 256) u2 (fun a ha => by have := pl a (p2.mem_iff.mp ha); have := two 0 a; have := two 1 a; omega)
  refine sort_one (K := rankK es) (p3.trans hp.symm) (List.Pairwise.imp_of_mem ?_ u3) hu
  intro a b ha hb hab
  have key : ∀ x, x ∈ placesOf es → rankK es x = dg es 2 x * 256 + (dg es 1 x * 128 + (dg es 0 x * 64 + x)) := fun x hx => by
    obtain ⟨h1, h2⟩ := lenAt_sz hg hx
    unfold rankK dg
    rw [h1, Int.toNat_natCast]
    generalize lenAt es x = n at h2 ⊢
    have : n / 2 ^ 2 % 2 * 4 + n / 2 ^ 1 % 2 * 2 + n / 2 ^ 0 % 2 = n := by
      have : n = 0 ∨ n = 1 ∨ n = 2 ∨ n = 3 ∨ n = 4 ∨ n = 5 ∨ n = 6 ∨ n = 7 := by omega
      rcases this with rfl | rfl | rfl | rfl | rfl | rfl | rfl | rfl <;> rfl
    omega
  rw [key a (p3.mem_iff.mp ha), key b (p3.mem_iff.mp hb)]
  exact hab
end Mine

-- part L6
namespace Mine
theorem join_le {sep : Str} {B : Nat} : ∀ {ws : List Str}, (∀ y ∈ ws, y.length ≤ B) → (Str.join sep ws).length ≤ ws.length * (B + sep.length)
  | [], _ => Nat.zero_le _
  | [x], h => by
    show x.length ≤ _
    have := h x (.head _)
    simp only [List.length_singleton]
    omega
  | x :: y :: r, h => by
    have ih := join_le (sep := sep) (ws := y :: r) fun z hz => h z (.tail _ hz)
    have := h x (.head _)
    show (x ++ sep ++ Str.join sep (y :: r)).length ≤ _
    rw [Str.length_append, Str.length_append, List.length_cons (a := x), Nat.succ_mul]
    omega
theorem head_len {es : List Ent} (hg : ∀ e ∈ es, e.Good) (hlen : es.length ≤ 12) : (headF es).length ≤ 900 := by
  unfold headF
  rw [headF_eq]
  have h2 : (Str.ofString ", ").length = 2 := by decide +kernel
  have := join_le (sep := Str.ofString ", ") (B := 18) (ws := es.map escItem) fun y hy => by
    obtain ⟨e, he, rfl⟩ := List.mem_map.mp hy
    obtain ⟨k1, k2⟩ := (hg e he).lens
    have := itemF_len e.key (escF e.val) e.size
    have := escF_len e.val
    show (itemF e.key e.size (escF e.val)).length ≤ 18
    omega
  rw [h2, List.length_map] at this
  omega
theorem filterMap_le {α β : Type} (f : α → Option β) : ∀ l : List α, (l.filterMap f).length ≤ l.length
  | [] => Nat.le_refl _
  | a :: r => by
    have := filterMap_le f r
    rw [List.filterMap_cons]
    cases f a <;> simp only [List.length_cons] <;> omega
theorem places_two {es : List Ent} {ns : List Int} (h : es.map (·.size) = (ns ++ given).map sizeF) : 2 ≤ (placesOf es).length := by
  have h1 : (es.filter soundP).length ≤ (placesOf es).length := by
    rw [← due_places]
    exact filterMap_le _ _
  have h2 : ∀ l : List Ent, (l.filter soundP).length = ((l.map (·.size)).filter fun z => decide (0 ≤ z)).length := by
    intro l
    rw [List.filter_map, List.length_map]
    rfl
  have h3 : (given.map sizeF).filter (fun z => decide (0 ≤ z)) = [2, 0, 2, 1] := by decide +kernel
  rw [h2, h, List.map_append, List.filter_append, List.length_append, h3] at h1
  simp only [List.length_cons] at h1
  omega
theorem body_eq : lawBody = [stm 0, stm 1, stm 2, stm 3, stm 4, stm 5, stm 6, stm 7, stm 8, stm 9, stm 10, stm 11, stm 12, stm 13, stm 14] := rfl
section
variable {w : World} {p : Program} {loose : List Str} {mean : ExcName → Option Value} {mg mb : Str → Option Value} {G : Heap} {L fa : Addr} {cd : Value} {m : Str → Option Value} {s : Shared} {Q : Flow → Shared → Prop} {E : Value → Shared → Prop}
theorem keep_list {h h' : Heap} {L K a : Addr} {m : Str → Option Value} {ce dv : Option Value} {n : Nat} {xs : Array Value} (S : LawSt G L h m ce dv) (hK : h.get? K = some (W.listOf #[] n)) (k : ∀ b o, b ∉ frees L → b ≠ K → h.get? b = some o → h'.get? b = some o)
    (hl : h.IsList a xs) (hne : xs ≠ #[]) : h'.IsList a xs := by
  obtain ⟨o, e, hc, nn, hd⟩ := hl
  refine ⟨o, k a o (S.off e hd) (fun z => ?_) e, hc, nn, hd⟩
  rw [z, hK] at e
  cases e
  cases hd
  exact hne rfl
theorem keep_ents {h h' : Heap} {L K : Addr} {m : Str → Option Value} {ce dv : Option Value} {n : Nat} {vs : List Value} {es : List Ent} (S : LawSt G L h m ce dv) (hK : h.get? K = some (W.listOf #[] n)) (k : ∀ b o, b ∉ frees L → b ≠ K → h.get? b = some o → h'.get? b = some o)
    (hE : EntsAt h vs es) : EntsAt h' vs es :=
  hE.mono fun v e ⟨T, t2, t3, t4, hv, o, e1, hc, nn, hd⟩ => ⟨T, t2, t3, t4, hv, o, k T o (S.off e1 hd) (fun z => by
    rw [z, hK] at e1
    cases e1
    exact absurd (show (Value.type "list") = Value.type "tuple" from hc) (by decide)) e1, hc, nn, hd⟩
theorem ne_empty {vs : List Value} (h : 1 ≤ vs.length) : vs.toArray ≠ #[] := fun z => by
  have := congrArg Array.size z
  simp at this
  rw [this] at h
  simp at h
theorem law_walk {l : Addr} {vs : List Value} {ns : List Int} (hPE : PassesOwn (model Challenge.rw_mq0130_01.row.prog w) (callerA.deeper (lawEnv L fa cd)) (lawEnv L fa cd) E)
   (B : Amb w p loose mean mg mb G) (S : LawSt G L s.heap m none none) (hm : m (Str.ofString "script") = some (.ref l)) (hl : G.IsList l vs.toArray) (hI : IntsAre vs ns) (hlen : ns.length ≤ 63)
   (h : ∀ h' tk', G.StaysIn h' → TabSt h' → Q (.ret (.bool true)) { s with heap := h', toks := tk' }) :
   wpAny (model Challenge.rw_mq0130_01.row.prog w) (callerA.deeper (lawEnv L fa cd)) (execs lawBody (lawEnv L fa cd)) Q E s := by
  rw [body_eq]
  refine wpAny_execs_cons (st1 B S hm hl hI hlen fun D evs es h1 tk1 m1 S1 hD1 hE1 hg hsz => ?_)
  have hes : es.length ≤ 12 := by
    have := congrArg List.length hsz
    simp [given] at this
    omega
  have hne : es ≠ [] := by
    intro z
    have := congrArg List.length hsz
    rw [z] at this
    simp [given] at this
  have h2 := places_two hsz
  refine wpAny_execs_cons (st2 (s := { s with heap := h1, toks := tk1 }) B S1 hD1 hE1 hg hes fun t h2' tk2 m2 S2 M2 hm2 => ?_)
  have hD2 := S1.list hD1 M2
  have hE2 := hE1.move S1 M2
  refine wpAny_execs_cons (st3 (s := { s with heap := h2', toks := tk2 }) B S2 hm2 (head_len hg hes) fun I ivs h3 tk3 m3 S3 M3 hmI hI3 hS3 => ?_)
  rw [http_back hne hg] at hS3
  have hD3 := S2.list hD2 M3
  have hE3 := hE2.move S2 M3
  refine wpAny_execs_cons (st4 (s := { s with heap := h3, toks := tk3 }) B S3 hD3 hE3 hg hes hmI hI3 hS3 fun h4 tk4 S4 M4 => ?_)
  have hD4 := S3.list hD3 M4
  have hE4 := hE3.move S3 M4
  have hI4 := S3.list hI3 M4
  refine wpAny_execs_cons (st5 (s := { s with heap := h4, toks := tk4 }) B S4 hD4 hE4 hg hes fun O ovs h5 tk5 S5 M5 hO5 hOS => ?_)
  have hD5 := S4.list hD4 M5
  have hE5 := hE4.move S4 M5
  have hI5 := S4.list hI4 M5
  refine wpAny_execs_cons (st6 (s := { s with heap := h5, toks := tk5 }) B S5 hD5 hE5 hg hes fun Rf rfs h6 tk6 S6 M6 hR6 hRS => ?_)
  have hD6 := S5.list hD5 M6
  have hE6 := hE5.move S5 M6
  have hI6 := S5.list hI5 M6
  have hO6 := S5.list hO5 M6
  refine wpAny_execs_cons (st7 (s := { s with heap := h6, toks := tk6 }) B S6 hg hes hmI hI6 hS3 rfl hO6 hOS rfl hR6 hRS fun h7 tk7 m7 S7 M7 hmO7 => ?_)
  have hD7 := S6.list hD6 M7
  have hE7 := hE6.move S6 M7
  have hO7 := S6.list hO6 M7
  refine wpAny_execs_cons (st8 (s := { s with heap := h7, toks := tk7 }) B S7 hD7 hE7 hes h2 fun Rk rvs js h8 tk8 m8 S8 M8 hmO8 hmRk hRk8 hP8 hperm hpw => ?_)
  rw [hmO7] at hmO8
  have hD8 := S7.list hD7 M8
  have hE8 := hE7.move S7 M8
  have hO8 := S7.list hO7 M8
  have hjs : ∀ j ∈ js, j < es.length := fun j hj => (szAt_nonneg (hperm.mem_iff.mp hj)).2
  have hjl : js.length ≤ 12 := by
    have := hperm.length_eq
    have := places_len es
    omega
  refine wpAny_execs_cons (st9 (s := { s with heap := h8, toks := tk8 }) B S8 hD8 hE8 hes hmRk hRk8 hP8 hjs hjl fun U dvs h9 tk9 S9 M9 hU9 hEd9 => ?_)
  have hO9 := S8.list hO8 M9
  have hgs : ∀ e ∈ es.filter soundP, e.Good := fun e he => hg e (List.mem_filter.mp he).1
  have hss : ∀ e ∈ es.filter soundP, 0 ≤ e.size := fun e he => of_decide_eq_true (List.mem_filter.mp he).2
  have hls : (es.filter soundP).length ≤ 12 := by
    have := List.length_filter_le soundP es
    omega
  refine wpAny_execs_cons (st10 (s := { s with heap := h9, toks := tk9 }) B S9 hgs hss hls hmO8 hO9 hOS fun Rw ys h10 tk10 m10 S10 M10 hmRow hR10 hys => ?_)
  rw [rounds_law hg hes hperm hpw] at hys
  have hgd : ∀ e ∈ dueOf es js, e.Good ∧ 0 ≤ e.size := fun e he => by
    obtain ⟨j, hj, hje⟩ := List.mem_filterMap.mp he
    have hz := szAt_nonneg (hperm.mem_iff.mp hj)
    have hz1 := hz.1
    unfold szAt at hz1
    rw [hje] at hz1
    exact ⟨hg e (List.mem_of_getElem? hje), hz1⟩
  have hgd1 : ∀ e ∈ dueOf es js, e.Good := fun e he => (hgd e he).1
  have hld : (dueOf es js).length ≤ 12 := Nat.le_trans (filterMap_le _ _) hjl
  have hys' : StrsAre ys ((dueOf es js).map itemE) := by
    rw [← items_kv hgd1 fun e he => (hgd e he).2]
    exact hys
  have hU10 := S9.list hU9 M10
  have hEd10 := hEd9.move S9 M10
  refine wpAny_execs_cons (st11 (s := { s with heap := h10, toks := tk10 }) B S10 hU10 hEd10 hgd1 hld hmRow hR10 hys' fun h11 tk11 S11 M11 => ?_)
  have hU11 := S10.list hU10 M11
  have hEd11 := hEd10.move S10 M11
  have hR11 := S10.list hR10 M11
  refine wpAny_execs_cons (st12 (s := { s with heap := h11, toks := tk11 }) B S11 hmRow fun K n h12 tk12 m12 S12 M12 hmRow12 hmK hK12 hKG => ?_)
  have hU12 := S11.list hU11 M12
  have hEd12 := hEd11.move S11 M12
  have hR12 := S11.list hR11 M12
  have hduel : (dueOf es js).length = js.length := by
    have := congrArg List.length (due_kv es js hjs)
    simpa [kvOf] using this
  have hdue1 : 1 ≤ (dueOf es js).length := by
    have := hperm.length_eq
    omega
  have hdne : dvs.toArray ≠ #[] := ne_empty (by rw [ents_len hEd12]; exact hdue1)
  have hyne : ys.toArray ≠ #[] := ne_empty (by rw [hys'.len_eq, List.length_map]; exact hdue1)
  have hUK : U ≠ K := fun z => by
    obtain ⟨o, e, hc, nn, hd⟩ := hU12
    rw [z, hK12] at e
    cases e
    cases hd
    exact hdne rfl
  refine wpAny_execs_cons (st13 (s := { s with heap := h12, toks := tk12 }) hPE B S12 hU12 hEd12 hgd1 hld hUK hK12 hKG hmK hmRow12 fun kvs h13 tk13 m13 S13 k13 hmRow13 hmK13 hK13 hKS => ?_)
  have hU13 := keep_list S12 hK12 k13 hU12 hdne
  have hEd13 := keep_ents S12 hK12 k13 hEd12
  have hR13 := keep_list S12 hK12 k13 hR12 hyne
  refine wpAny_execs_cons (st14 (s := { s with heap := h13, toks := tk13 }) (kv := kvOf (dueOf es js)) B S13 hmRow13 hmK13 hR13 hys (by simpa [kvOf] using hld) (fun q hq => ?_) fun T tvs h14 tk14 m14 S14 M14 hmK14 hmT hT14 hTP => ?_)
  · obtain ⟨e, he, rfl⟩ := List.mem_map.mp hq
    rcases (hgd1 e he).kinds with ⟨_, _, _, h4⟩ | ⟨h1, _⟩
    · exact ⟨h4, Nat.le_trans (hgd1 e he).lens.2 (by decide)⟩
    · exact absurd (hgd e he).2 (by omega)
  have hU14 := S13.list hU13 M14
  have hEd14 := hEd13.move S13 M14
  have hK14 := S13.list hK13 M14
  refine wpAny_execs_cons (st15 (s := { s with heap := h14, toks := tk14 }) B S14 hU14 hEd14 hgd1 hld hmT hmK14 hT14 hTP hK14 hKS ?_ (fun k hk => ?_) (dict_law _) fun h15 tk15 S15 M15 => ?_)
  · have := keys_len' (dueOf es js) []
    simp only [List.length_nil] at this
    unfold keysF
    omega
  · rcases keys_mem' _ _ _ hk with z | ⟨x, hx, rfl⟩
    · cases z
    · exact ⟨(hgd1 x hx).ok.1, x, hx, rfl⟩
  · exact h h15 tk15 S15.F.keep S15.tab
end
end Mine

-- part L7
namespace Mine
set_option pp.deepTerms false
set_option pp.deepTerms.threshold 6
set_option pp.maxSteps 1500
theorem holds : PySem.Challenge.rw_mq0130_01.Holds := by
  refine hd ?_
  k_go0
  all_goals (
    (rename Fr _ _ _ _ => F'); (rename News _ _ _ _ => N'); (rename Frag.In _ (ghostOf _ _) => X'); (rename Top topProg _ _ _ _ _ => T'); (rename (CodeHd _ _ _) => C'); (rename IntsAre _ _ => I'); (rename Heap.IsList (ghostOf _ _) _ _ => l'); (rename Shared.gens _ = #[] => g'); (rename ¬ _ < _ => n')
    refine law_walk (L := Array.size _) (fa := _) (cd := _) (l := _) (ns := _) ?_ ⟨X', T', hideAll_none _ (.head _), C'⟩ ⟨F', ⟨_, (N' _ (.tail _ (.head _))).1, by assumption⟩, ⟨_, (N' _ (.head _)).1, by assumption⟩, ⟨#[], (N' _ (.tail _ (.tail _ (.head _)))).1, .inl rfl⟩⟩ rfl l' I' (by omega) (fun h' tk' st tab => ?_))
  · passes_own
  · obtain ⟨ps, e, _⟩ := tab
    exact ⟨⟨.inl ⟨.bool true, .bool true, [], rfl, fun _ => rfl, .bool true, by wrow_post, unshared_nil⟩, st, rfl, by assumption⟩, ⟨ps, e⟩, trivial⟩
end Mine

theorem PySem.Challenge.cw_mq0130_01_holds : PySem.Challenge.rw_mq0130_01.Holds := by
  exact Mine.holds
