import PyProof.Rows.All
import Wide.All
import OpenK.AllK
import Wide.FinOn
import PySem.Challenge.RW_dn0041_10
open PySem PySem.W PyProof.Rows PySem.Calls
set_option Elab.async false
set_option maxRecDepth 100000
set_option maxHeartbeats 8000000
set_option linter.unusedVariables false
open_top hd10 for PySem.Challenge.rw_dn0041_10
namespace Mine
def Stop (P : Prop) : Prop := P
theorem Stop.mk {P : Prop} (h : Stop P) : P := h

def LeaveF (h₀ : Heap) (L : Addr) (m : Str → Option Value) (g : Heap) (rest : List (Addr × Obj)) (R : Result → Shared → Prop) (v : Value) (s' : Shared) : Prop :=
  ∃ L' m' own', Fr g L' s'.heap m' ∧ News g L' s'.heap own' ∧
    (Fr h₀ L s'.heap m → News h₀ L s'.heap (own' ++ rest) → (∀ p ∈ own', ∀ q ∈ rest, p.1 ≠ q.1) → R (.ok (.ret v)) s')

/-- what a caller's frame knows -/
structure At (K : Frag) (p : Program) (loose : List Str) (mean : ExcName → Option Value) (mg mb : Str → Option Value) (A : Around) (h₀ : Heap) (L : Addr) (d : Nat) : Prop where
  ex : ∃ A₀ base outer env, Below A₀ base outer h₀ ∧ A.frames = some (env :: outer) ∧ env.frame = some L ∧ env.scope.kind = .function
  X : K.In h₀
  T : Top p loose mean mg mb h₀
  hd : A.depth + d < recursionLimit
  hu : A.units + 16 * d + 16 < cLine
  hh : A.handled = none

section
variable {prog : Program} {w : World} {A : Around} {s : Shared} {h₀ : Heap} {L : Addr} {m : Str → Option Value} {own rest : List (Addr × Obj)} {K : Frag}
  {p : Program} {loose : List Str} {mean : ExcName → Option Value} {mg mb : Str → Option Value} {d : Nat} {Q : Value → Shared → Prop} {E : Value → Shared → Prop}
  {name qual : Str} {params : Arguments} {body : List Stmt} {scope : Scope} {dV kV doc pm cdv ct oc : Value} {an od : Option Addr} {osl : Array (Option Value)} {f : Addr} {args : List Value} {kw : List (Str × Value)} {binds : List (Str × Value)}

theorem At.less {d d' : Nat} (C : At K p loose mean mg mb A h₀ L d) (h : d' ≤ d) : At K p loose mean mg mb A h₀ L d' :=
  ⟨C.ex, C.X, C.T, by have := C.hd; omega, by have := C.hu; omega, C.hh⟩

theorem call_at (C : At K p loose mean mg mb A h₀ L (d + 1)) (F : Fr h₀ L s.heap m) (N : News h₀ L s.heap (own ++ rest)) (hsep : ∀ p ∈ own, ∀ q ∈ rest, p.1 ≠ q.1)
    (ho : K.lookup f = some ⟨oc, od, .func (fnOf name qual params body scope dV kV doc pm an cdv ct), osl⟩) (hcd : codeIn K cdv qual = true)
    (hbind : BindsTo s (fnOf name qual params body scope dV kV doc pm an cdv ct) ⟨args, kw⟩ binds) (hloc : ∀ y ∈ binds, scope.names.lookup y.1 = some .local)
    (h : ∀ g L' h₁, At K p loose mean mg mb (A.deeper (envOf qual scope L' f cdv)) g L' d → Fr g L' h₁ (fun y => binds.reverse.lookup y) → News g L' h₁ own → (∀ q ∈ rest, g.get? q.1 = some q.2) → h₀.StaysIn g → 
      wpAny (model prog w) (A.deeper (envOf qual scope L' f cdv)) (execs body (envOf qual scope L' f cdv))
        (fun fl s' => LeaveF h₀ L m g rest (fun r s' => match r with | .ok (.ret v) => Q v s' | .ok _ => False | .error e => E e s') (match fl with | .ret v => v | _ => .none) s')
        (fun e s' => wpAny (model prog w) (A.deeper (envOf qual scope L' f cdv)) (leaving (envOf qual scope L' f cdv) e) (fun _ s'' => E e s'') (fun e' s'' => E e' s'') s')
        { s with heap := h₁, toks := s.toks + binds.length })
    (hco : scope.isCoroutine = false) (hgen : scope.isGenerator = false) (hk : scope.kind = .function)
    (hcell : ∀ x ∈ scope.names, x.2 ≠ .cell) : wpAny (model prog w) A (call (.ref f) args kw) Q E s := by
  obtain ⟨⟨A₀, base, outer, env, B, hA, hf, hke⟩, X, T, hd, hu, hh⟩ := C
  have N' : News h₀ L s.heap own := fun q hq => N q (List.mem_append_left _ hq)
  refine wpAny_call ?_
  obtain ⟨FG, BG, st, lv⟩ := groundX (R := fun r s' => match r with | .ok (.ret v) => Q v s' | .ok _ => False | .error e => E e s') B F N' hA hf hke
  have hrest : ∀ q ∈ rest, (hideAll s.heap (own.map (·.1))).get? q.1 = some q.2 := fun q hq =>
    hideAll_get _ (N q (List.mem_append_right _ hq)).1 fun hm => by
      obtain ⟨p, hp, e⟩ := List.mem_map.mp hm
      exact hsep p hp q hq e
  refine codeAny_call_def (fd := fnOf name qual params body scope dV kV doc pm an cdv ct) (body := body) (binds := binds) (by omega) ((X.keeps F.keep) _ _ ho) rfl (T.nolimit.keeps F.keep) (codeRec_of (X.keeps F.keep) hcd) rfl hbind hcell hloc (fun h₁ hns hk₁ => ?_) hco hgen hk
  refine wpAny_mono (h (hideAll s.heap (own.map (·.1))) s.heap.objs.size h₁ ?_ ⟨hns, fun b o e => hk₁ b o (of_hideAll _ e), Nat.le_of_eq (hideAll_size _ _)⟩
    (fun p hp => ⟨hk₁ _ _ (N' p hp).1, Nat.ne_of_lt (Heap.lt_size (N' p hp).1), hideAll_none _ (List.mem_map_of_mem hp)⟩) hrest st) (fun fl s' hl => ?_) fun _ _ y => y
  · refine ⟨⟨A, base, env :: outer, envOf qual scope s.heap.objs.size f cdv, BG, ?_, rfl, hk⟩, X.keeps st, T.keeps st, ?_, ?_, hh⟩
    · show Option.map _ A.frames = _
      rw [hA]; rfl
    · show A.depth + 1 + d < _
      omega
    · show A.units + 3 + 16 * d + 16 < _
      omega
  · obtain ⟨L', m', own', F', N'', k⟩ := hl
    refine lv _ _ ⟨L', m', own', F', N'', fun kF kN => k kF (fun q hq => ?_) fun q hq r hr e => ?_⟩
    · rcases List.mem_append.mp hq with hq | hq
      · exact kN q hq
      · exact ⟨F'.keep _ _ (hrest q hq), (N q (List.mem_append_right _ hq)).2⟩
    · have h1 := (N'' q hq).2.2
      rw [e, hrest r hr] at h1
      cases h1
end
section
variable {prog : Program} {w : World} {A : Around} {E : Value → Shared → Prop} {s : Shared} {h₀ : Heap} {L : Addr} {m : Str → Option Value} {news news' : List (Addr × Obj)} {D : Addr} {vs : List Value} {n : Nat} {k : Int} {u : Tok} {v : Value}
theorem getElem?_getD {k : Nat} (h : k < vs.length) : vs[k]? = some (vs.getD k .none) := by
  simp [List.getD, List.getElem?_eq_getElem h]
theorem item_gen {value slice : Expr} {Q : Value → Shared → Prop} (N : News h₀ L s.heap news) (hm : (D, listOf vs.toArray n) ∈ news) (h0 : 0 ≤ k) (hk : k < vs.length) (hfit : vs.length < 2 ^ 62)
    (h : Q (vs.getD k.toNat .none) s)
    (hs : subscripted slice false (.ref D) (.int k u) = operate [.ref D, .int k u] (getItem (.ref D) (.int k u)) := by with_unfolding_all rfl) (hg : ∀ r, letTemporaryGo value (.ref D) r = pure () := by intro _; with_unfolding_all rfl) :
    wpAny (model prog w) A (subscriptTail value slice (.ref D) (.int k u)) Q E s :=
  kim_list (l := vs) (n := n) N hm rfl rfl h0 (by omega) (getElem?_getD (by omega)) h hs hg
theorem set_gen {Q : Unit → Shared → Prop} (F : Fr h₀ L s.heap m) (N : News h₀ L s.heap news) (U : Upd D (listOf vs.toArray n) (listOf (vs.set k.toNat v).toArray n) news news') (h0 : 0 ≤ k) (hk : k < vs.length) (hfit : vs.length < 2 ^ 62)
    (h : ∀ h', Fr h₀ L h' m → News h₀ L h' news' → Q () { s with heap := h' }) :
    wpAny (model prog w) A (setItem (.ref D) (.int k u) v) Q E s := by
  obtain ⟨pre, post, rfl, rfl, a, b⟩ := U.split
  have z := N (D, listOf vs.toArray n) (List.mem_append.mpr (.inr (.head _)))
  refine ki_setAt z.1 h0 (by omega) (by simp; omega) (h _ (F.change (Heap.SameBut.update ..) z.2.1 z.2.2) (ki_turn _ N a b ?_ ?_))
  · show vs.toArray.setIfInBounds k.toNat v = (vs.set k.toNat v).toArray
    apply Array.toList_inj.mp
    simp
  · simp
theorem len_gen {Q : Value → Shared → Prop} (N : News h₀ L s.heap news) (hm : (D, listOf vs.toArray n) ∈ news) (hfit : vs.length < 2 ^ 62)
    (h : Q (.int vs.length (s.toks + 1)) { s with toks := s.toks + 1 + 1 }) : wpAny (model prog w) A (call (.builtin "len") [.ref D]) Q E s :=
  len_list (items := vs.toArray) (PySem.IsL.isList (n := n) (N _ hm).1) (by simp; omega) (by simpa using h)
end

section
variable {prog : Program} {w : World} {A : Around} {E : Value → Shared → Prop} {s : Shared} {h₀ : Heap} {L : Addr} {m : Str → Option Value} {news news' : List (Addr × Obj)} {D : Addr} {vs ws : List Value} {n : Nat} {k : Int} {u : Tok} {v x y : Value}
theorem append_gen {Q : Value → Shared → Prop} (F : Fr h₀ L s.heap m) (N : News h₀ L s.heap news) (U : Upd D (listOf vs.toArray n) (listOf (vs ++ [x]).toArray (n + 1)) news news') (hfit : vs.length ≤ 2 ^ 20)
    (h : ∀ h', Fr h₀ L h' m → News h₀ L h' news' → Q .none { s with heap := h' }) : wpAny (model prog w) A (call (.builtin "list.append") [.ref D, x]) Q E s :=
  append_K (its := vs.toArray) F N (by simpa using U) h (by simp [sizeLine]; omega)
theorem pop_gen {Q : Value → Shared → Prop} (F : Fr h₀ L s.heap m) (N : News h₀ L s.heap news) (hv : vs = ws ++ [y]) (U : Upd D (listOf vs.toArray n) (listOf ws.toArray (n + 1)) news news') (hfit : vs.length ≤ 2 ^ 20)
    (h : ∀ h', Fr h₀ L h' m → News h₀ L h' news' → Q y { s with heap := h' }) : wpAny (model prog w) A (call (.builtin "list.pop") [.ref D]) Q E s :=
  kl_pop (its := vs.toArray) F N (by rw [hv]; exact kpa_last y ws) U (by simp [sizeLine]; omega) h
theorem truthy_gen {Q : Bool → Shared → Prop} (N : News h₀ L s.heap news) (hm : (D, listOf vs.toArray n) ∈ news) (hfit : vs.length < 2 ^ 62)
    (h : Q (decide (vs ≠ [])) { s with toks := s.toks + 1 + 1 }) : wpAny (model prog w) A (truthy (.ref D)) Q E s :=
  wpAny_truthy_list (items := vs.toArray) (PySem.IsL.isList (n := n) (N _ hm).1) (by simp; omega) (by
    have e : (!vs.toArray.isEmpty) = decide (vs ≠ []) := by cases vs <;> simp
    rw [e]; exact h)
theorem insert_gen {Q : Value → Shared → Prop} (F : Fr h₀ L s.heap m) (N : News h₀ L s.heap news) (h0 : 0 ≤ k) (hk : k ≤ vs.length) (U : Upd D (listOf vs.toArray n) (listOf (vs.take k.toNat ++ y :: vs.drop k.toNat).toArray (n + 1)) news news') (hfit : vs.length ≤ 2 ^ 20)
    (h : ∀ h', Fr h₀ L h' m → News h₀ L h' news' → Q .none { s with heap := h' }) : wpAny (model prog w) A (call (.builtin "list.insert") [.ref D, .int k u, y]) Q E s :=
  kl_insert (its := vs.toArray) F N (by simp [Builtin.List.listFitsIndex]; omega) (by
    show kl_ins vs k y = _
    unfold kl_ins
    rw [if_neg (by omega)]
    have e : min k.toNat vs.length = k.toNat := by omega
    rw [e]) U (by simp [sizeLine]; omega) h
end

section
variable {prog : Program} {w : World} {A : Around} {E : Value → Shared → Prop} {s : Shared} {h₀ : Heap} {L l : Addr} {m : Str → Option Value} {news : List (Addr × Obj)} {value slice : PySem.Expr} {its : Array Value} {zs : List Value} {vl vu : Value} {lo hi : Option Int} {Q : Value → Shared → Prop}
theorem slice_gen (F : Fr h₀ L s.heap m) (N : News h₀ L s.heap news) (hl : s.heap.IsList l its) (pl : IsPart vl lo) (pu : IsPart vu hi) (e : (slicePick its lo hi none).toList = zs)
    (h : ∀ D h', Fr h₀ L h' m → News h₀ L h' ((D, listOf zs.toArray 0) :: news) → (∀ p ∈ news, p.1 < D) → Q (.ref D) { s with heap := h' })
    (hs : subscripted slice false (.ref l) (.ref s.heap.objs.size) = operate [.ref s.heap.objs.size, .ref l] (getItem (.ref l) (.ref s.heap.objs.size))) (hz : its.size ≤ 2 ^ 20) :
    wpAny (model prog w) A (subscriptTail value slice (.ref l) (.ref s.heap.objs.size)) Q E { s with heap := s.heap.push { cls := .type "slice", data := .fields #[vl, vu, .none] } } := by
  refine tail_any (Heap.IsList.typeIs (s := { s with heap := s.heap.push { cls := .type "slice", data := .fields #[vl, vu, .none] } }) (hl.push _)) list_getitem_lookup
    (wpAny_getItem_list_slice (hl.push _) (Heap.IsSliceOf.new ..) pl pu .none (by simp) ?_ (by simp only [sizeLine]; omega)) hs
  have N1 := News.push (F.push { cls := .type "slice", data := .fields #[vl, vu, .none] }) (N.grown fun _ _ e => Heap.get?_push_of_some _ e) { cls := .type "list", data := .seq (slicePick its lo hi none) }
  rw [Heap.size_push] at N1
  have ez : slicePick its lo hi none = zs.toArray := by rw [← e]
  rw [ez] at N1
  have hq := h _ _ ((F.push _).push _) N1 (fun p hp => Nat.lt_succ_of_lt (Heap.lt_size (N p hp).1))
  rw [Heap.size_push, ez]
  exact hq
theorem pick_from (vs : List Value) (k : Nat) : (slicePick vs.toArray (some (k : Int)) none none).toList = vs.drop k := by rw [slicePick_from']
theorem pick_upto (vs : List Value) (k : Nat) : (slicePick vs.toArray none (some (k : Int)) none).toList = vs.take k := by rw [slicePick_upto']
theorem pick_butLast (vs : List Value) : (slicePick vs.toArray none (some (-1)) none).toList = vs.dropLast := by
  have := slicePick_butLast vs.toArray 1 (Nat.le_refl _)
  rw [show (-((1 : Nat) : Int)) = -1 from rfl] at this
  rw [this]
  simp [List.dropLast_eq_take]
theorem pick_last (vs : List Value) : (slicePick vs.toArray (some (-1)) none none).toList = vs.drop (vs.length - 1) := by
  have := slicePick_last vs.toArray 1 (Nat.le_refl _)
  rw [show (-((1 : Nat) : Int)) = -1 from rfl] at this
  rw [this]; simp
end

section
variable {prog : Program} {w : World} {A : Around} {E : Value → Shared → Prop} {s : Shared} {h₀ : Heap} {L D b : Addr} {m : Str → Option Value} {rest : List (Addr × Obj)} {vs us : List Value} {n n2 : Nat} {Q : Value → Shared → Prop}
theorem extend_gen (F : Fr h₀ L s.heap m) (N : News h₀ L s.heap ((D, listOf vs.toArray n) :: rest)) (hs : ∀ q ∈ rest, q.1 ≠ D) (hb : (b, listOf us.toArray n2) ∈ rest) (hl : vs.length + us.length ≤ 2 ^ 20)
    (h : ∀ h' n', Fr h₀ L h' m → News h₀ L h' ((D, listOf (vs ++ us).toArray n') :: rest) → Q .none { s with heap := h' }) : wpAny (model prog w) A (call (.builtin "list.extend") [.ref D, .ref b]) Q E s := by
  have hd : ¬(!vs.toArray.isEmpty && Builtin.List.listTooLong (vs.toArray.size + us.toArray.size)) = true := by
    simp only [Bool.and_eq_true, not_and, Builtin.List.listTooLong, sizeLine, List.size_toArray, decide_eq_true_eq]
    intro _; omega
  by_cases hu : us = []
  · subst hu
    refine kxn_extend (its := vs.toArray) (its2 := ([] : List Value).toArray) F N (.tail _ hb) rfl (Upd.head hs) hd (by simp [sizeLine]; omega) (by simp [sizeLine]; omega) fun h' F' N' => ?_
    exact h h' n F' (by rw [List.append_nil]; exact N')
  · refine kl_extend (its := vs.toArray) (its2 := us.toArray) (l := vs ++ us) F N (.tail _ hb) (by simp) (by simp [hu]) (Upd.head hs) hd (by simp [sizeLine]; omega) (by simp [sizeLine]; omega) fun h' F' N' => ?_
    exact h h' (n + 1) F' N'
end
def Cmp (prog : Program) (w : World) (g : Heap) (S : Value → Prop) (lt : Value → Value → Bool) : Prop :=
  ∀ x y, S x → S y → ∀ (A : Around) (s : Shared) (Q : Value → Shared → Prop) (E : Value → Shared → Prop), A.units + 8 < cLine → (∀ b o, g.get? b = some o → s.heap.get? b = some o) →
    (∀ tk, Q (.bool (lt x y)) { s with toks := tk }) → wpAny (model prog w) A (compareOp .Lt x y) Q E s

/-- the moves of _siftdown -/
def sd (lt : Value → Value → Bool) (start : Nat) (x : Value) (pos : Nat) (vs : List Value) : List Value :=
  if h : start < pos then
    if lt x (vs.getD ((pos - 1) / 2) .none) then sd lt start x ((pos - 1) / 2) (vs.set pos (vs.getD ((pos - 1) / 2) .none)) else vs.set pos x
  else vs.set pos x
termination_by pos
decreasing_by omega

theorem kst_self {m : Str → Option Value} {ps : List (Str × Value)} (h : ∀ p ∈ ps, m p.1 = some p.2) : m = kstB m ps := funext fun _ => (kstB_eq h fun _ => rfl).symm
theorem shr_half {prog : Program} {w : World} {A : Around} {E : Value → Shared → Prop} {s : Shared} {Q : Value → Shared → Prop} {p : Nat} {t u : Tok} (hp : 0 < p) (h : Q (.int (((p - 1) / 2 : Nat) : Int) s.toks) { s with toks := s.toks + 1 }) :
    wpAny (model prog w) A (binaryOp .RShift (.int ((p : Int) - 1) t) (.int 1 u)) Q E s := by
  refine rshift_int (by decide) ?_
  have e : ((p : Int) - 1).fdiv (2 ^ Int.toNat 1) = (((p - 1) / 2 : Nat) : Int) := by
    have h2 : ((2 : Int) ^ Int.toNat 1) = 2 := by decide
    rw [h2, Int.fdiv_eq_ediv_of_nonneg _ (by decide)]
    omega
  rw [e]; exact h
theorem toNat_oa (k : Nat) : (1 + ((k : Nat) : Int)).toNat = 1 + k := by omega
theorem toNat_oas (k : Nat) : (1 + ((k : Nat) : Int) - 1).toNat = 1 + k - 1 := by omega
theorem toNat_succ (k : Nat) : (((k : Nat) : Int) + 1).toNat = k + 1 := by omega
theorem getD_mem {vs : List Value} {k : Nat} (h : k < vs.length) : vs.getD k .none ∈ vs := by
  simp [List.getD, List.getElem?_eq_getElem h]
theorem all_set {S : Value → Prop} {vs : List Value} {k : Nat} {x : Value} (h : ∀ v ∈ vs, S v) (hx : S x) : ∀ v ∈ vs.set k x, S v := fun v hv => by
  rcases List.mem_or_eq_of_mem_set hv with h1 | h1
  · exact h v h1
  · exact h1 ▸ hx
theorem Cmp.mono {prog : Program} {w : World} {g g' : Heap} {S : Value → Prop} {lt : Value → Value → Bool} (h : Cmp prog w g S lt) (hs : g.StaysIn g') : Cmp prog w g' S lt :=
  fun x y hx hy A s Q E hu hk hq => h x y hx hy A s Q E hu (fun b o e => hk b o (hs b o e)) hq

/-- the way down of _siftup: the place where it ends, the row then -/
def su (lt : Value → Value → Bool) (pos : Nat) (vs : List Value) : Nat × List Value :=
  if h : 2 * pos + 1 < vs.length then
    if hr : 2 * pos + 1 + 1 < vs.length ∧ lt (vs.getD (2 * pos + 1) .none) (vs.getD (2 * pos + 1 + 1) .none) = false then
      su lt (2 * pos + 1 + 1) (vs.set pos (vs.getD (2 * pos + 1 + 1) .none))
    else su lt (2 * pos + 1) (vs.set pos (vs.getD (2 * pos + 1) .none))
  else (pos, vs)
termination_by vs.length - pos
decreasing_by all_goals (simp only [List.length_set]; omega)

def sup (lt : Value → Value → Bool) (pos : Nat) (vs : List Value) : List Value :=
  sd lt pos (vs.getD pos .none) (su lt pos vs).1 ((su lt pos vs).2.set (su lt pos vs).1 (vs.getD pos .none))


theorem half_int {prog : Program} {w : World} {A : Around} {E : Value → Shared → Prop} {s : Shared} {Q : Value → Shared → Prop} {p q : Nat} {t u : Tok} (h : Q (.int (((p + q) / 2 : Nat) : Int) s.toks) { s with toks := s.toks + 1 }) :
    wpAny (model prog w) A (binaryOp .FloorDiv (.int ((p : Int) + (q : Int)) t) (.int 2 u)) Q E s := by
  refine floordiv_int (by decide) ?_
  have e : ((p : Int) + (q : Int)).fdiv 2 = (((p + q) / 2 : Nat) : Int) := by
    rw [Int.fdiv_eq_ediv_of_nonneg _ (by decide)]
    omega
  rw [e]; exact h
/-- the place that bisect_right finds -/
def bisR (lt : Value → Value → Bool) (x : Value) (vs : List Value) (lo hi : Nat) : Nat :=
  if h : lo < hi then
    if lt x (vs.getD ((lo + hi) / 2) .none) then bisR lt x vs lo ((lo + hi) / 2) else bisR lt x vs ((lo + hi) / 2 + 1) hi
  else lo
termination_by hi - lo
decreasing_by all_goals omega
/-- the place that bisect_left finds -/
def bisL (lt : Value → Value → Bool) (x : Value) (vs : List Value) (lo hi : Nat) : Nat :=
  if h : lo < hi then
    if lt (vs.getD ((lo + hi) / 2) .none) x then bisL lt x vs ((lo + hi) / 2 + 1) hi else bisL lt x vs lo ((lo + hi) / 2)
  else lo
termination_by hi - lo
decreasing_by all_goals omega

theorem bisL_le {lt : Value → Value → Bool} {x : Value} {vs : List Value} : ∀ {lo hi : Nat}, lo ≤ hi → bisL lt x vs lo hi ≤ hi := by
  intro lo hi
  induction hd : hi - lo using Nat.strongRecOn generalizing lo hi with
  | _ n ih =>
    intro h
    rw [bisL]
    split
    · split
      · exact ih _ (by omega) rfl (by omega)
      · have := ih _ (by omega) (lo := lo) (hi := (lo + hi) / 2) rfl (by omega); omega
    · exact h
theorem bisR_le {lt : Value → Value → Bool} {x : Value} {vs : List Value} : ∀ {lo hi : Nat}, lo ≤ hi → bisR lt x vs lo hi ≤ hi := by
  intro lo hi
  induction hd : hi - lo using Nat.strongRecOn generalizing lo hi with
  | _ n ih =>
    intro h
    rw [bisR]
    split
    · split
      · have := ih _ (by omega) (lo := lo) (hi := (lo + hi) / 2) rfl (by omega); omega
      · exact ih _ (by omega) rfl (by omega)
    · exact h
def insAt (vs : List Value) (k : Nat) (x : Value) : List Value := vs.take k ++ x :: vs.drop k
theorem insAt_length {vs : List Value} {k : Nat} {x : Value} (h : k ≤ vs.length) : (insAt vs k x).length = vs.length + 1 := by
  simp [insAt]; omega
theorem insAt_mem {vs : List Value} {k : Nat} {x : Value} {v : Value} (h : v ∈ insAt vs k x) : v = x ∨ v ∈ vs := by
  simp [insAt] at h
  rcases h with h | h | h
  · exact .inr (List.mem_of_mem_take h)
  · exact .inl h
  · exact .inr (List.mem_of_mem_drop h)
def insL (lt : Value → Value → Bool) (vs : List Value) (x : Value) : List Value := insAt vs (bisL lt x vs 0 vs.length) x
def insR (lt : Value → Value → Bool) (vs : List Value) (x : Value) : List Value := insAt vs (bisR lt x vs 0 vs.length) x

theorem wp_cut {α : Type} {M : Model} {A : Around} {t : Sem α} {Q : α → Shared → Prop} {E : Value → Shared → Prop} {s : Shared} (P : α → Shared → Prop) (h : wpAny M A t P E s) (k : ∀ a s', P a s' → Q a s') : wpAny M A t Q E s := wpAny_mono h k fun _ _ x => x
theorem news_more {h₀ h : Heap} {L : Addr} {var kept own : List (Addr × Obj)} (N : News h₀ L h (var ++ own)) (hk : ∀ p ∈ kept, p ∈ own) : News h₀ L h (var ++ (kept ++ own)) := fun p hp => N p (by
  simp only [List.mem_append] at hp ⊢
  rcases hp with h1 | h1 | h1
  · exact .inl h1
  · exact .inr (hk p h1)
  · exact .inr h1)
/-- ints among the values -/
def ival : Value → Int
  | .int i _ => i
  | _ => 0
def IsInt (v : Value) : Prop := ∃ i t, v = .int i t
def ltI (x y : Value) : Bool := decide (ival x < ival y)
theorem cmp_ints (prog : Program) (w : World) (g : Heap) : Cmp prog w g IsInt ltI := by
  rintro x y ⟨i, t, rfl⟩ ⟨j, u, rfl⟩ A s Q E _ _ hq
  exact lt_int (hq s.toks)
theorem isInt_of {vs : List Value} {ns : List Int} (h : IntsAre vs ns) : ∀ v ∈ vs, IsInt v := by
  induction h with
  | nil => intro v hv; cases hv
  | cons i t _ ih =>
    intro v hv
    rcases List.mem_cons.mp hv with rfl | hv
    · exact ⟨i, t, rfl⟩
    · exact ih v hv
theorem ival_of {vs : List Value} {ns : List Int} (h : IntsAre vs ns) : vs.map ival = ns := by
  induction h with
  | nil => rfl
  | cons i t _ ih => rw [List.map_cons, ih]; rfl
theorem intsAre_of {vs : List Value} (h : ∀ v ∈ vs, IsInt v) : IntsAre vs (vs.map ival) := by
  induction vs with
  | nil => exact .nil
  | cons x r ih =>
    obtain ⟨i, t, rfl⟩ := h _ (.head _)
    exact .cons i t (ih fun v hv => h v (.tail _ hv))

def IsNext (f : Flow) : Prop := f = .next
theorem fr_kst {h₀ h : Heap} {L : Addr} {m : Str → Option Value} {ps : List (Str × Value)} (F : Fr h₀ L h m) (hp : ∀ p ∈ ps, m p.1 = some p.2) : Fr h₀ L h (kstB m ps) := by
  rw [← kst_self hp]; exact F

theorem cell_cast {o : Obj} {x : Int} {t : Tok} (h : o.data = .cell (some (.int x t))) (hx : 0 ≤ x) : o.data = .cell (some (.int (x.toNat : Int) t)) := by
  rw [Int.toNat_of_nonneg hx]; exact h

theorem at_law {K : Frag} {p : Program} {loose : List Str} {mean : ExcName → Option Value} {mg mb : Str → Option Value} {h₀ : Heap} {L : Addr} (B : Below callerA h₀ [] h₀) (X : K.In h₀) (T : Top p loose mean mg mb h₀) (env : Env)
    (hf : env.frame = some L) (hk : env.scope.kind = .function) : At K p loose mean mg mb (callerA.deeper env) h₀ L 20 :=
  ⟨⟨callerA, h₀, [], env, B, rfl, hf, hk⟩, X, T, by show callerA.depth + 1 + 20 < _; decide, by show callerA.units + 3 + 16 * 20 + 16 < _; decide, rfl⟩

def hpush (lt : Value → Value → Bool) (vs : List Value) (x : Value) : List Value := sd lt 0 x vs.length (vs ++ [x])
/-- heappop of a row that is not empty: ws and a last one y -/
def hpop (lt : Value → Value → Bool) (ws : List Value) (y : Value) : Value × List Value := if ws = [] then (y, []) else (ws.getD 0 .none, sup lt 0 (ws.set 0 y))
def hppop (lt : Value → Value → Bool) (vs : List Value) (x : Value) : Value × List Value := if vs ≠ [] ∧ lt (vs.getD 0 .none) x = true then (vs.getD 0 .none, sup lt 0 (vs.set 0 x)) else (x, vs)

theorem drop_mid2 {h₀ h : Heap} {L : Addr} {a b c d : Addr × Obj} {own : List (Addr × Obj)} (N : News h₀ L h (a :: b :: c :: d :: own)) : News h₀ L h ([a, b] ++ own) := fun p hp => N p (by
  simp only [List.cons_append, List.nil_append, List.mem_cons] at hp ⊢
  rcases hp with h | h | h <;> simp [h])
theorem drop_mid1 {h₀ h : Heap} {L : Addr} {a b c : Addr × Obj} {own : List (Addr × Obj)} (N : News h₀ L h (a :: b :: c :: own)) : News h₀ L h ([a, b] ++ own) := fun p hp => N p (by
  simp only [List.cons_append, List.nil_append, List.mem_cons] at hp ⊢
  rcases hp with h | h | h <;> simp [h])

theorem law_units (env : Env) : (callerA.deeper env).units + 64 < cLine := by show callerA.units + 3 + 64 < _; decide
theorem drop_hd {h₀ h : Heap} {L : Addr} {a : Addr × Obj} {own : List (Addr × Obj)} (N : News h₀ L h (a :: own)) : News h₀ L h own := fun p hp => N p (.tail _ hp)

theorem drop_mid3 {h₀ h : Heap} {L : Addr} {a b c d : Addr × Obj} {own : List (Addr × Obj)} (N : News h₀ L h ([a] ++ b :: c :: d :: own)) : News h₀ L h ([a] ++ own) := fun p hp => N p (by
  simp only [List.cons_append, List.nil_append, List.mem_cons] at hp ⊢
  rcases hp with h | h <;> simp [h])

theorem rep_flat {α : Type} (v : α) : ∀ k : Nat, (List.replicate k [v]).flatten = List.replicate k v
  | 0 => rfl
  | k + 1 => by rw [List.replicate_succ, List.flatten_cons, rep_flat v k]; rfl
theorem ints_append {vs us : List Value} {ns ms : List Int} (h : IntsAre vs ns) (h' : IntsAre us ms) : IntsAre (vs ++ us) (ns ++ ms) := by
  induction h with
  | nil => exact h'
  | cons i t _ ih => exact .cons i t ih
/-- a turn's end, in a loop whose things are var' (they turn) and own (they stay) -/
def LoopEnd (h₀ : Heap) (L : Addr) (s : Shared) (own : List (Addr × Obj)) (Jn : (Str → Option Value) → List (Addr × Obj) → Prop) (Q : Flow → Shared → Prop) (f : Flow) (s' : Shared) : Prop :=
  match f with
  | .ret v => Q (.ret v) s'
  | .brk => Q .next s'
  | _ => ∃ h' tk m' var', s' = { s with heap := h', toks := tk } ∧ Fr h₀ L h' m' ∧ News h₀ L h' (var' ++ own) ∧ (∀ p ∈ own, ∀ q ∈ var', p.1 ≠ q.1) ∧ Jn m' var'
section
variable {prog : Program} {w : World} {A : Around} {E : Value → Shared → Prop} {s s₂ : Shared} {env : Env} {h₀ : Heap} {x : Str} {body : List Stmt} {Q : Flow → Shared → Prop} {m : Str → Option Value} {kept news : List (Addr × Obj)}
theorem loop_walks {I : Addr} {fp wr : List Addr} {n : Nat} {P : Nat → Value → Prop} {St : Nat → Heap → Prop} (W : Walks prog w A I fp wr n P St) (hLf : env.locals ∉ fp) (hwr : ∀ b ∈ wr, h₀.get? b = none) (hst : St 0 s₂.heap)
    (hlive : ∀ i h, St i h → ∀ b ∈ fp, ∃ o, h.get? b = some o) (F : Fr h₀ env.locals s₂.heap m) (N : News h₀ env.locals s₂.heap (news ++ kept)) (hsep : ∀ p ∈ kept, ∀ q ∈ news, p.1 ≠ q.1) (hnf : ∀ q ∈ news, q.1 ∉ fp) (hkw : ∀ p ∈ kept, p.1 ∉ wr)
    (J : Nat → (Str → Option Value) → List (Addr × Obj) → Prop) (hJ : J 0 m news)
    (turn : ∀ i v m₁ var h tk own, i < n → P i v → J i m₁ var → (∀ p ∈ kept, p ∈ own) → (∀ p ∈ own, ∀ q ∈ var, p.1 ≠ q.1) → Fr h₀ env.locals h (fun y => if y = x then some v else m₁ y) → News h₀ env.locals h (var ++ own) →
      wpAny (model prog w) A (execs body env) (LoopEnd h₀ env.locals s₂ own (J (i + 1)) Q) E { s₂ with heap := h, toks := tk })
    (done : ∀ m₁ var h tk, J n m₁ var → (∀ p ∈ kept, ∀ q ∈ var, p.1 ≠ q.1) → Fr h₀ env.locals h m₁ → News h₀ env.locals h (var ++ kept) → Q .next { s₂ with heap := h, toks := tk }) :
    LoopAtV prog w A h₀ env x body Q E (.ref I) s₂ := by
  refine ⟨I, fp, wr, n, P, St, m, news ++ kept, fun i m₁ ns => ∃ var, ns = var ++ kept ∧ J i m₁ var ∧ (∀ q ∈ var, q.1 ∉ fp) ∧ (∀ p ∈ kept, ∀ q ∈ var, p.1 ≠ q.1), rfl, W, hLf, hwr, ?_, hst, F, N, ⟨news, rfl, hJ, hnf, hsep⟩, ?_, ?_⟩
  · intro p hp
    rcases List.mem_append.mp hp with hp | hp
    · exact fun hb => hnf p hp (W.sub _ hb)
    · exact hkw p hp
  · rintro i v m₁ ns s₁ own ⟨h, tk, rfl⟩ hi hP ⟨var, rfl, hJ₁, hvf, hkv⟩ hnw hown hownh hmem hSt F₁ N₁
    refine wpAny_mono (turn i v m₁ var h tk (own ++ kept) hi hP hJ₁ (fun p hp => List.mem_append_right _ hp) (fun p hp q hq => ?_) F₁ (fun p hp => N₁ p ?_)) (fun f s' hf => ?_) fun _ _ e => e
    · rcases List.mem_append.mp hp with hp | hp
      · exact fun e => hvf q hq (e ▸ hown p hp)
      · exact hkv p hp q hq
    · rcases List.mem_append.mp hp with hp | hp
      · exact List.mem_append_right _ (List.mem_append_left _ hp)
      · rcases List.mem_append.mp hp with hp | hp
        · exact List.mem_append_left _ hp
        · exact List.mem_append_right _ (List.mem_append_right _ hp)
    · have fin : (∃ h' tk' m' var', s' = { s₂ with heap := h', toks := tk' } ∧ Fr h₀ env.locals h' m' ∧ News h₀ env.locals h' (var' ++ (own ++ kept)) ∧ (∀ p ∈ own ++ kept, ∀ q ∈ var', p.1 ≠ q.1) ∧ J (i + 1) m' var') →
          LoopStepU h₀ env.locals wr own (fun m₁ ns => ∃ var, ns = var ++ kept ∧ J (i + 1) m₁ var ∧ (∀ q ∈ var, q.1 ∉ fp) ∧ (∀ p ∈ kept, ∀ q ∈ var, p.1 ≠ q.1)) { s₂ with heap := h, toks := tk } .next s' := by
        rintro ⟨h', tk', m', var', rfl, F', N', hs', hJ'⟩
        have hvf' : ∀ q ∈ var', q.1 ∉ fp := fun q hq hb => by
          obtain ⟨o, ho⟩ := hlive _ _ hSt q.1 hb
          exact hs' _ (List.mem_append_left _ (hmem _ hb (N' q (List.mem_append_left _ hq)).2.2 o ho)) q hq rfl
        refine ⟨rfl, h', tk', m', var' ++ kept, rfl, F', fun p hp => N' p ?_, fun p hp => ?_, var', rfl, hJ', hvf', fun p hp q hq => hs' p (List.mem_append_right _ hp) q hq⟩
        · rcases List.mem_append.mp hp with hp | hp
          · exact List.mem_append_right _ (List.mem_append_left _ hp)
          · rcases List.mem_append.mp hp with hp | hp
            · exact List.mem_append_left _ hp
            · exact List.mem_append_right _ (List.mem_append_right _ hp)
        · rcases List.mem_append.mp hp with hp | hp
          · exact fun hb => hvf' p hp (W.sub _ hb)
          · exact hkw p hp
      cases f with
      | ret v => exact .ret hf
      | brk => exact .brk hf
      | next => exact .next (fin hf)
      | cont => exact .cont (fin hf)
  · rintro h' tk m' ns F' N' hw ⟨var, rfl, hJ', hvf, hkv⟩
    exact done m' var h' tk hJ' hkv F' N'

theorem iter_list {l : Addr} {vs : List Value} (hh : A.handled = none) (hl : s.heap.IsList l vs.toArray) (hlL : l ≠ env.locals) (F : Fr h₀ env.locals s.heap m) (N : News h₀ env.locals s.heap (news ++ kept)) (hsep : ∀ p ∈ kept, ∀ q ∈ news, p.1 ≠ q.1) (hnl : ∀ q ∈ news, q.1 ≠ l)
    (J : Nat → (Str → Option Value) → List (Addr × Obj) → Prop) (hJ : J 0 m news)
    (turn : ∀ i v m₁ var h tk own, vs[i]? = some v → J i m₁ var → (∀ p ∈ kept, p ∈ own) → (∀ p ∈ own, ∀ q ∈ var, p.1 ≠ q.1) → Fr h₀ env.locals h (fun y => if y = x then some v else m₁ y) → News h₀ env.locals h (var ++ own) →
      wpAny (model prog w) A (execs body env) (LoopEnd h₀ env.locals s own (J (i + 1)) Q) E { s with heap := h, toks := tk })
    (done : ∀ m₁ var h tk, J vs.length m₁ var → (∀ p ∈ kept, ∀ q ∈ var, p.1 ≠ q.1) → Fr h₀ env.locals h m₁ → News h₀ env.locals h (var ++ kept) → Q .next { s with heap := h, toks := tk }) :
    wpAny (model prog w) A (pyIter (.ref l)) (fun it s₂ => LoopAtV prog w A h₀ env x body Q E it s₂) E s := by
  obtain ⟨ol, hol, hol2⟩ := id hl
  have hne : l ≠ s.heap.objs.size := Nat.ne_of_lt (Heap.lt_size hol)
  refine wpAny_pyIter_list hl ?_
  have W := Walks.list (prog := prog) (w := w) hh s.heap.objs.size l hne vs.toArray
  refine loop_walks (kept := kept) (news := news) (m := m) W ?_ ?_ ⟨⟨_, Heap.get?_push_size _ rfl, rfl, rfl⟩, hl.at fun o e => Heap.get?_push_of_some _ e⟩ ?_ (F.push _) (fun p hp => ⟨Heap.get?_push_of_some _ (N p hp).1, (N p hp).2⟩) hsep ?_ ?_ J hJ ?_ ?_
  · intro hm
    rcases List.mem_cons.mp hm with e | hm
    · exact absurd F.ns.lt (e ▸ Nat.lt_irrefl _)
    · exact hlL (List.mem_singleton.mp hm).symm
  · intro b hb
    rw [List.mem_singleton.mp hb]
    exact next_is_new F
  · rintro i h ⟨⟨o, ho, _⟩, o', ho', _⟩ b hb
    rcases List.mem_cons.mp hb with rfl | hb
    · exact ⟨o, ho⟩
    · exact (List.mem_singleton.mp hb) ▸ ⟨o', ho'⟩
  · intro q hq hb
    rcases List.mem_cons.mp hb with e | hb
    · exact absurd (Heap.lt_size (N q (List.mem_append_left _ hq)).1) (e ▸ Nat.lt_irrefl _)
    · exact hnl q hq (List.mem_singleton.mp hb)
  · intro p hp hb
    exact absurd (Heap.lt_size (N p (List.mem_append_right _ hp)).1) ((List.mem_singleton.mp hb) ▸ Nat.lt_irrefl _)
  · intro i v m₁ var h tk own hi hP hJ' h1 h2 F' N'
    exact turn i v m₁ var h tk own (by simpa using hP) hJ' h1 h2 F' N'
  · intro m₁ var h tk hJ' h1 F' N'
    exact done m₁ var h tk (by simpa using hJ') h1 F' N'

theorem iter_range {r : Addr} {a b c : Int} {t u v : Tok} {n : Nat} (hh : A.handled = none) (hr : IsRange s.heap r a b c t u v) (hsmall : Builtin.Range.small a b c = true) (hn : Builtin.Range.rangeSize a b c = n)
    (F : Fr h₀ env.locals s.heap m) (N : News h₀ env.locals s.heap (news ++ kept)) (hsep : ∀ p ∈ kept, ∀ q ∈ news, p.1 ≠ q.1)
    (J : Nat → (Str → Option Value) → List (Addr × Obj) → Prop) (hJ : J 0 m news)
    (turn : ∀ i t m₁ var h tk own, i < n → J i m₁ var → (∀ p ∈ kept, p ∈ own) → (∀ p ∈ own, ∀ q ∈ var, p.1 ≠ q.1) → Fr h₀ env.locals h (fun y => if y = x then some (.int (a + (i : Int) * c) t) else m₁ y) → News h₀ env.locals h (var ++ own) →
      wpAny (model prog w) A (execs body env) (LoopEnd h₀ env.locals s own (J (i + 1)) Q) E { s with heap := h, toks := tk })
    (done : ∀ m₁ var h tk, J n m₁ var → (∀ p ∈ kept, ∀ q ∈ var, p.1 ≠ q.1) → Fr h₀ env.locals h m₁ → News h₀ env.locals h (var ++ kept) → Q .next { s with heap := h, toks := tk }) :
    wpAny (model prog w) A (pyIter (.ref r)) (fun it s₂ => LoopAtV prog w A h₀ env x body Q E it s₂) E s := by
  refine wpAny_pyIter_range hr hsmall ?_
  have W := Walks.range (prog := prog) (w := w) hh s.heap.objs.size a c n
  refine loop_walks (kept := kept) (news := news) (m := m) W ?_ ?_ ?_ ?_ (F.push _) (fun p hp => ⟨Heap.get?_push_of_some _ (N p hp).1, (N p hp).2⟩) hsep ?_ ?_ J hJ ?_ ?_
  · intro hm
    exact absurd F.ns.lt ((List.mem_singleton.mp hm) ▸ Nat.lt_irrefl _)
  · intro b hb
    rw [List.mem_singleton.mp hb]
    exact next_is_new F
  · have e : a + ((0 : Nat) : Int) * c = a := by simp
    have e2 : (n : Int) - ((0 : Nat) : Int) = n := by simp
    show IsRangeIter (s.heap.push _) s.heap.objs.size (a + ((0 : Nat) : Int) * c) ((n : Int) - ((0 : Nat) : Int)) c
    rw [e, e2, ← hn]
    exact Heap.get?_push_size _ rfl
  · intro i h hst b hb
    exact (List.mem_singleton.mp hb) ▸ ⟨_, hst⟩
  · intro q hq hb
    exact absurd (Heap.lt_size (N q (List.mem_append_left _ hq)).1) ((List.mem_singleton.mp hb) ▸ Nat.lt_irrefl _)
  · intro p hp hb
    exact absurd (Heap.lt_size (N p (List.mem_append_right _ hp)).1) ((List.mem_singleton.mp hb) ▸ Nat.lt_irrefl _)
  · rintro i v m₁ var h tk own hi ⟨t', rfl⟩ hJ' h1 h2 F' N'
    exact turn i t' m₁ var h tk own hi hJ' h1 h2 F' N'
  · intro m₁ var h tk hJ' h1 F' N'
    exact done m₁ var h tk hJ' h1 F' N'

theorem iter_range_up {r : Addr} {a b : Int} {t u v : Tok} (n : Nat) (hh : A.handled = none) (hr : IsRange s.heap r a b 1 t u v) (ha : -1000000 ≤ a) (ha' : a < 1000000) (hb : -1000000 ≤ b) (hb' : b < 1000000) (hn : n = (b - a).toNat)
    (F : Fr h₀ env.locals s.heap m) (N : News h₀ env.locals s.heap (news ++ kept)) (hsep : ∀ p ∈ kept, ∀ q ∈ news, p.1 ≠ q.1)
    (J : Nat → (Str → Option Value) → List (Addr × Obj) → Prop) (hJ : J 0 m news)
    (turn : ∀ i t m₁ var h tk own, i < n → J i m₁ var → (∀ p ∈ kept, p ∈ own) → (∀ p ∈ own, ∀ q ∈ var, p.1 ≠ q.1) → Fr h₀ env.locals h (fun y => if y = x then some (.int (a + (i : Int)) t) else m₁ y) → News h₀ env.locals h (var ++ own) →
      wpAny (model prog w) A (execs body env) (LoopEnd h₀ env.locals s own (J (i + 1)) Q) E { s with heap := h, toks := tk })
    (done : ∀ m₁ var h tk, J n m₁ var → (∀ p ∈ kept, ∀ q ∈ var, p.1 ≠ q.1) → Fr h₀ env.locals h m₁ → News h₀ env.locals h (var ++ kept) → Q .next { s with heap := h, toks := tk }) :
    wpAny (model prog w) A (pyIter (.ref r)) (fun it s₂ => LoopAtV prog w A h₀ env x body Q E it s₂) E s := by
  refine iter_range (n := n) hh hr (small_one (by omega) (by omega) (by omega) (by omega)) (by rw [hn]; exact rangeSize_nat a b) F N hsep J hJ ?_ done
  intro i t m₁ var h tk own hi hj h1 h2 F' N'
  rw [Int.mul_one] at F'
  exact turn i t m₁ var h tk own hi hj h1 h2 F' N'
theorem iter_range_down {r : Addr} {a b : Int} {t u v : Tok} (n : Nat) (hh : A.handled = none) (hr : IsRange s.heap r a b (-1) t u v) (ha : -1000000 ≤ a) (ha' : a < 1000000) (hb : -1000000 ≤ b) (hb' : b < 1000000) (hn : n = (a - b).toNat)
    (F : Fr h₀ env.locals s.heap m) (N : News h₀ env.locals s.heap (news ++ kept)) (hsep : ∀ p ∈ kept, ∀ q ∈ news, p.1 ≠ q.1)
    (J : Nat → (Str → Option Value) → List (Addr × Obj) → Prop) (hJ : J 0 m news)
    (turn : ∀ i t m₁ var h tk own, i < n → J i m₁ var → (∀ p ∈ kept, p ∈ own) → (∀ p ∈ own, ∀ q ∈ var, p.1 ≠ q.1) → Fr h₀ env.locals h (fun y => if y = x then some (.int (a - (i : Int)) t) else m₁ y) → News h₀ env.locals h (var ++ own) →
      wpAny (model prog w) A (execs body env) (LoopEnd h₀ env.locals s own (J (i + 1)) Q) E { s with heap := h, toks := tk })
    (done : ∀ m₁ var h tk, J n m₁ var → (∀ p ∈ kept, ∀ q ∈ var, p.1 ≠ q.1) → Fr h₀ env.locals h m₁ → News h₀ env.locals h (var ++ kept) → Q .next { s with heap := h, toks := tk }) :
    wpAny (model prog w) A (pyIter (.ref r)) (fun it s₂ => LoopAtV prog w A h₀ env x body Q E it s₂) E s := by
  refine iter_range (n := n) hh hr (small_down (by omega) (by omega) (by omega) (by omega)) (by rw [hn]; exact rangeSize_downNat a b) F N hsep J hJ ?_ done
  intro i t m₁ var h tk own hi hj h1 h2 F' N'
  have e : a + (i : Int) * (-1) = a - i := by omega
  rw [e] at F'
  exact turn i t m₁ var h tk own hi hj h1 h2 F' N'
end

section
variable {prog : Program} {w : World} {A : Around} {h₀ : Heap} {L : Addr} {m : Str → Option Value} {env : Env} {elt : Expr} {x : Str} {scope : Scope} {cl : List (Str × Addr)} {s : Shared} {S : List (Addr × Obj) → Prop} {P : Nat → Value → Prop} {Fin : List Value → List (Addr × Obj) → Prop}
theorem comp_rest {n : Nat} {news₀ : List (Addr × Obj)} (J : Nat → List Value → List (Addr × Obj) → Prop) (hJ : J 0 [] news₀)
    (turn : ∀ i v I oI C oC D m₂ ys news h tk (E' : Value → Shared → Prop), i < n → P i v → J i ys news → LCg.NsObj oC m₂ → m₂ x = some v → Fr h₀ L h m → News h₀ L h ((I, oI) :: (C, oC) :: (D, LCg.lst ys) :: news) → LCg.Off3 I C D news → ((@Ne Nat I C) ∧ (@Ne Nat I D) ∧ (@Ne Nat C D)) →
      wpAny (model prog w) A (eval elt (compEnvC scope cl C env)) (LCg.CompEnd h₀ L m { s with heap := h, toks := tk } I oI C oC D (LCg.lst ys) S (fun y news' => J (i + 1) (ys ++ [y]) news')) E' { s with heap := h, toks := tk })
    (fin : ∀ ys news, J n ys news → Fin ys news) : LCg.CompRest prog w A h₀ L m env elt x scope cl s S P Fin n 0 [] news₀ := by
  have key : ∀ (j i : Nat) (ys : List Value) (news : List (Addr × Obj)), i + j = n → J i ys news → LCg.CompRest prog w A h₀ L m env elt x scope cl s S P Fin j i ys news := by
    intro j
    induction j with
    | zero =>
      intro i ys news hi hj
      obtain rfl : i = n := by omega
      exact LCg.CompRest.zero (fin ys news hj)
    | succ j ih =>
      intro i ys news hi hj
      refine LCg.CompRest.succ ?_
      intro v I oI C oC D m₂ h tk E' hv hC hx F N off ne
      refine wpAny_mono (turn i v I oI C oC D m₂ ys news h tk E' (by omega) hv hj hC hx F N off ne) (fun y s₂ hq => ?_) fun _ _ e => e
      obtain ⟨h', tk', nw, e, F', N', off', hS, hn⟩ := hq
      exact ⟨h', tk', nw, e, F', N', off', hS, ih (i + 1) _ _ (by omega) hn⟩
  exact key n 0 [] news₀ (by omega) hJ
end
theorem getD_set {vs : List Value} {i j : Nat} {x d : Value} (h : j < vs.length) : (vs.set j x).getD i d = if i = j then x else vs.getD i d := by
  simp only [List.getD, List.getElem?_set]
  by_cases e : i = j
  · subst e; simp [h]
  · have e' : ¬ j = i := fun q => e q.symm
    simp [e, e']
theorem set_swap {vs : List Value} {i j : Nat} {x : Value} (hi : i < vs.length) (hj : j < vs.length) (h : j ≠ i) : ((vs.set i (vs.getD j .none)).set j x).Perm (vs.set i x) := by
  have hp := List.set_set_perm (as := vs.set i x) (i := i) (j := j) (by simpa using hi) (by simpa using hj)
  have e1 : (vs.set i x)[j]'(by simpa using hj) = vs.getD j .none := by
    rw [List.getElem_set_ne (by omega)]; simp [List.getD, hj]
  have e2 : (vs.set i x)[i]'(by simpa using hi) = x := by simp
  rw [e1, e2, List.set_set] at hp
  exact hp
theorem sd_perm {lt : Value → Value → Bool} {start : Nat} {x : Value} : ∀ (pos : Nat) (vs : List Value), pos < vs.length → (sd lt start x pos vs).Perm (vs.set pos x) := by
  intro pos
  induction pos using Nat.strongRecOn with
  | _ pos ih =>
    intro vs h
    rw [sd]
    split
    · split
      · refine (ih _ (by omega) _ (by simp only [List.length_set]; omega)).trans ?_
        exact set_swap h (by omega) (by omega)
      · exact .refl _
    · exact .refl _
theorem su_len {lt : Value → Value → Bool} : ∀ (k pos : Nat) (vs : List Value), vs.length - pos = k → pos < vs.length → (su lt pos vs).2.length = vs.length ∧ (su lt pos vs).1 < vs.length := by
  intro k
  induction k using Nat.strongRecOn with
  | _ k ih =>
    intro pos vs hk h
    rw [su]
    split
    · split
      · have := ih _ (by simp only [List.length_set]; omega) (2 * pos + 1 + 1) (vs.set pos (vs.getD (2 * pos + 1 + 1) .none)) rfl (by simp only [List.length_set]; omega)
        simpa only [List.length_set] using this
      · have := ih _ (by simp only [List.length_set]; omega) (2 * pos + 1) (vs.set pos (vs.getD (2 * pos + 1) .none)) rfl (by simp only [List.length_set]; omega)
        simpa only [List.length_set] using this
    · exact ⟨rfl, h⟩
theorem su_perm {lt : Value → Value → Bool} {x : Value} : ∀ (k pos : Nat) (vs : List Value), vs.length - pos = k → pos < vs.length → ((su lt pos vs).2.set (su lt pos vs).1 x).Perm (vs.set pos x) := by
  intro k
  induction k using Nat.strongRecOn with
  | _ k ih =>
    intro pos vs hk h
    rw [su]
    split
    · split
      · refine (ih _ (by simp only [List.length_set]; omega) (2 * pos + 1 + 1) (vs.set pos (vs.getD (2 * pos + 1 + 1) .none)) rfl (by simp only [List.length_set]; omega)).trans ?_
        exact set_swap h (by omega) (by omega)
      · refine (ih _ (by simp only [List.length_set]; omega) (2 * pos + 1) (vs.set pos (vs.getD (2 * pos + 1) .none)) rfl (by simp only [List.length_set]; omega)).trans ?_
        exact set_swap h (by omega) (by omega)
    · exact .refl _
theorem set_self {vs : List Value} {i : Nat} (h : i < vs.length) : vs.set i (vs.getD i .none) = vs := by
  apply List.ext_getElem?
  intro j
  rw [List.getElem?_set]
  by_cases e : i = j
  · subst e; simp [h, List.getD]
  · simp [e]
theorem sup_perm {lt : Value → Value → Bool} {pos : Nat} {vs : List Value} (h : pos < vs.length) : (sup lt pos vs).Perm vs := by
  obtain ⟨h1, h2⟩ := su_len (lt := lt) _ pos vs rfl h
  refine (sd_perm _ _ (by simp only [List.length_set]; omega)).trans ?_
  rw [List.set_set]
  refine (su_perm _ pos vs rfl h).trans ?_
  rw [set_self h]
theorem hpush_perm {lt : Value → Value → Bool} {vs : List Value} {x : Value} : (hpush lt vs x).Perm (x :: vs) := by
  refine (sd_perm _ _ (by simp)).trans ?_
  have e : (vs ++ [x]).set vs.length x = vs ++ [x] := by
    rw [List.set_append_right _ _ (Nat.le_refl _)]; simp
  rw [e]
  exact List.perm_append_comm
theorem set_perm_cons {vs : List Value} {x : Value} (h : 0 < vs.length) : (vs.getD 0 .none :: vs.set 0 x).Perm (x :: vs) := by
  cases vs with
  | nil => simp at h
  | cons y r => simp only [List.getD_cons_zero, List.set_cons_zero]; exact List.Perm.swap _ _ _
theorem hppop_perm {lt : Value → Value → Bool} {vs : List Value} {x : Value} : ((hppop lt vs x).1 :: (hppop lt vs x).2).Perm (x :: vs) := by
  rw [hppop]
  split
  · rename_i h
    have hl := List.length_pos_iff.mpr h.1
    exact ((sup_perm (by simpa using hl)).cons _).trans (set_perm_cons hl)
  · exact .refl _
theorem hpop_perm {lt : Value → Value → Bool} {ws : List Value} {y : Value} : ((hpop lt ws y).1 :: (hpop lt ws y).2).Perm (ws ++ [y]) := by
  rw [hpop]
  split
  · rename_i h; subst h; exact .refl _
  · rename_i h
    have hl := List.length_pos_iff.mpr h
    exact (((sup_perm (by simpa using hl)).cons _).trans (set_perm_cons hl)).trans (List.perm_append_comm (l₁ := [y]) (l₂ := ws))

/-- an order by «less»: what the laws need -/
structure WO (lt : Value → Value → Bool) : Prop where
  asym : ∀ x y, lt x y = true → lt y x = false
  ntr : ∀ x y z, lt x y = false → lt y z = false → lt x z = false
theorem WO.irr {lt : Value → Value → Bool} (o : WO lt) (x : Value) : lt x x = false := by
  cases h : lt x x with
  | false => rfl
  | true => have := o.asym x x h; rw [h] at this; cases this
theorem wo_int : WO ltI := ⟨fun x y h => by simp only [ltI, decide_eq_true_eq, decide_eq_false_iff_not] at *; omega, fun x y z h1 h2 => by simp only [ltI, decide_eq_false_iff_not] at *; omega⟩

/-- in order, at every place whose parent is s or behind s -/
def HeapAt (lt : Value → Value → Bool) (s : Nat) (vs : List Value) : Prop := ∀ i, 0 < i → i < vs.length → s ≤ (i - 1) / 2 → lt (vs.getD i .none) (vs.getD ((i - 1) / 2) .none) = false
inductive Desc (s : Nat) : Nat → Prop
  | refl : Desc s s
  | left {p : Nat} : Desc s p → Desc s (2 * p + 1)
  | right {p : Nat} : Desc s p → Desc s (2 * p + 1 + 1)
theorem Desc.le {s p : Nat} (h : Desc s p) : s ≤ p := by
  induction h with
  | refl => exact Nat.le_refl _
  | left _ ih => omega
  | right _ ih => omega
theorem Desc.up {s p : Nat} (h : Desc s p) (hn : s < p) : Desc s ((p - 1) / 2) := by
  cases h with
  | refl => omega
  | left h => rename_i p; have e : (2 * p + 1 - 1) / 2 = p := by omega
              rw [e]; exact h
  | right h => rename_i p; have e : (2 * p + 1 + 1 - 1) / 2 = p := by omega
               rw [e]; exact h
theorem desc_zero : ∀ p, Desc 0 p := by
  intro p
  induction p using Nat.strongRecOn with
  | _ p ih =>
    match p, ih with
    | 0, _ => exact .refl
    | p + 1, ih =>
      have h := ih (p / 2) (by omega)
      rcases Nat.mod_two_eq_zero_or_one p with e | e
      · have e2 : p + 1 = 2 * (p / 2) + 1 := by omega
        rw [e2]; exact .left h
      · have e2 : p + 1 = 2 * (p / 2) + 1 + 1 := by omega
        rw [e2]; exact .right h

theorem sd_heap {lt : Value → Value → Bool} (o : WO lt) {s : Nat} {x : Value} : ∀ (p : Nat) (ws : List Value), p < ws.length → Desc s p →
    (∀ i, 0 < i → i < ws.length → s ≤ (i - 1) / 2 → i ≠ p → lt ((ws.set p x).getD i .none) ((ws.set p x).getD ((i - 1) / 2) .none) = false) →
    (s < p → ∀ i, 0 < i → i < ws.length → (i - 1) / 2 = p → lt (ws.getD i .none) (ws.getD ((p - 1) / 2) .none) = false) →
    HeapAt lt s (sd lt s x p ws) := by
  intro p
  induction p using Nat.strongRecOn with
  | _ p ih =>
    intro ws hp hd ha hb
    rw [sd]
    split
    · rename_i hs
      have hup := hd.up hs
      have hupl := hup.le
      split
      · rename_i hlt
        have hpp : (p - 1) / 2 < p := by omega
        refine ih _ hpp _ (by simp only [List.length_set]; omega) hup ?_ ?_
        · intro i h0 hi hsi hne
          rw [List.length_set] at hi
          have e : ∀ k, ((ws.set p (ws.getD ((p - 1) / 2) .none)).set ((p - 1) / 2) x).getD k .none = if k = (p - 1) / 2 then x else if k = p then ws.getD ((p - 1) / 2) .none else ws.getD k .none := fun k => by
            rw [getD_set (by rw [List.length_set]; omega), getD_set hp]
          rw [e, e, if_neg hne]
          by_cases e1 : i = p
          · subst e1
            rw [if_pos rfl, if_pos rfl]
            exact o.asym _ _ hlt
          · rw [if_neg e1]
            have hA := ha i h0 hi hsi e1
            rw [getD_set hp, getD_set hp, if_neg e1] at hA
            by_cases e2 : (i - 1) / 2 = (p - 1) / 2
            · rw [if_pos e2]
              rw [if_neg (by omega), e2] at hA
              exact o.ntr _ _ _ hA (o.asym _ _ hlt)
            · rw [if_neg e2]
              by_cases e3 : (i - 1) / 2 = p
              · rw [if_pos e3]
                exact hb hs i h0 hi e3
              · rw [if_neg e3]
                rw [if_neg e3] at hA
                exact hA
        · intro hs2 i h0 hi hpi
          rw [List.length_set] at hi
          have hup2 := (hup.up hs2).le
          have hA := ha ((p - 1) / 2) (by omega) (by omega) hup2 (by omega)
          rw [getD_set hp, getD_set hp, if_neg (by omega), if_neg (by omega)] at hA
          rw [getD_set hp, getD_set hp]
          rw [if_neg (show ¬ ((p - 1) / 2 - 1) / 2 = p by omega)]
          by_cases e1 : i = p
          · rw [if_pos e1]; exact hA
          · rw [if_neg e1]
            have hB := ha i h0 hi (by omega) e1
            rw [getD_set hp, getD_set hp, if_neg e1, if_neg (by omega), hpi] at hB
            exact o.ntr _ _ _ hB hA
      · rename_i hlt
        intro i h0 hi hsi
        rw [List.length_set] at hi
        by_cases e1 : i = p
        · subst e1
          rw [getD_set hp, getD_set hp, if_pos rfl, if_neg (by omega)]
          simpa using hlt
        · exact ha i h0 hi hsi e1
    · rename_i hs
      intro i h0 hi hsi
      rw [List.length_set] at hi
      refine ha i h0 hi hsi ?_
      have := hd.le
      omega

theorem su_heap {lt : Value → Value → Bool} (o : WO lt) {s : Nat} {x : Value} : ∀ (k p : Nat) (ws : List Value), ws.length - p = k → p < ws.length → Desc s p →
    (∀ i, 0 < i → i < ws.length → s ≤ (i - 1) / 2 → i ≠ p → (i - 1) / 2 ≠ p → lt (ws.getD i .none) (ws.getD ((i - 1) / 2) .none) = false) →
    (s < p → ∀ i, 0 < i → i < ws.length → (i - 1) / 2 = p → lt (ws.getD i .none) (ws.getD ((p - 1) / 2) .none) = false) →
    HeapAt lt s (sd lt s x (su lt p ws).1 ((su lt p ws).2.set (su lt p ws).1 x)) := by
  intro k
  induction k using Nat.strongRecOn with
  | _ k ih =>
    intro p ws hk hp hd ha hb
    have hle := hd.le
    -- one step to the child c
    have step : ∀ c, (c - 1) / 2 = p → 0 < c → p < c → c < ws.length → Desc s c → (∀ i, 0 < i → i < ws.length → (i - 1) / 2 = p → lt (ws.getD i .none) (ws.getD c .none) = false) →
        HeapAt lt s (sd lt s x (su lt c (ws.set p (ws.getD c .none))).1 ((su lt c (ws.set p (ws.getD c .none))).2.set (su lt c (ws.set p (ws.getD c .none))).1 x)) := by
      intro c hc h0c hpc hcl hdc hmin
      refine ih (ws.length - c) (by omega) c _ (by rw [List.length_set]) (by rw [List.length_set]; exact hcl) hdc ?_ ?_
      · intro i h0 hi hsi hne hne2
        rw [List.length_set] at hi
        rw [getD_set hp, getD_set hp]
        by_cases e1 : i = p
        · subst e1
          rw [if_pos rfl, if_neg (by omega)]
          exact hb (by have := hsi; omega) c h0c hcl hc
        · rw [if_neg e1]
          by_cases e2 : (i - 1) / 2 = p
          · rw [if_pos e2]; exact hmin i h0 hi e2
          · rw [if_neg e2]; exact ha i h0 hi hsi e1 e2
      · intro hs i h0 hi hic
        rw [List.length_set] at hi
        rw [getD_set hp, getD_set hp, hc, if_pos rfl, if_neg (by omega)]
        have := ha i h0 hi (by omega) (by omega) (by omega)
        rw [hic] at this
        exact this
    rw [su]
    split
    · rename_i hl
      split
      · rename_i hr
        refine step (2 * p + 1 + 1) (by omega) (by omega) (by omega) hr.1 (.right hd) ?_
        intro i h0 hi hip
        have hi2 : i = 2 * p + 1 ∨ i = 2 * p + 1 + 1 := by omega
        rcases hi2 with rfl | rfl
        · exact hr.2
        · exact o.irr _
      · rename_i hr
        refine step (2 * p + 1) (by omega) (by omega) (by omega) hl (.left hd) ?_
        intro i h0 hi hip
        have hi2 : i = 2 * p + 1 ∨ i = 2 * p + 1 + 1 := by omega
        rcases hi2 with rfl | rfl
        · exact o.irr _
        · cases h : lt (ws.getD (2 * p + 1) .none) (ws.getD (2 * p + 1 + 1) .none) with
          | true => exact o.asym _ _ h
          | false => exact absurd ⟨hi, h⟩ hr
    · rename_i hl
      dsimp only
      refine sd_heap o p _ (by rw [List.length_set]; exact hp) hd ?_ ?_
      · intro i h0 hi hsi hne
        rw [List.length_set] at hi
        rw [List.set_set, getD_set hp, getD_set hp, if_neg hne, if_neg (by omega)]
        exact ha i h0 hi hsi hne (by omega)
      · intro hs i h0 hi hip
        rw [List.length_set] at hi
        omega
theorem sup_heap {lt : Value → Value → Bool} (o : WO lt) {s : Nat} {vs : List Value} (hs : s < vs.length) (h : HeapAt lt (s + 1) vs) : HeapAt lt s (sup lt s vs) := by
  refine su_heap o _ s vs rfl hs .refl ?_ ?_
  · intro i h0 hi hsi hne hne2
    exact h i h0 hi (by omega)
  · intro h; exact absurd h (Nat.lt_irrefl _)
theorem hpush_heap {lt : Value → Value → Bool} (o : WO lt) {vs : List Value} {x : Value} (h : HeapAt lt 0 vs) : HeapAt lt 0 (hpush lt vs x) := by
  refine sd_heap o vs.length _ (by simp) (desc_zero _) ?_ ?_
  · intro i h0 hi _ hne
    simp only [List.length_append, List.length_cons, List.length_nil] at hi
    rw [getD_set (by simp), getD_set (by simp), if_neg hne, if_neg (by omega)]
    have e : ∀ j, j < vs.length → (vs ++ [x]).getD j .none = vs.getD j .none := fun j hj => by simp only [List.getD]; rw [List.getElem?_append_left hj]
    rw [e i (by omega), e _ (by omega)]
    exact h i h0 (by omega) (by omega)
  · intro _ i h0 hi hip
    simp only [List.length_append, List.length_cons, List.length_nil] at hi
    omega
theorem heap_set0 {lt : Value → Value → Bool} {vs : List Value} {x : Value} (h : HeapAt lt 0 vs) : HeapAt lt 1 (vs.set 0 x) := by
  intro i h0 hi hsi
  rw [List.length_set] at hi
  rw [getD_set (by omega), getD_set (by omega), if_neg (by omega), if_neg (by omega)]
  exact h i h0 hi (by omega)
theorem hppop_heap {lt : Value → Value → Bool} (o : WO lt) {vs : List Value} {x : Value} (h : HeapAt lt 0 vs) : HeapAt lt 0 (hppop lt vs x).2 := by
  rw [hppop]
  split
  · rename_i h1
    have hl := List.length_pos_iff.mpr h1.1
    exact sup_heap o (by simpa using hl) (heap_set0 h)
  · exact h
theorem heap_append {lt : Value → Value → Bool} {ws : List Value} {y : Value} (h : HeapAt lt 0 (ws ++ [y])) : HeapAt lt 0 ws := by
  intro i h0 hi _
  have := h i h0 (by simp; omega) (by omega)
  have e : ∀ j, j < ws.length → (ws ++ [y]).getD j .none = ws.getD j .none := fun j hj => by simp only [List.getD]; rw [List.getElem?_append_left hj]
  rw [e i hi, e _ (by omega)] at this
  exact this
theorem hpop_heap {lt : Value → Value → Bool} (o : WO lt) {ws : List Value} {y : Value} (h : HeapAt lt 0 (ws ++ [y])) : HeapAt lt 0 (hpop lt ws y).2 := by
  rw [hpop]
  split
  · intro i _ hi; simp at hi
  · rename_i h1
    have hl := List.length_pos_iff.mpr h1
    exact sup_heap o (by simpa using hl) (heap_set0 (heap_append h))
/-- the top is the least -/
theorem heap_min {lt : Value → Value → Bool} (o : WO lt) {vs : List Value} (h : HeapAt lt 0 vs) : ∀ i, i < vs.length → lt (vs.getD i .none) (vs.getD 0 .none) = false := by
  intro i
  induction i using Nat.strongRecOn with
  | _ i ih =>
    intro hi
    by_cases h0 : i = 0
    · subst h0; exact o.irr _
    · exact o.ntr _ _ _ (h i (by omega) hi (by omega)) (ih _ (by omega) (by omega))
theorem heap_min_mem {lt : Value → Value → Bool} (o : WO lt) {vs : List Value} (h : HeapAt lt 0 vs) {v : Value} (hv : v ∈ vs) : lt v (vs.getD 0 .none) = false := by
  obtain ⟨i, hi, rfl⟩ := List.getElem_of_mem hv
  have := heap_min o h i hi
  simpa [List.getD, hi] using this
theorem hppop_min {lt : Value → Value → Bool} (o : WO lt) {vs : List Value} {x : Value} (h : HeapAt lt 0 vs) : ∀ v ∈ x :: vs, lt v (hppop lt vs x).1 = false := by
  intro v hv
  rw [hppop]
  split
  · rename_i h1
    rcases List.mem_cons.mp hv with rfl | hv
    · exact o.asym _ _ h1.2
    · exact heap_min_mem o h hv
  · rename_i h1
    rcases List.mem_cons.mp hv with rfl | hv
    · exact o.irr _
    · have hne : vs ≠ [] := fun e => by rw [e] at hv; cases hv
      have h2 : lt (vs.getD 0 .none) x = false := by
        cases h3 : lt (vs.getD 0 .none) x with
        | false => rfl
        | true => exact absurd ⟨hne, h3⟩ h1
      exact o.ntr _ _ _ (heap_min_mem o h hv) h2
theorem hpop_min {lt : Value → Value → Bool} (o : WO lt) {ws : List Value} {y : Value} (h : HeapAt lt 0 (ws ++ [y])) : ∀ v ∈ ws ++ [y], lt v (hpop lt ws y).1 = false := by
  intro v hv
  have h2 := heap_min_mem o h hv
  rw [hpop]
  split
  · rename_i h1; subst h1; exact h2
  · rename_i h1
    have hl := List.length_pos_iff.mpr h1
    have e : (ws ++ [y]).getD 0 .none = ws.getD 0 .none := by simp only [List.getD]; rw [List.getElem?_append_left hl]
    rw [e] at h2
    exact h2
theorem bisR_spec {lt : Value → Value → Bool} {x : Value} {vs : List Value} (mono : ∀ i j, i ≤ j → j < vs.length → lt x (vs.getD i .none) = true → lt x (vs.getD j .none) = true) :
    ∀ (lo hi : Nat), lo ≤ hi → hi ≤ vs.length → (∀ i, i < lo → lt x (vs.getD i .none) = false) → (∀ i, hi ≤ i → i < vs.length → lt x (vs.getD i .none) = true) →
      lo ≤ bisR lt x vs lo hi ∧ bisR lt x vs lo hi ≤ hi ∧ (∀ i, i < bisR lt x vs lo hi → lt x (vs.getD i .none) = false) ∧ (∀ i, bisR lt x vs lo hi ≤ i → i < vs.length → lt x (vs.getD i .none) = true) := by
  intro lo hi
  induction hd : hi - lo using Nat.strongRecOn generalizing lo hi with
  | _ n ih =>
    intro hlh hhl h1 h2
    rw [bisR]
    split
    · rename_i hlt
      split
      · rename_i hc
        have := ih _ (by omega) lo ((lo + hi) / 2) rfl (by omega) (by omega) h1 (fun i hi1 hi2 => mono _ i hi1 hi2 hc)
        exact ⟨this.1, by omega, this.2.2⟩
      · rename_i hc
        have hc' : lt x (vs.getD ((lo + hi) / 2) .none) = false := by simpa using hc
        have := ih _ (by omega) ((lo + hi) / 2 + 1) hi rfl (by omega) hhl (fun i hi1 => by
          cases hq : lt x (vs.getD i .none) with
          | false => rfl
          | true => rw [mono i ((lo + hi) / 2) (by omega) (by omega) hq] at hc'; cases hc') h2
        exact ⟨by omega, this.2⟩
    · rename_i hlt
      exact ⟨Nat.le_refl _, hlh, h1, fun i hi1 hi2 => h2 i (by omega) hi2⟩
theorem bisL_spec {lt : Value → Value → Bool} {x : Value} {vs : List Value} (mono : ∀ i j, i ≤ j → j < vs.length → lt (vs.getD j .none) x = true → lt (vs.getD i .none) x = true) :
    ∀ (lo hi : Nat), lo ≤ hi → hi ≤ vs.length → (∀ i, i < lo → lt (vs.getD i .none) x = true) → (∀ i, hi ≤ i → i < vs.length → lt (vs.getD i .none) x = false) →
      lo ≤ bisL lt x vs lo hi ∧ bisL lt x vs lo hi ≤ hi ∧ (∀ i, i < bisL lt x vs lo hi → lt (vs.getD i .none) x = true) ∧ (∀ i, bisL lt x vs lo hi ≤ i → i < vs.length → lt (vs.getD i .none) x = false) := by
  intro lo hi
  induction hd : hi - lo using Nat.strongRecOn generalizing lo hi with
  | _ n ih =>
    intro hlh hhl h1 h2
    rw [bisL]
    split
    · rename_i hlt
      split
      · rename_i hc
        have := ih _ (by omega) ((lo + hi) / 2 + 1) hi rfl (by omega) hhl (fun i hi1 => mono i ((lo + hi) / 2) (by omega) (by omega) hc) h2
        exact ⟨by omega, this.2⟩
      · rename_i hc
        have hc' : lt (vs.getD ((lo + hi) / 2) .none) x = false := by simpa using hc
        have := ih _ (by omega) lo ((lo + hi) / 2) rfl (by omega) (by omega) h1 (fun i hi1 hi2 => by
          cases hq : lt (vs.getD i .none) x with
          | false => rfl
          | true => rw [mono ((lo + hi) / 2) i hi1 hi2 hq] at hc'; cases hc')
        exact ⟨this.1, by omega, this.2.2⟩
    · rename_i hlt
      exact ⟨Nat.le_refl _, hlh, h1, fun i hi1 hi2 => h2 i (by omega) hi2⟩
/-- rising by «less» -/
def Rising (lt : Value → Value → Bool) (vs : List Value) : Prop := vs.Pairwise fun a b => lt b a = false
theorem rising_le {lt : Value → Value → Bool} (o : WO lt) {vs : List Value} (h : Rising lt vs) {i j : Nat} (hij : i ≤ j) (hj : j < vs.length) : lt (vs.getD j .none) (vs.getD i .none) = false := by
  rcases Nat.lt_or_eq_of_le hij with hlt | rfl
  · have := List.pairwise_iff_getElem.mp h i j (by omega) hj hlt
    simpa [List.getD, hj, show i < vs.length by omega] using this
  · exact o.irr _
theorem rising_monoR {lt : Value → Value → Bool} (o : WO lt) {vs : List Value} (h : Rising lt vs) (x : Value) : ∀ i j, i ≤ j → j < vs.length → lt x (vs.getD i .none) = true → lt x (vs.getD j .none) = true := by
  intro i j hij hj hx
  cases hq : lt x (vs.getD j .none) with
  | true => rfl
  | false => have := o.ntr _ _ _ hq (rising_le o h hij hj); rw [hx] at this; cases this
theorem rising_monoL {lt : Value → Value → Bool} (o : WO lt) {vs : List Value} (h : Rising lt vs) (x : Value) : ∀ i j, i ≤ j → j < vs.length → lt (vs.getD j .none) x = true → lt (vs.getD i .none) x = true := by
  intro i j hij hj hx
  cases hq : lt (vs.getD i .none) x with
  | true => rfl
  | false => have := o.ntr _ _ _ (rising_le o h hij hj) hq; rw [hx] at this; cases this
theorem mem_take_getD {vs : List Value} {k : Nat} {v : Value} (h : v ∈ vs.take k) : ∃ i, i < k ∧ i < vs.length ∧ vs.getD i .none = v := by
  obtain ⟨i, hi, rfl⟩ := List.getElem_of_mem h
  simp only [List.length_take] at hi
  exact ⟨i, by omega, by omega, by simp [List.getD, show i < vs.length by omega]⟩
theorem mem_drop_getD {vs : List Value} {k : Nat} {v : Value} (h : v ∈ vs.drop k) : ∃ i, k ≤ i ∧ i < vs.length ∧ vs.getD i .none = v := by
  obtain ⟨i, hi, rfl⟩ := List.getElem_of_mem h
  simp only [List.length_drop] at hi
  exact ⟨k + i, by omega, by omega, by simp [List.getD, show k + i < vs.length by omega]⟩
theorem insAt_perm {vs : List Value} {k : Nat} {x : Value} : (insAt vs k x).Perm (x :: vs) := by
  unfold insAt
  refine List.perm_middle.trans ?_
  rw [List.take_append_drop]
theorem insAt_rising {lt : Value → Value → Bool} {vs : List Value} {k : Nat} {x : Value} (h : Rising lt vs) (h1 : ∀ i, i < k → i < vs.length → lt x (vs.getD i .none) = false) (h2 : ∀ i, k ≤ i → i < vs.length → lt (vs.getD i .none) x = false) : Rising lt (insAt vs k x) := by
  unfold insAt Rising
  rw [List.pairwise_append]
  refine ⟨h.sublist (List.take_sublist _ _), ?_, ?_⟩
  · rw [List.pairwise_cons]
    refine ⟨fun a ha => ?_, h.sublist (List.drop_sublist _ _)⟩
    obtain ⟨i, hi1, hi2, rfl⟩ := mem_drop_getD ha
    exact h2 i hi1 hi2
  · intro a ha b hb
    rcases List.mem_cons.mp hb with rfl | hb
    · obtain ⟨i, hi1, hi2, rfl⟩ := mem_take_getD ha
      exact h1 i hi1 hi2
    · have hp := h
      unfold Rising at hp
      rw [← List.take_append_drop k vs, List.pairwise_append] at hp
      exact hp.2.2 a ha b hb
theorem insL_rising {lt : Value → Value → Bool} (o : WO lt) {vs : List Value} {x : Value} (h : Rising lt vs) : Rising lt (insL lt vs x) := by
  obtain ⟨_, _, h3, h4⟩ := bisL_spec (rising_monoL o h x) 0 vs.length (Nat.zero_le _) (Nat.le_refl _) (fun i hi => absurd hi (Nat.not_lt_zero _)) (fun i h1 h2 => absurd h2 (by omega))
  exact insAt_rising h (fun i hi _ => o.asym _ _ (h3 i hi)) h4
theorem insR_rising {lt : Value → Value → Bool} (o : WO lt) {vs : List Value} {x : Value} (h : Rising lt vs) : Rising lt (insR lt vs x) := by
  obtain ⟨_, _, h3, h4⟩ := bisR_spec (rising_monoR o h x) 0 vs.length (Nat.zero_le _) (Nat.le_refl _) (fun i hi => absurd hi (Nat.not_lt_zero _)) (fun i h1 h2 => absurd h2 (by omega))
  exact insAt_rising h (fun i hi _ => h3 i hi) (fun i h1 h2 => o.asym _ _ (h4 i h1 h2))
/-- how many are greater -/
theorem bisR_count {lt : Value → Value → Bool} (o : WO lt) {vs : List Value} {x : Value} (h : Rising lt vs) : (vs.length : Int) - (bisR lt x vs 0 vs.length : Nat) = (vs.countP (fun v => lt x v) : Nat) := by
  obtain ⟨_, h2, h3, h4⟩ := bisR_spec (rising_monoR o h x) 0 vs.length (Nat.zero_le _) (Nat.le_refl _) (fun i hi => absurd hi (Nat.not_lt_zero _)) (fun i h1 h2 => absurd h2 (by omega))
  generalize bisR lt x vs 0 vs.length = k at *
  have e : vs.countP (fun v => lt x v) = (vs.take k).countP (fun v => lt x v) + (vs.drop k).countP (fun v => lt x v) := by
    rw [← List.countP_append, List.take_append_drop]
  have e1 : (vs.take k).countP (fun v => lt x v) = 0 := by
    rw [List.countP_eq_zero]
    intro a ha
    obtain ⟨i, hi1, _, rfl⟩ := mem_take_getD ha
    rw [h3 i hi1]; decide
  have e2 : (vs.drop k).countP (fun v => lt x v) = (vs.drop k).length := by
    rw [List.countP_eq_length]
    intro a ha
    obtain ⟨i, hi1, hi2, rfl⟩ := mem_drop_getD ha
    exact h4 i hi1 hi2
  rw [e, e1, e2, List.length_drop]
  omega

def gaStep (lt : Value → Value → Bool) (st : List Value × List Int) (x : Value) : List Value × List Int :=
  (insL lt st.1 x, st.2 ++ [(st.1.length : Int) - (bisR lt x st.1 0 st.1.length : Nat)])
def gaFold (lt : Value → Value → Bool) (vs : List Value) : List Value × List Int := vs.foldl (gaStep lt) ([], [])
theorem gaFold_snoc (lt : Value → Value → Bool) (vs : List Value) (x : Value) : gaFold lt (vs ++ [x]) = gaStep lt (gaFold lt vs) x := by
  simp [gaFold, List.foldl_append]
theorem gaFold_take (lt : Value → Value → Bool) {vs : List Value} {i : Nat} {x : Value} (h : vs[i]? = some x) : gaFold lt (vs.take (i + 1)) = gaStep lt (gaFold lt (vs.take i)) x := by
  rw [← gaFold_snoc, List.take_add_one, h]; rfl
theorem gaFold_len (lt : Value → Value → Bool) (vs : List Value) : (gaFold lt vs).1.length = vs.length ∧ (gaFold lt vs).2.length = vs.length := by
  have key : ∀ (vs : List Value) (st : List Value × List Int), (vs.foldl (gaStep lt) st).1.length = st.1.length + vs.length ∧ (vs.foldl (gaStep lt) st).2.length = st.2.length + vs.length := by
    intro vs
    induction vs with
    | nil => intro st; exact ⟨rfl, rfl⟩
    | cons x r ih =>
      intro st
      rw [List.foldl_cons]
      obtain ⟨h1, h2⟩ := ih (gaStep lt st x)
      rw [h1, h2]
      have e : (gaStep lt st x).1.length = st.1.length + 1 := insAt_length (bisL_le (Nat.zero_le _))
      have e2 : (gaStep lt st x).2.length = st.2.length + 1 := by simp [gaStep]
      rw [e, e2, List.length_cons]
      omega
  obtain ⟨h1, h2⟩ := key vs ([], [])
  exact ⟨by rw [gaFold, h1]; simp, by rw [gaFold, h2]; simp⟩
theorem gaFold_mem {lt : Value → Value → Bool} {S : Value → Prop} (vs : List Value) (h : ∀ v ∈ vs, S v) : ∀ v ∈ (gaFold lt vs).1, S v := by
  have key : ∀ (vs : List Value) (st : List Value × List Int), (∀ v ∈ vs, S v) → (∀ v ∈ st.1, S v) → ∀ v ∈ (vs.foldl (gaStep lt) st).1, S v := by
    intro vs
    induction vs with
    | nil => intro st _ h2; exact h2
    | cons x r ih =>
      intro st h1 h2
      rw [List.foldl_cons]
      refine ih _ (fun v hv => h1 v (.tail _ hv)) fun v hv => ?_
      rcases insAt_mem hv with rfl | hv
      · exact h1 _ (.head _)
      · exact h2 v hv
  exact key vs _ h (fun _ hv => nomatch hv)
theorem ints_snoc {vs : List Value} {ns : List Int} (h : IntsAre vs ns) (x : Int) (t : Tok) : IntsAre (vs ++ [.int x t]) (ns ++ [x]) := by
  induction h with
  | nil => exact .cons x t .nil
  | cons i t' _ ih => exact .cons i t' ih


def l10step (sz : Nat) (st : List Value × List Value) (x : Value) : List Value × List Value :=
  if st.1.length < sz then (hpush ltI st.1 x, st.2) else ((hppop ltI st.1 x).2, st.2 ++ [(hppop ltI st.1 x).1])
def l10fold (sz : Nat) (vs : List Value) : List Value × List Value := vs.foldl (l10step sz) ([], [])
theorem l10_take {sz : Nat} {vs : List Value} {i : Nat} {x : Value} (h : vs[i]? = some x) : l10fold sz (vs.take (i + 1)) = l10step sz (l10fold sz (vs.take i)) x := by
  have e : vs.take (i + 1) = vs.take i ++ [x] := by rw [List.take_add_one, h]; rfl
  rw [e, l10fold, List.foldl_append]; rfl
/-- what holds of the fold -/
structure L10Inv (sz : Nat) (vs : List Value) (st : List Value × List Value) : Prop where
  perm : (st.1 ++ st.2).Perm vs
  len : st.1.length ≤ sz
  heap : HeapAt ltI 0 st.1
theorem l10_inv {sz : Nat} (vs : List Value) : L10Inv sz vs (l10fold sz vs) := by
  have key : ∀ (r : List Value) (p : List Value) (st : List Value × List Value), L10Inv sz p st → L10Inv sz (p ++ r) (r.foldl (l10step sz) st) := by
    intro r
    induction r with
    | nil => intro p st h; simpa using h
    | cons x r ih =>
      intro p st h
      rw [List.foldl_cons, show p ++ x :: r = (p ++ [x]) ++ r by simp]
      refine ih _ _ ?_
      rw [l10step]
      split
      · rename_i hl
        refine ⟨?_, ?_, hpush_heap wo_int h.heap⟩
        · refine (hpush_perm.append_right _).trans ?_
          simp only [List.cons_append]
          exact ((h.perm.cons x).trans (List.perm_append_comm (l₁ := [x]) (l₂ := p)))
        · show (hpush ltI st.1 x).length ≤ sz
          rw [hpush_perm.length_eq, List.length_cons]; omega
      · refine ⟨?_, ?_, hppop_heap wo_int h.heap⟩
        · have h1 := hppop_perm (lt := ltI) (vs := st.1) (x := x)
          have h2 : ((hppop ltI st.1 x).2 ++ (st.2 ++ [(hppop ltI st.1 x).1])).Perm ((hppop ltI st.1 x).1 :: ((hppop ltI st.1 x).2 ++ st.2)) := by
            rw [← List.append_assoc]
            exact List.perm_append_comm (l₁ := _) (l₂ := [(hppop ltI st.1 x).1])
          refine h2.trans ?_
          rw [← List.cons_append]
          refine (h1.append_right _).trans ?_
          simp only [List.cons_append]
          exact ((h.perm.cons x).trans (List.perm_append_comm (l₁ := [x]) (l₂ := p)))
        · have h1 := (hppop_perm (lt := ltI) (vs := st.1) (x := x)).length_eq
          simp only [List.length_cons] at h1
          show (hppop ltI st.1 x).2.length ≤ sz
          have := h.len
          omega
  have h0 : L10Inv sz [] ([], []) := ⟨.refl _, Nat.zero_le _, fun i _ hi => by simp at hi⟩
  have := key vs [] ([], []) h0
  rw [List.nil_append] at this
  exact this

def drain (lt : Value → Value → Bool) (hp : List Value) : List Value :=
  if h : hp = [] then [] else (hpop lt hp.dropLast (hp.getLast h)).1 :: drain lt (hpop lt hp.dropLast (hp.getLast h)).2
termination_by hp.length
decreasing_by
  have h1 := (hpop_perm (lt := lt) (ws := hp.dropLast) (y := hp.getLast h)).length_eq
  rw [List.dropLast_concat_getLast] at h1
  simp only [List.length_cons] at h1
  omega

def bubStep (vs : List Value) (k : Nat) : List Value :=
  if ltI (vs.getD k .none) (vs.getD (k - 1) .none) then (vs.set (k - 1) (vs.getD k .none)).set k (vs.getD (k - 1) .none) else vs
def bubTo (vs : List Value) (i : Nat) : List Value := (List.range' 1 i).foldl bubStep vs
def bub (vs : List Value) : List Value := bubTo vs (vs.length - 1)
def bubN : Nat → List Value → List Value
  | 0, vs => vs
  | i + 1, vs => bub (bubN i vs)
theorem bubTo_succ (vs : List Value) (i : Nat) : bubTo vs (i + 1) = bubStep (bubTo vs i) (1 + i) := by
  rw [bubTo, List.range'_concat, List.foldl_append]; simp [bubTo]
theorem bubStep_len (vs : List Value) (k : Nat) : (bubStep vs k).length = vs.length := by
  rw [bubStep]; split <;> simp
theorem bubTo_len (vs : List Value) (i : Nat) : (bubTo vs i).length = vs.length := by
  induction i with
  | zero => rfl
  | succ i ih => rw [bubTo_succ, bubStep_len, ih]
theorem bubN_len (vs : List Value) (i : Nat) : (bubN i vs).length = vs.length := by
  induction i with
  | zero => rfl
  | succ i ih => rw [bubN, bub, bubTo_len, ih]
theorem bubStep_int {vs : List Value} {k : Nat} (hk : 0 < k) (hkl : k < vs.length) (h : ∀ v ∈ vs, IsInt v) : ∀ v ∈ bubStep vs k, IsInt v := by
  rw [bubStep]
  split
  · exact all_set (all_set h (h _ (getD_mem hkl))) (h _ (getD_mem (by omega)))
  · exact h
theorem bubTo_int {vs : List Value} {i : Nat} (hi : i ≤ vs.length - 1) (h : ∀ v ∈ vs, IsInt v) : ∀ v ∈ bubTo vs i, IsInt v := by
  induction i with
  | zero => exact h
  | succ i ih => rw [bubTo_succ]; exact bubStep_int (by omega) (by rw [bubTo_len]; omega) (ih (by omega))
theorem bubN_int {vs : List Value} {i : Nat} (h : ∀ v ∈ vs, IsInt v) : ∀ v ∈ bubN i vs, IsInt v := by
  induction i with
  | zero => exact h
  | succ i ih => exact bubTo_int (Nat.le_refl _) ih
/-- one pass of neighbours' exchange: what has gone out, what is carried -/
def em : Int → List Int → List Int
  | _, [] => []
  | c, x :: l => min c x :: em (max c x) l
def ca : Int → List Int → Int
  | c, [] => c
  | c, x :: l => ca (max c x) l
def bp : List Int → List Int
  | [] => []
  | x :: l => em x l ++ [ca x l]
def bpN : Nat → List Int → List Int
  | 0, xs => xs
  | k + 1, xs => bp (bpN k xs)
theorem bpN_bp (k : Nat) (xs : List Int) : bpN k (bp xs) = bp (bpN k xs) := by
  induction k with
  | zero => rfl
  | succ k ih => rw [bpN, ih, bpN]
theorem em_snoc (l : List Int) (z : Int) : ∀ c, em c (l ++ [z]) = em c l ++ [min (ca c l) z] := by
  induction l with
  | nil => intro c; rfl
  | cons x l ih => intro c; simp only [List.cons_append, em, ca, ih]
theorem ca_snoc (l : List Int) (z : Int) : ∀ c, ca c (l ++ [z]) = max (ca c l) z := by
  induction l with
  | nil => intro c; rfl
  | cons x l ih => intro c; simp only [List.cons_append, ca, ih]
theorem em_len (l : List Int) : ∀ c, (em c l).length = l.length := by
  induction l with
  | nil => intro c; rfl
  | cons x l ih => intro c; simp [em, ih]

/-- through a sorted row of k places -/
def insI (x : Int) : List Int → List Int
  | [] => [x]
  | y :: r => if x ≤ y then x :: y :: r else y :: insI x r
def thr (k : Nat) : List Int → List Int → List Int
  | b, [] => b
  | b, x :: xs => if b.length < k then thr k (insI x b) xs else match insI x b with
    | [] => []
    | y :: b' => y :: thr k b' xs
abbrev Up (b : List Int) : Prop := b.Pairwise (· ≤ ·)
theorem insI_perm (x : Int) : ∀ b : List Int, (insI x b).Perm (x :: b)
  | [] => .refl _
  | y :: r => by
    rw [insI]
    split
    · exact .refl _
    · exact ((insI_perm x r).cons y).trans (List.Perm.swap _ _ _)
theorem insI_up (x : Int) : ∀ b : List Int, Up b → Up (insI x b)
  | [], _ => by simp [insI, Up]
  | y :: r, h => by
    rw [insI]
    have h' := List.pairwise_cons.mp h
    split
    · rename_i hxy
      refine List.pairwise_cons.mpr ⟨fun a ha => ?_, h⟩
      rcases List.mem_cons.mp ha with rfl | ha
      · exact hxy
      · have := h'.1 a ha; omega
    · rename_i hxy
      refine List.pairwise_cons.mpr ⟨fun a ha => ?_, insI_up x r h'.2⟩
      rcases List.mem_cons.mp ((insI_perm x r).mem_iff.mp ha) with rfl | ha
      · omega
      · exact h'.1 a ha
theorem up_eq {a b : List Int} (ha : Up a) (hb : Up b) (h : a.Perm b) : a = b :=
  List.Perm.eq_of_pairwise (le := (· ≤ ·)) (fun x y _ _ h1 h2 => Int.le_antisymm h1 h2) ha hb h
theorem insI_last {b : List Int} {c x : Int} (hb : Up b) (hc : ∀ y ∈ b, y ≤ c) : insI x (b ++ [c]) = insI (min c x) b ++ [max c x] := by
  refine up_eq (insI_up _ _ ?_) ?_ ?_
  · exact List.pairwise_append.mpr ⟨hb, by simp, fun a ha z hz => by rw [List.mem_singleton.mp hz]; exact hc a ha⟩
  · refine List.pairwise_append.mpr ⟨insI_up _ _ hb, by simp, fun a ha z hz => ?_⟩
    rw [List.mem_singleton.mp hz]
    rcases List.mem_cons.mp ((insI_perm _ b).mem_iff.mp ha) with rfl | ha
    · omega
    · have := hc a ha; omega
  · refine (insI_perm _ _).trans ?_
    refine ((List.perm_append_comm (l₁ := b) (l₂ := [c])).cons x).trans ?_
    refine List.Perm.trans ?_ ((insI_perm (min c x) b).append_right _).symm
    refine List.Perm.trans ?_ (List.perm_append_comm (l₁ := [max c x]) (l₂ := min c x :: b))
    simp only [List.singleton_append]
    by_cases h : c ≤ x
    · rw [Int.min_eq_left h, Int.max_eq_right h]
    · rw [Int.min_eq_right (by omega), Int.max_eq_left (by omega)]
      exact List.Perm.swap _ _ _
theorem insI_ne (x : Int) (b : List Int) : insI x b ≠ [] := by
  intro h
  have := (insI_perm x b).length_eq
  rw [h] at this; simp at this
theorem thr_step {k : Nat} : ∀ (xs : List Int) (b : List Int) (c : Int), Up b → (∀ y ∈ b, y ≤ c) → b.length ≤ k → thr (k + 1) (b ++ [c]) xs = thr k b (em c xs ++ [ca c xs]) := by
  intro xs
  induction xs with
  | nil =>
    intro b c hb hc hk
    have e : insI c b = b ++ [c] := by
      refine up_eq (insI_up _ _ hb) ?_ ((insI_perm _ _).trans (List.perm_append_comm (l₁ := [c]) (l₂ := b)))
      exact List.pairwise_append.mpr ⟨hb, by simp, fun a ha z hz => by rw [List.mem_singleton.mp hz]; exact hc a ha⟩
    simp only [em, ca, List.nil_append, thr]
    rw [e]
    split
    · rfl
    · cases b <;> rfl
  | cons x xs ih =>
    intro b c hb hc hk
    simp only [em, ca, List.cons_append]
    rw [thr, thr, insI_last hb hc]
    simp only [List.length_append, List.length_cons, List.length_nil]
    have hup := insI_up (min c x) b hb
    have hle : ∀ y ∈ insI (min c x) b, y ≤ max c x := fun y hy => by
      rcases List.mem_cons.mp ((insI_perm _ b).mem_iff.mp hy) with rfl | hy
      · omega
      · have := hc y hy; omega
    have hlen := (insI_perm (min c x) b).length_eq
    simp only [List.length_cons] at hlen
    by_cases hl : b.length < k
    · rw [if_pos (by omega), if_pos hl]
      exact ih _ _ hup hle (by omega)
    · rw [if_neg (by omega), if_neg hl]
      cases hq : insI (min c x) b with
      | nil => exact absurd hq (insI_ne _ _)
      | cons y b' =>
        rw [hq] at hup hle hlen
        simp only [List.cons_append]
        rw [ih b' _ (List.pairwise_cons.mp hup).2 (fun z hz => hle z (.tail _ hz)) (by simp only [List.length_cons] at hlen; omega)]
theorem thr_bp (k : Nat) : ∀ xs : List Int, thr k [] xs = bpN k xs := by
  induction k with
  | zero =>
    intro xs
    induction xs with
    | nil => rfl
    | cons x xs ih => simp only [thr, List.length_nil, Nat.lt_irrefl, if_false, insI, ih, bpN]
  | succ k ih =>
    intro xs
    rw [bpN, ← bpN_bp, ← ih]
    cases xs with
    | nil => simp [thr, bp]
    | cons x xs =>
      rw [thr, if_pos (by simp)]
      exact thr_step xs [] x (by simp [Up]) (by simp) (by simp)

theorem sorted_head {y m : Int} {b' l : List Int} (h : (y :: b').Perm (m :: l)) (hu : Up (y :: b')) (hm : ∀ z ∈ m :: l, m ≤ z) : y = m ∧ b'.Perm l ∧ Up b' := by
  have h1 := (List.pairwise_cons.mp hu)
  have e : y = m := by
    have a1 : m ≤ y := hm y (h.mem_iff.mp (.head _))
    have a2 : y ≤ m := by
      rcases List.mem_cons.mp (h.mem_iff.mpr (.head _)) with e | e
      · omega
      · exact h1.1 m e
    omega
  subst e
  exact ⟨rfl, h.cons_inv, h1.2⟩
theorem le_of_not {x y : Value} (h : ltI x y = false) : ival y ≤ ival x := by
  simp only [ltI, decide_eq_false_iff_not] at h; omega
theorem drain_sorted : ∀ (n : Nat) (hp : List Value) (b : List Int), hp.length = n → HeapAt ltI 0 hp → Up b → (hp.map ival).Perm b → (drain ltI hp).map ival = b := by
  intro n
  induction n with
  | zero =>
    intro hp b hn _ _ hperm
    have : hp = [] := List.length_eq_zero_iff.mp hn
    subst this
    rw [drain, dif_pos rfl]
    exact (List.Perm.nil_eq hperm)
  | succ n ih =>
    intro hp b hn hh hu hperm
    have hne : hp ≠ [] := fun e => by rw [e] at hn; simp at hn
    rw [drain, dif_neg hne]
    have hpp := hpop_perm (lt := ltI) (ws := hp.dropLast) (y := hp.getLast hne)
    have hh' : HeapAt ltI 0 (hp.dropLast ++ [hp.getLast hne]) := by rw [List.dropLast_concat_getLast]; exact hh
    have hmin := hpop_min wo_int hh'
    have hhp := hpop_heap wo_int hh'
    rw [List.dropLast_concat_getLast] at hpp hmin
    generalize hpop ltI hp.dropLast (hp.getLast hne) = r at *
    have hp2 : (ival r.1 :: r.2.map ival).Perm b := by
      have := hpp.map ival
      rw [List.map_cons] at this
      exact this.trans hperm
    cases b with
    | nil => simpa using hp2.length_eq
    | cons y b' =>
      obtain ⟨e1, e2, e3⟩ := sorted_head hp2.symm hu (fun z hz => by
        rcases List.mem_cons.mp hz with rfl | hz
        · exact Int.le_refl _
        · obtain ⟨v, hv, rfl⟩ := List.mem_map.mp hz
          exact le_of_not (hmin v (hpp.mem_iff.mp (.tail _ hv))))
      rw [List.map_cons, e1, ih r.2 b' (by have := hpp.length_eq; simp only [List.length_cons] at this; omega) hhp e3 e2.symm]
theorem told_thr {sz : Nat} : ∀ (vs hp tl : List Value) (b : List Int), HeapAt ltI 0 hp → Up b → (hp.map ival).Perm b →
    ((vs.foldl (l10step sz) (hp, tl)).2 ++ drain ltI (vs.foldl (l10step sz) (hp, tl)).1).map ival = tl.map ival ++ thr sz b (vs.map ival) := by
  intro vs
  induction vs with
  | nil =>
    intro hp tl b hh hu hperm
    simp only [List.foldl_nil, List.map_append, List.map_nil, thr]
    rw [drain_sorted _ hp b rfl hh hu hperm]
  | cons x vs ih =>
    intro hp tl b hh hu hperm
    rw [List.foldl_cons, l10step, List.map_cons, thr]
    have hlen : hp.length = b.length := by rw [← hperm.length_eq, List.length_map]
    have hins := insI_perm (ival x) b
    split
    · rename_i hl
      rw [if_pos (by dsimp only at hl; omega)]
      refine ih _ _ _ (hpush_heap wo_int hh) (insI_up _ _ hu) ?_
      refine (hpush_perm.map ival).trans ?_
      rw [List.map_cons]
      exact (hperm.cons _).trans hins.symm
    · rename_i hl
      rw [if_neg (by dsimp only at hl; omega)]
      have hpp := hppop_perm (lt := ltI) (vs := hp) (x := x)
      have hmin := hppop_min wo_int (x := x) hh
      have hhp := hppop_heap wo_int (x := x) hh
      dsimp only
      generalize hppop ltI hp x = r at *
      have hp2 : (ival r.1 :: r.2.map ival).Perm (insI (ival x) b) := by
        have := hpp.map ival
        rw [List.map_cons, List.map_cons] at this
        exact this.trans ((hperm.cons _).trans hins.symm)
      have hu2 := insI_up (ival x) b hu
      cases hq : insI (ival x) b with
      | nil => exact absurd hq (insI_ne _ _)
      | cons y b' =>
        rw [hq] at hp2 hu2
        obtain ⟨e1, e2, e3⟩ := sorted_head hp2.symm hu2 (fun z hz => by
          rcases List.mem_cons.mp hz with rfl | hz
          · exact Int.le_refl _
          · obtain ⟨v, hv, rfl⟩ := List.mem_map.mp hz
            exact le_of_not (hmin v (hpp.mem_iff.mp (.tail _ hv))))
        dsimp only
        rw [ih r.2 _ b' hhp e3 e2.symm, List.map_append, e1]
        simp
theorem getD_map {vs : List Value} {i : Nat} : ival (vs.getD i .none) = (vs.map ival).getD i 0 := by
  simp only [List.getD, List.getElem?_map]
  cases vs[i]? <;> rfl
theorem bubTo_map {x0 : Value} {t : List Value} : ∀ i, i ≤ t.length → (bubTo (x0 :: t) i).map ival = em (ival x0) ((t.map ival).take i) ++ ca (ival x0) ((t.map ival).take i) :: (t.map ival).drop i := by
  intro i
  induction i with
  | zero => intro _; rfl
  | succ i ih =>
    intro hi
    have hi' := ih (by omega)
    rw [bubTo_succ]
    generalize hbe : bubTo (x0 :: t) i = bb at *
    have hlt : i < (t.map ival).length := by simp; omega
    obtain ⟨z, hz⟩ : ∃ z, (t.map ival)[i]? = some z := ⟨_, List.getElem?_eq_getElem hlt⟩
    have hd : (t.map ival).drop i = z :: (t.map ival).drop (i + 1) := by
      rw [List.drop_eq_getElem_cons hlt]
      congr 1
      rw [List.getElem?_eq_getElem hlt] at hz
      exact Option.some.inj hz
    rw [List.take_add_one, hz]
    simp only [Option.toList]
    rw [em_snoc, ca_snoc]
    rw [hd] at hi'
    generalize hE : em (ival x0) ((t.map ival).take i) = el at *
    generalize hC : ca (ival x0) ((t.map ival).take i) = c at *
    have hel : el.length = i := by rw [← hE, em_len, List.length_take]; omega
    have g1 : ival (bb.getD (1 + i) .none) = z := by
      rw [getD_map, hi']; simp [List.getD, List.getElem?_append_right, hel, Nat.add_comm 1 i]
    have g0 : ival (bb.getD (1 + i - 1) .none) = c := by
      rw [getD_map, hi', show 1 + i - 1 = i by omega]; simp [List.getD, List.getElem?_append_right, hel]
    rw [bubStep]
    simp only [ltI, g1, g0, decide_eq_true_eq]
    split
    · rename_i hzc
      rw [List.map_set, List.map_set, g1, g0, hi', show 1 + i - 1 = i by omega, Int.min_eq_right (by omega), Int.max_eq_left (by omega)]
      rw [List.set_append_right _ _ (by omega), List.set_append_right _ _ (by omega)]
      simp [hel, Nat.add_comm 1 i]
    · rename_i hzc
      rw [hi', Int.min_eq_left (by omega), Int.max_eq_right (by omega)]
      simp
theorem bub_map (vs : List Value) : (bub vs).map ival = bp (vs.map ival) := by
  cases vs with
  | nil => rfl
  | cons x t =>
    rw [bub, show (x :: t).length - 1 = t.length by simp, bubTo_map _ (Nat.le_refl _)]
    rw [show t.length = (t.map ival).length by simp, List.take_length, List.drop_length]
    rfl
theorem bubN_map (k : Nat) (vs : List Value) : (bubN k vs).map ival = bpN k (vs.map ival) := by
  induction k with
  | zero => rfl
  | succ k ih => rw [bubN, bub_map, ih, bpN]
theorem told_eq {sz : Nat} {its : List Value} : ((l10fold sz its).2 ++ drain ltI (l10fold sz its).1).map ival = (bubN sz its).map ival := by
  rw [bubN_map, l10fold, told_thr its [] [] [] (fun i _ hi => by simp at hi) (by simp [Up]) (.refl _), thr_bp]
  rfl

/-- how many greater ones stand ahead -/
def gcnt (P : List Int) (x : Int) : Int := (P.countP (fun p => decide (x < p)) : Nat)
def gt : List Int → List Int → List Int
  | _, [] => []
  | P, x :: xs => gcnt P x :: gt (x :: P) xs
theorem gcnt_perm {P P' : List Int} (h : P.Perm P') (x : Int) : gcnt P x = gcnt P' x := by
  rw [gcnt, gcnt, h.countP_eq]
theorem gt_perm : ∀ (xs P P' : List Int), P.Perm P' → gt P xs = gt P' xs := by
  intro xs
  induction xs with
  | nil => intro P P' _; rfl
  | cons x xs ih => intro P P' h; rw [gt, gt, gcnt_perm h, ih _ _ (h.cons x)]
theorem gt_len : ∀ (xs P : List Int), (gt P xs).length = xs.length := by
  intro xs
  induction xs with
  | nil => intro P; rfl
  | cons x xs ih => intro P; rw [gt, List.length_cons, ih, List.length_cons]
theorem gt_nonneg : ∀ (xs P : List Int), ∀ c ∈ gt P xs, 0 ≤ c := by
  intro xs
  induction xs with
  | nil => intro P c hc; cases hc
  | cons x xs ih =>
    intro P c hc
    rcases List.mem_cons.mp hc with rfl | hc
    · exact Int.natCast_nonneg _
    · exact ih _ c hc
theorem gaFold_gt : ∀ (vs kept : List Value) (tab P : List Int), Rising ltI kept → (kept.map ival).Perm P → (vs.foldl (gaStep ltI) (kept, tab)).2 = tab ++ gt P (vs.map ival) := by
  intro vs
  induction vs with
  | nil => intro kept tab P _ _; simp [gt]
  | cons x vs ih =>
    intro kept tab P hr hp
    rw [List.foldl_cons, gaStep, List.map_cons, gt]
    dsimp only
    rw [ih _ _ (ival x :: P) (insL_rising wo_int hr) (((insAt_perm (vs := kept)).map ival).trans (hp.cons _)), bisR_count wo_int hr, List.append_assoc]
    congr 1
    have e : gcnt P (ival x) = (kept.countP (fun v => ltI x v) : Nat) := by
      rw [gcnt, ← hp.countP_eq, List.countP_map]
      rfl
    rw [e]; rfl
theorem gaFold_eq (vs : List Value) : (gaFold ltI vs).2 = gt [] (vs.map ival) := by
  rw [gaFold, gaFold_gt vs [] [] [] (by simp [Rising]) (.refl _)]; rfl
theorem gcnt_zero {P : List Int} {x : Int} (h : ∀ p ∈ P, p ≤ x) : gcnt P x = 0 := by
  rw [gcnt, List.countP_eq_zero.mpr]
  · rfl
  · intro a ha; have := h a ha; simp; omega
theorem gt_em : ∀ (l : List Int) (c : Int) (E P : List Int), P.Perm (c :: E) → (∀ e ∈ E, e ≤ c) → gt E (em c l ++ [ca c l]) = (gt P l).map (fun g => max 0 (g - 1)) ++ [0] := by
  intro l
  induction l with
  | nil =>
    intro c E P _ hE
    simp only [em, ca, List.nil_append, gt, List.map_nil, gcnt_zero hE]
  | cons x l ih =>
    intro c E P hP hE
    simp only [em, ca, List.cons_append, gt, List.map_cons]
    rw [ih (max c x) (min c x :: E) (x :: P) ?_ ?_]
    · congr 1
      rw [gcnt_perm hP]
      by_cases h : x < c
      · rw [Int.min_eq_right (by omega)]
        have e : gcnt (c :: E) x = gcnt E x + 1 := by
          rw [gcnt, gcnt, List.countP_cons_of_pos (by simpa using h)]; omega
        have := Int.natCast_nonneg (E.countP (fun p => decide (x < p)))
        rw [e]
        simp only [gcnt] at *
        omega
      · rw [Int.min_eq_left (by omega), gcnt_zero hE, gcnt_zero (P := c :: E)]
        · decide
        · intro p hp
          rcases List.mem_cons.mp hp with rfl | hp
          · omega
          · have := hE p hp; omega
    · refine (hP.cons x).trans ?_
      by_cases h : x < c
      · rw [Int.min_eq_right (by omega), Int.max_eq_left (by omega)]
        exact List.Perm.swap _ _ _
      · rw [Int.min_eq_left (by omega), Int.max_eq_right (by omega)]
    · intro e he
      rcases List.mem_cons.mp he with rfl | he
      · omega
      · have := hE e he; omega
def shift1 (t : List Int) : List Int := if t = [] then [] else (t.drop 1).map (fun g => max 0 (g - 1)) ++ [0]
theorem gt_bp (xs : List Int) : gt [] (bp xs) = shift1 (gt [] xs) := by
  cases xs with
  | nil => rfl
  | cons x l =>
    rw [bp, gt_em l x [] [x] (.refl _) (by simp), gt, shift1, if_neg (by simp)]
    rfl
theorem bp_len (xs : List Int) : (bp xs).length = xs.length := by
  cases xs with
  | nil => rfl
  | cons x l => simp [bp, em_len]
theorem bpN_len (k : Nat) (xs : List Int) : (bpN k xs).length = xs.length := by
  induction k with
  | zero => rfl
  | succ k ih => rw [bpN, bp_len, ih]
theorem gt_bpN (xs : List Int) (k : Nat) : gt [] (bpN k xs) = ((gt [] xs).drop k).map (fun c => max 0 (c - (k : Int))) ++ List.replicate (min k xs.length) 0 := by
  induction k with
  | zero =>
    rw [bpN]
    have e : ((gt [] xs).drop 0).map (fun c => max 0 (c - ((0 : Nat) : Int))) = gt [] xs := by
      rw [List.drop_zero]
      conv => rhs; rw [← List.map_id (gt [] xs)]
      refine List.map_congr_left fun c hc => ?_
      have := gt_nonneg xs [] c hc
      simp only [id]; omega
    rw [e]; simp
  | succ k ih =>
    rw [bpN, gt_bp, ih]
    have hl := gt_len xs []
    have z : (max 0 ((0 : Int) - 1)) = 0 := by decide
    by_cases hk : k < xs.length
    · have hne : ((gt [] xs).drop k).map (fun c => max 0 (c - (k : Int))) ++ List.replicate (min k xs.length) 0 ≠ [] := by
        intro e
        have := congrArg List.length e
        simp only [List.length_append, List.length_map, List.length_drop, List.length_replicate, List.length_nil] at this
        omega
      rw [shift1, if_neg hne, List.drop_append_of_le_length (by simp; omega), ← List.map_drop, List.drop_drop, List.map_append, List.map_map, List.map_replicate, z, List.append_assoc]
      congr 1
      · refine List.map_congr_left fun c _ => ?_
        simp only [Function.comp]
        push_cast
        omega
      · rw [Nat.min_eq_left (by omega), Nat.min_eq_left (by omega), ← List.replicate_succ']
    · have e : (gt [] xs).drop k = [] := List.drop_eq_nil_of_le (by omega)
      have e2 : (gt [] xs).drop (k + 1) = [] := List.drop_eq_nil_of_le (by omega)
      rw [e, e2, Nat.min_eq_right (by omega), Nat.min_eq_right (by omega), shift1]
      simp only [List.map_nil, List.nil_append]
      split
      · rename_i h0; rw [h0]
      · rename_i h0
        have hpos : 0 < xs.length := by
          rcases Nat.eq_zero_or_pos xs.length with h | h
          · rw [h] at h0; exact absurd rfl h0
          · exact h
        rw [List.drop_replicate, List.map_replicate, z, ← List.replicate_succ', show xs.length - 1 + 1 = xs.length by omega]
theorem table_eq {sz : Nat} {its told : List Value} (h : told.map ival = (bubN sz its).map ival) :
    (gaFold ltI told).2 = ((gaFold ltI its).2.drop sz).map (fun c => max 0 (c - (sz : Int))) ++ List.replicate (min sz its.length) 0 := by
  rw [gaFold_eq, gaFold_eq, h, bubN_map, gt_bpN, List.length_map]
local macro_rules | `(tactic| walk_at "exec While") => `(tactic| refine Stop.mk ?_)
local macro_rules | `(tactic| walk_at "call ref") => `(tactic| refine Stop.mk ?_)
local macro_rules | `(tactic| walk_at "compareOp Lt") => `(tactic| refine Stop.mk ?_)
local macro_rules | `(tactic| walk_at "binaryOp RShift int int") => `(tactic| (with_reducible refine shr_half ?_ ?_; (case refine_1 => omega)))
local macro_rules | `(tactic| walk_at "call builtin:len") => `(tactic| (k_here; (with_reducible show wpAny _ _ (call (Value.builtin _) [Value.ref _]) _ _ _); k_dflt (refine' len_gen ?k1 ?k2 ?k3 ?_; (case k1 => k_asm); (case k2 => k_mem); (case k3 => ((try simp only [List.length_set, List.length_append, List.length_cons, List.length_nil]); omega)); k_whole)))
local macro_rules | `(tactic| walk_at "subscriptTail") => `(tactic| (k_here; (with_reducible show wpAny _ _ (subscriptTail _ _ (Value.ref _) (Value.int _ _)) _ _ _); k_dflt (refine' item_gen ?k1 ?k2 ?k3 ?k4 ?k5 ?_ ?k6 ?k7; (case k1 => k_asm); (case k2 => k_mem); (case k3 => omega); (case k4 => ((try simp only [List.length_set, List.length_append, List.length_cons, List.length_nil]); omega)); (case k5 => ((try simp only [List.length_set, List.length_append, List.length_cons, List.length_nil]); omega)); (case k6 => with_unfolding_all rfl); (case k7 => (intro _; with_unfolding_all rfl)); k_whole); (try simp only [Int.toNat_natCast, toNat_succ, toNat_oa, toNat_oas])))
local macro_rules | `(tactic| walk_at "setItem") => `(tactic| (k_here; (with_reducible show wpAny _ _ (setItem (Value.ref _) (Value.int _ _) _) _ _ _); k_dflt (refine' set_gen ?k1 ?k2 ?k3 ?k4 ?k5 ?k6 ?_; (case k1 => k_asm); (case k2 => k_asm); (case k3 => k_upd); (case k4 => omega); (case k5 => ((try simp only [List.length_set, List.length_append, List.length_cons, List.length_nil]); omega)); (case k6 => ((try simp only [List.length_set, List.length_append, List.length_cons, List.length_nil]); omega)); k_whole); intro h' F' N'; (try simp only [Int.toNat_natCast, toNat_succ, toNat_oa, toNat_oas] at N'); (try k_sweep)))
local macro_rules | `(tactic| walk_at "call builtin:list.append") => `(tactic| (k_here; (with_reducible show wpAny _ _ (call (Value.builtin _) [Value.ref _, _]) _ _ _); k_dflt (refine' append_gen ?k1 ?k2 ?k3 ?k4 ?_; (case k1 => k_asm); (case k2 => k_asm); (case k3 => k_upd); (case k4 => ((try simp only [List.length_set, List.length_append, List.length_cons, List.length_nil]); omega)); k_whole); intro h' F' N'; (try k_sweep)))
local macro_rules | `(tactic| walk_at "truthy ref") => `(tactic| (k_here; (with_reducible show wpAny _ _ (truthy (Value.ref _)) _ _ _); k_dflt (refine' truthy_gen ?k1 ?k2 ?k3 ?_; (case k1 => k_asm); (case k2 => k_mem); (case k3 => ((try simp only [List.length_set, List.length_append, List.length_cons, List.length_nil]); omega)); k_whole)))
local macro_rules | `(tactic| walk_at "call builtin:list.pop") => `(tactic| (k_here; (with_reducible show wpAny _ _ (call (Value.builtin _) [Value.ref _]) _ _ _); refine Stop.mk ?_))
local macro_rules | `(tactic| walk_at "binaryOp FloorDiv int int") => `(tactic| (with_reducible refine half_int ?_))
local macro_rules | `(tactic| walk_at "call builtin:list.insert") => `(tactic| (k_here; (with_reducible show wpAny _ _ (call (Value.builtin _) [Value.ref _, Value.int _ _, _]) _ _ _); k_dflt (refine' insert_gen ?k1 ?k2 ?k3 ?k4 ?k5 ?k6 ?_; (case k1 => k_asm); (case k2 => k_asm); (case k5 => k_upd); (case k3 => omega); (case k4 => omega); (case k6 => omega); k_whole); intro h' F' N'; (try simp only [Int.toNat_natCast, toNat_succ, toNat_oa, toNat_oas] at N'); (try k_sweep)))
local macro_rules | `(tactic| k_all) => `(tactic| assumption)
local macro_rules | `(tactic| walk_at "exec For") => `(tactic| refine Stop.mk ?_)
local macro_rules | `(tactic| walk_at "exec For Name Name cons nil") => `(tactic| refine Stop.mk ?_)
local macro_rules | `(tactic| walk_at "exec For Name Call cons nil") => `(tactic| refine Stop.mk ?_)
local macro_rules | `(tactic| walk_at "pyIter ref") => `(tactic| refine Stop.mk ?_)
local macro_rules | `(tactic| walk_at "compareOp NotEq ref ref") => `(tactic| (k_here; (with_reducible show wpAny _ _ (compareOp CmpOp.NotEq (Value.ref _) (Value.ref _)) _ _ _); (refine' ne_intsK ?k1 ?k2 ?k3 ?k4 ?k5 ?_; (case k1 => first | is_list | exact News.isList (by k_asm) (by k_mem)); (case k2 => first | assumption | exact IntsAre.nil); (case k3 => first | is_list | exact News.isList (by k_asm) (by k_mem)); (case k4 => first | assumption | exact IntsAre.nil); (case k5 => first | omega | units_room); k_whole)))
local macro_rules | `(tactic| walk_at "exec Assign cons ListComp") => `(tactic| refine Stop.mk ?_)
local macro_rules | `(tactic| walk_at "eval ListComp") => `(tactic| refine Stop.mk ?_)
local macro_rules | `(tactic| walk_at "CompSrc") => `(tactic| refine Stop.mk ?_)
local macro_rules | `(tactic| walk_at "subscriptTail Call Name cons nil Slice ref ref") => `(tactic| refine Stop.mk ?_)
local macro_rules | `(tactic| walk_at "call builtin:list.extend") => `(tactic| refine Stop.mk ?_)
local macro_rules | `(tactic| walk_at "compareOp Eq ref ref") => `(tactic| (k_here; (with_reducible show wpAny _ _ (compareOp CmpOp.Eq (Value.ref _) (Value.ref _)) _ _ _); (refine' eq_intsK ?k1 ?k2 ?k3 ?k4 ?k5 ?_; (case k1 => first | is_list | exact News.isList (by k_asm) (by k_mem)); (case k2 => first | assumption | exact IntsAre.nil); (case k3 => first | is_list | exact News.isList (by k_asm) (by k_mem)); (case k4 => first | assumption | exact IntsAre.nil); (case k5 => first | omega | units_room); k_whole)))
theorem siftdown_spec {prog : Program} {w : World} {A : Around} {s : Shared} {h₀ : Heap} {L : Addr} {m : Str → Option Value} {rest : List (Addr × Obj)}
    {p : Program} {loose : List Str} {mean : ExcName → Option Value} {mg mb : Str → Option Value} {d : Nat} {Q : Value → Shared → Prop} {E : Value → Shared → Prop}
    {S : Value → Prop} {lt : Value → Value → Bool} {a : Addr} {vs : List Value} {n : Nat} {start pos : Nat} {ist ips : Int} {t1 t2 : Tok} (hst : ist = start) (hps : ips = pos)
    (C : At (hd10.heap_39 w.params) p loose mean mg mb A h₀ L (d + 1)) (F : Fr h₀ L s.heap m) (N : News h₀ L s.heap ((a, listOf vs.toArray n) :: rest)) (hsep : ∀ q ∈ rest, q.1 ≠ a)
    (hpos : pos < vs.length) (hlen : vs.length < 1000) (hS : ∀ v ∈ vs, S v) (hcmp : ∀ g : Heap, (∀ q ∈ rest, g.get? q.1 = some q.2) → h₀.StaysIn g → Cmp prog w g S lt)
    (hQ : ∀ h' tk, Fr h₀ L h' m → News h₀ L h' ((a, listOf (sd lt start (vs.getD pos .none) pos vs).toArray n) :: rest) → Q .none { s with heap := h', toks := tk }) :
    wpAny (model prog w) A (call (.ref 42) [.ref a, .int ist t1, .int ips t2]) Q E s := by
  subst hst hps
  w_top off
  refine' call_at (own := [(a, listOf vs.toArray n)]) (rest := rest) (binds := [(Str.ofString "heap", .ref a), (Str.ofString "startpos", .int start t1), (Str.ofString "pos", .int pos t2)]) C F N (fun p hp q hq e => ?hs) ?ho ?hcd ?hb ?hl ?_ ?h1 ?h2 ?h3 ?h4
  case ho => k_is
  case hcd => k_is
  case hb => exact BindsTo.of_eq rfl
  case hl => exact locs rfl
  case h1 => rfl
  case h2 => rfl
  case h3 => rfl
  case h4 => decide
  case hs =>
    obtain rfl := List.mem_singleton.mp hp
    exact hsep q hq e.symm
  intro g L' h₁ C' F' N' hr hst
  have hc := hcmp g hr hst
  have hx : S (vs.getD pos .none) := hS _ (getD_mem hpos)
  clear hcmp hsep F N hr hst
  obtain ⟨⟨A₀, base, outer, env, B', hA', hf', hk'⟩, X', T', hd', hu', hh'⟩ := C'
  repeat' (first | walk1 | (dsimp only; walk1))
  unfold Stop
  refine While_inv2 (fun n₁ m₁ news₁ => ∃ (p : Nat) (ws : List Value) (tp : Tok) (u : Str → Option Value),
      m₁ = kstB u [(Str.ofString "heap", .ref a), (Str.ofString "startpos", .int start t1), (Str.ofString "newitem", vs.getD pos .none), (Str.ofString "pos", .int p tp)] ∧
      news₁ = [(a, listOf ws.toArray n)] ∧ p < ws.length ∧ ws.length < 1000 ∧ (∀ v ∈ ws, S v) ∧ sd lt start (vs.getD pos .none) p ws = sd lt start (vs.getD pos .none) pos vs ∧ n₁ = p) (n₀ := pos) (by assumption) (by assumption) ?_ ?_
  · exact ⟨pos, vs, t2, _, kst_self (by kst_all), rfl, hpos, hlen, hS, rfl, rfl⟩
  · rintro n₁ m₁ news₁ h₂ tk₁ F₂ N₂ ⟨p, ws, tp, u, rfl, rfl, hp, hlen', hS', htgt, rfl⟩
    dsimp only [kstB] at F₂
    rw [sd] at htgt
    generalize vs.getD pos .none = x at *
    repeat' (first | walk1 | (dsimp only; walk1))
    · -- the test holds
      rename_i hlt _ _ _
      rw [dif_pos (by omega)] at htgt
      refine hc _ _ hx (hS' _ (getD_mem (by omega))) _ _ _ _ (by omega) (Fr.keep (by assumption)) ?_
      intro tk₂
      repeat' (first | walk1 | (dsimp only; walk1))
      · rename_i hl _ _ _ _
        rw [if_pos hl] at htgt
        dsimp only
        exact ⟨_, _, _, _, _, rfl, by assumption, by assumption, by omega, _, _, _, _, kst_self (by kst_all), rfl, by simp only [List.length_set]; omega, by simp only [List.length_set]; omega, all_set hS' (hS' _ (getD_mem (by omega))), htgt, rfl⟩
      · rename_i hl
        rw [if_neg (by rw [hl]; decide)] at htgt
        dsimp only [WhileStep2]
        repeat' (first | walk1 | (dsimp only; walk1))
        refine ⟨_, _, _, by assumption, by assumption, fun kF kN _ => ?_⟩
        rw [htgt] at kN
        exact hQ _ _ kF kN
    · rename_i hlt _ _ _
      rw [dif_neg (by omega)] at htgt
      refine ⟨_, _, _, by assumption, by assumption, fun kF kN _ => ?_⟩
      rw [htgt] at kN
      exact hQ _ _ kF kN

theorem siftup_spec {prog : Program} {w : World} {A : Around} {s : Shared} {h₀ : Heap} {L : Addr} {m : Str → Option Value} {rest : List (Addr × Obj)}
    {p : Program} {loose : List Str} {mean : ExcName → Option Value} {mg mb : Str → Option Value} {d : Nat} {Q : Value → Shared → Prop} {E : Value → Shared → Prop}
    {S : Value → Prop} {lt : Value → Value → Bool} {a : Addr} {vs : List Value} {n : Nat} {pos : Nat} {ips : Int} {t2 : Tok} (hps : ips = pos)
    (C : At (hd10.heap_39 w.params) p loose mean mg mb A h₀ L (d + 2)) (F : Fr h₀ L s.heap m) (N : News h₀ L s.heap ((a, listOf vs.toArray n) :: rest)) (hsep : ∀ q ∈ rest, q.1 ≠ a)
    (hpos : pos < vs.length) (hlen : vs.length < 1000) (hS : ∀ v ∈ vs, S v) (hcmp : ∀ g : Heap, (∀ q ∈ rest, g.get? q.1 = some q.2) → h₀.StaysIn g → Cmp prog w g S lt)
    (hQ : ∀ h' tk, Fr h₀ L h' m → News h₀ L h' ((a, listOf (sup lt pos vs).toArray n) :: rest) → Q .none { s with heap := h', toks := tk }) :
    wpAny (model prog w) A (call (.ref 49) [.ref a, .int ips t2]) Q E s := by
  subst hps
  w_top off
  refine' call_at (own := [(a, listOf vs.toArray n)]) (rest := rest) (binds := [(Str.ofString "heap", .ref a), (Str.ofString "pos", .int pos t2)]) C F N (fun p hp q hq e => ?hs) ?ho ?hcd ?hb ?hl ?_ ?h1 ?h2 ?h3 ?h4
  case ho => k_is
  case hcd => k_is
  case hb => exact BindsTo.of_eq rfl
  case hl => exact locs rfl
  case h1 => rfl
  case h2 => rfl
  case h3 => rfl
  case h4 => decide
  case hs =>
    obtain rfl := List.mem_singleton.mp hp
    exact hsep q hq e.symm
  intro g L' h₁ C' F' N' hr hst
  have hc := hcmp g hr hst
  have hx : S (vs.getD pos .none) := hS _ (getD_mem hpos)
  clear hcmp hsep F N hr hst
  have C1 := C'
  obtain ⟨⟨A₀, base, outer, env, B', hA', hf', hk'⟩, X', T', hd', hu', hh'⟩ := C1
  repeat' (first | walk1 | (dsimp only; walk1))
  unfold Stop
  refine While_inv2 (fun n₁ m₁ news₁ => ∃ (p : Nat) (ws : List Value) (tp t3 t4 t5 : Tok) (u : Str → Option Value),
      m₁ = kstB u [(Str.ofString "heap", .ref a), (Str.ofString "startpos", .int pos t3), (Str.ofString "endpos", .int vs.length t4), (Str.ofString "newitem", vs.getD pos .none), (Str.ofString "pos", .int p tp), (Str.ofString "childpos", .int ((2 * p + 1 : Nat) : Int) t5)] ∧
      news₁ = [(a, listOf ws.toArray n)] ∧ p < ws.length ∧ ws.length = vs.length ∧ (∀ v ∈ ws, S v) ∧ su lt p ws = su lt pos vs ∧ n₁ = vs.length - p) (n₀ := vs.length - pos) (by assumption) (by assumption) ?_ ?_
  · exact ⟨pos, vs, _, _, _, _, _, kst_self (by kst_all), rfl, hpos, rfl, hS, rfl, rfl⟩
  · rintro n₁ m₁ news₁ h₂ tk₁ F₂ N₂ ⟨p, ws, tp, t3, t4, t5, u, rfl, rfl, hp, hlen', hS', htgt, rfl⟩
    dsimp only [kstB] at F₂
    rw [su] at htgt
    repeat' (first | walk1 | (dsimp only; walk1))
    · rename_i h1 _ _ _ h2
      rw [dif_pos (by omega)] at htgt
      refine hc _ _ (hS' _ (getD_mem (by omega))) (hS' _ (getD_mem (by omega))) _ _ _ _ (by omega) (Fr.keep (by assumption)) ?_
      intro tk₂
      repeat' (first | walk1 | (dsimp only; walk1))
      · rename lt _ _ = true => h3
        rw [dif_neg (by rw [h3]; simp)] at htgt
        exact ⟨_, _, _, _, _, rfl, by assumption, by assumption, by omega, _, _, _, _, _, _, _, kst_self (by kst_all), rfl, by simp only [List.length_set]; omega, by simp only [List.length_set]; omega, all_set hS' (hS' _ (getD_mem (by omega))), htgt, rfl⟩
      · rename lt _ _ = false => h3
        rw [dif_pos ⟨by omega, h3⟩] at htgt
        exact ⟨_, _, _, _, _, rfl, by assumption, by assumption, by omega, _, _, _, _, _, _, _, kst_self (by kst_all), rfl, by simp only [List.length_set]; omega, by simp only [List.length_set]; omega, all_set hS' (hS' _ (getD_mem (by omega))), htgt, rfl⟩
    · rename_i h1 _ h2 _ _ _ _ _ _ _
      rw [dif_pos (by omega), dif_neg (by omega)] at htgt
      exact ⟨_, _, _, _, _, rfl, by assumption, by assumption, by omega, _, _, _, _, _, _, _, kst_self (by kst_all), rfl, by simp only [List.length_set]; omega, by simp only [List.length_set]; omega, all_set hS' (hS' _ (getD_mem (by omega))), htgt, rfl⟩
    · rename_i h1 _ _ _
      rw [dif_neg (by omega)] at htgt
      refine siftdown_spec (S := S) (lt := lt) (rest := []) rfl rfl C' (by assumption) (by assumption) (fun q hq => nomatch hq) (by simp only [List.length_set]; omega) (by simp only [List.length_set]; omega) (all_set hS' hx) (fun g' _ hs => hc.mono hs) ?_
      intro h' tk kF kN
      repeat' (first | walk1 | (dsimp only; walk1))
      refine ⟨_, _, _, kF, kN, fun kF kN _ => ?_⟩
      have e : (ws.set p (vs.getD pos Value.none)).getD p Value.none = vs.getD pos .none := by
        simp [List.getD, hp]
      rw [e] at kN
      have e2 : sd lt pos (vs.getD pos Value.none) p (ws.set p (vs.getD pos Value.none)) = sup lt pos vs := by
        rw [sup, ← htgt]
      rw [e2] at kN
      exact hQ _ _ kF kN

theorem heappush_spec {prog : Program} {w : World} {A : Around} {s : Shared} {h₀ : Heap} {L : Addr} {m : Str → Option Value} {rest : List (Addr × Obj)} {p : Program} {loose : List Str} {mean : ExcName → Option Value} {mg mb : Str → Option Value} {d : Nat} {Q : Value → Shared → Prop} {E : Value → Shared → Prop} {S : Value → Prop} {lt : Value → Value → Bool} {a : Addr} {vs : List Value} {n : Nat} {x : Value}
    (C : At (hd10.heap_39 w.params) p loose mean mg mb A h₀ L (d + 2)) (F : Fr h₀ L s.heap m) (N : News h₀ L s.heap ((a, listOf vs.toArray n) :: rest)) (hsep : ∀ q ∈ rest, q.1 ≠ a)
    (hlen : vs.length < 990) (hS : ∀ v ∈ vs, S v) (hx : S x) (hcmp : ∀ g : Heap, (∀ q ∈ rest, g.get? q.1 = some q.2) → h₀.StaysIn g → Cmp prog w g S lt)
    (hQ : ∀ h' tk, Fr h₀ L h' m → News h₀ L h' ((a, listOf (hpush lt vs x).toArray (n + 1)) :: rest) → Q .none { s with heap := h', toks := tk }) :
    wpAny (model prog w) A (call (.ref 21) [.ref a, x]) Q E s := by
  obtain ⟨hnd, dp, fr0, gd0, un0⟩ := A
  obtain rfl : hnd = none := C.hh
  obtain ⟨A₁, base₁, outer₁, env₁, B₁, hA₁, hf₁, hk₁⟩ := C.ex
  obtain rfl : fr0 = _ := hA₁
  w_top off
  refine' call_at (own := [(a, listOf vs.toArray n)]) (rest := rest) (binds := [(Str.ofString "heap", .ref a), (Str.ofString "item", x)]) C F N (fun p hp q hq e => ?hs) ?ho ?hcd ?hb ?hl ?_ ?h1 ?h2 ?h3 ?h4
  case ho => k_is
  case hcd => k_is
  case hb => exact BindsTo.of_eq rfl
  case hl => exact locs rfl
  case h1 => rfl
  case h2 => rfl
  case h3 => rfl
  case h4 => decide
  case hs =>
    obtain rfl := List.mem_singleton.mp hp
    exact hsep q hq e.symm
  intro g L' h₁ C' F' N' hr hst
  have C1 := C'
  obtain ⟨⟨A₀, base, outer, env, B', hA', hf', hk'⟩, X', T', hd', hu', hh'⟩ := C1
  have hc := hcmp g hr hst
  clear hcmp hsep F N hr hst
  repeat' (first | walk1 | (dsimp only; walk1))
  unfold Stop
  refine siftdown_spec (S := S) (lt := lt) (rest := []) (start := 0) (pos := vs.length) rfl (by simp) C' (by assumption) (by assumption) (fun q hq => nomatch hq) (by simp) (by simp; omega) (fun v hv => ?_) (fun g' _ hs => hc.mono hs) ?_
  · rcases List.mem_append.mp hv with h | h
    · exact hS v h
    · exact (List.mem_singleton.mp h) ▸ hx
  intro h' tk kF kN
  repeat' (first | walk1 | (dsimp only; walk1))
  have e : (vs ++ [x]).getD vs.length .none = x := by simp [List.getD]
  rw [e] at kN
  exact ⟨_, _, _, kF, kN, fun kF kN _ => hQ _ _ kF kN⟩

theorem heappop_spec {prog : Program} {w : World} {A : Around} {s : Shared} {h₀ : Heap} {L : Addr} {m : Str → Option Value} {rest : List (Addr × Obj)} {p : Program} {loose : List Str} {mean : ExcName → Option Value} {mg mb : Str → Option Value} {d : Nat} {Q : Value → Shared → Prop} {E : Value → Shared → Prop} {S : Value → Prop} {lt : Value → Value → Bool} {a : Addr} {vs : List Value} {n : Nat} {ws : List Value} {y : Value} (hvs : vs = ws ++ [y])
    (C : At (hd10.heap_39 w.params) p loose mean mg mb A h₀ L (d + 3)) (F : Fr h₀ L s.heap m) (N : News h₀ L s.heap ((a, listOf vs.toArray n) :: rest)) (hsep : ∀ q ∈ rest, q.1 ≠ a)
    (hlen : vs.length < 990) (hS : ∀ v ∈ vs, S v) (hcmp : ∀ g : Heap, (∀ q ∈ rest, g.get? q.1 = some q.2) → h₀.StaysIn g → Cmp prog w g S lt)
    (hQ : ∀ h' tk, Fr h₀ L h' m → News h₀ L h' ((a, listOf (hpop lt ws y).2.toArray (n + 1)) :: rest) → Q (hpop lt ws y).1 { s with heap := h', toks := tk }) :
    wpAny (model prog w) A (call (.ref 28) [.ref a]) Q E s := by
  obtain ⟨hnd, dp, fr0, gd0, un0⟩ := A
  obtain rfl : hnd = none := C.hh
  obtain ⟨A₁, base₁, outer₁, env₁, B₁, hA₁, hf₁, hk₁⟩ := C.ex
  obtain rfl : fr0 = _ := hA₁
  w_top off
  refine' call_at (own := [(a, listOf vs.toArray n)]) (rest := rest) (binds := [(Str.ofString "heap", .ref a)]) C F N (fun p hp q hq e => ?hs) ?ho ?hcd ?hb ?hl ?_ ?h1 ?h2 ?h3 ?h4
  case ho => k_is
  case hcd => k_is
  case hb => exact BindsTo.of_eq rfl
  case hl => exact locs rfl
  case h1 => rfl
  case h2 => rfl
  case h3 => rfl
  case h4 => decide
  case hs =>
    obtain rfl := List.mem_singleton.mp hp
    exact hsep q hq e.symm
  intro g L' h₁ C' F' N' hr hst
  have C1 := C'
  obtain ⟨⟨A₀, base, outer, env, B', hA', hf', hk'⟩, X', T', hd', hu', hh'⟩ := C1
  have hc := hcmp g hr hst
  have hy : S y := hS y (by rw [hvs]; simp)
  have hlw : ws.length + 1 = vs.length := by rw [hvs]; simp
  have hSw : ∀ v ∈ ws, S v := fun v hv => hS v (by rw [hvs]; simp [hv])
  clear hcmp hsep F N hr hst
  repeat' (first | walk1 | (dsimp only; walk1))
  unfold Stop
  refine pop_gen (by assumption) (by assumption) hvs (by k_upd) (by omega) ?_
  intro h2 F2 N2
  repeat' (first | walk1 | (dsimp only; walk1))
  · rename ws ≠ [] => hne
    have hl0 : 0 < ws.length := List.length_pos_iff.mpr hne
    repeat' (first | walk1 | (dsimp only; walk1))
    unfold Stop
    refine siftup_spec (S := S) (lt := lt) (rest := []) (pos := 0) rfl C' (by assumption) (by assumption) (fun q hq => nomatch hq) (by simp only [List.length_set]; omega) (by simp only [List.length_set]; omega) (all_set hSw hy) (fun g' _ hs => hc.mono hs) ?_
    intro h' tk kF kN
    repeat' (first | walk1 | (dsimp only; walk1))
    dsimp only
    refine ⟨_, _, _, kF, kN, fun kF kN _ => ?_⟩
    have e : hpop lt ws y = (ws.getD 0 .none, sup lt 0 (ws.set 0 y)) := by rw [hpop, if_neg hne]
    rw [e] at hQ
    exact hQ _ _ kF kN
  · rename ¬ ws ≠ [] => hne
    have hne' : ws = [] := by simpa using hne
    subst hne'
    dsimp only
    exact ⟨_, _, _, by assumption, by assumption, fun kF kN _ => hQ _ _ kF kN⟩

theorem heappushpop_spec {prog : Program} {w : World} {A : Around} {s : Shared} {h₀ : Heap} {L : Addr} {m : Str → Option Value} {rest : List (Addr × Obj)} {p : Program} {loose : List Str} {mean : ExcName → Option Value} {mg mb : Str → Option Value} {d : Nat} {Q : Value → Shared → Prop} {E : Value → Shared → Prop} {S : Value → Prop} {lt : Value → Value → Bool} {a : Addr} {vs : List Value} {n : Nat} {x : Value}
    (C : At (hd10.heap_39 w.params) p loose mean mg mb A h₀ L (d + 3)) (F : Fr h₀ L s.heap m) (N : News h₀ L s.heap ((a, listOf vs.toArray n) :: rest)) (hsep : ∀ q ∈ rest, q.1 ≠ a)
    (hlen : vs.length < 990) (hS : ∀ v ∈ vs, S v) (hx : S x) (hcmp : ∀ g : Heap, (∀ q ∈ rest, g.get? q.1 = some q.2) → h₀.StaysIn g → Cmp prog w g S lt)
    (hQ : ∀ h' tk, Fr h₀ L h' m → News h₀ L h' ((a, listOf (hppop lt vs x).2.toArray n) :: rest) → Q (hppop lt vs x).1 { s with heap := h', toks := tk }) :
    wpAny (model prog w) A (call (.ref 35) [.ref a, x]) Q E s := by
  obtain ⟨hnd, dp, fr0, gd0, un0⟩ := A
  obtain rfl : hnd = none := C.hh
  obtain ⟨A₁, base₁, outer₁, env₁, B₁, hA₁, hf₁, hk₁⟩ := C.ex
  obtain rfl : fr0 = _ := hA₁
  w_top off
  refine' call_at (own := [(a, listOf vs.toArray n)]) (rest := rest) (binds := [(Str.ofString "heap", .ref a), (Str.ofString "item", x)]) C F N (fun p hp q hq e => ?hs) ?ho ?hcd ?hb ?hl ?_ ?h1 ?h2 ?h3 ?h4
  case ho => k_is
  case hcd => k_is
  case hb => exact BindsTo.of_eq rfl
  case hl => exact locs rfl
  case h1 => rfl
  case h2 => rfl
  case h3 => rfl
  case h4 => decide
  case hs =>
    obtain rfl := List.mem_singleton.mp hp
    exact hsep q hq e.symm
  intro g L' h₁ C' F' N' hr hst
  have C1 := C'
  obtain ⟨⟨A₀, base, outer, env, B', hA', hf', hk'⟩, X', T', hd', hu', hh'⟩ := C1
  have hc := hcmp g hr hst
  clear hcmp hsep F N hr hst
  repeat' (first | walk1 | (dsimp only; walk1))
  · rename vs ≠ [] => hne
    have hl0 : 0 < vs.length := List.length_pos_iff.mpr hne
    repeat' (first | walk1 | (dsimp only; walk1))
    unfold Stop
    refine hc _ _ (hS _ (getD_mem hl0)) hx _ _ _ _ (by omega) (Fr.keep (by assumption)) ?_
    intro tk₂
    repeat' (first | walk1 | (dsimp only; walk1))
    · rename lt _ _ = true => h3
      rename News g L' _ _ => N9
      unfold Stop
      refine siftup_spec (S := S) (lt := lt) (vs := vs.set 0 x) (n := n) (rest := []) (pos := 0) rfl C' (by assumption) (cb_drop N9 (fun p hp => .tail _ hp)) (fun q hq => nomatch hq) (by simp only [List.length_set]; omega) (by simp only [List.length_set]; omega) (all_set hS hx) (fun g' _ hs => hc.mono hs) ?_
      intro h' tk kF kN
      repeat' (first | walk1 | (dsimp only; walk1))
      dsimp only
      refine ⟨_, _, _, kF, kN, fun kF kN _ => ?_⟩
      have e : hppop lt vs x = (vs.getD 0 .none, sup lt 0 (vs.set 0 x)) := by rw [hppop, if_pos ⟨hne, h3⟩]
      rw [e] at hQ
      exact hQ _ _ kF kN
    · rename lt _ _ = false => h3
      have e : hppop lt vs x = (x, vs) := by rw [hppop, if_neg]; rintro ⟨_, h4⟩; rw [h3] at h4; cases h4
      rw [e] at hQ
      dsimp only
      exact ⟨_, _, _, by assumption, by assumption, fun kF kN _ => hQ _ _ kF kN⟩
  · rename ¬ vs ≠ [] => hne
    have e : hppop lt vs x = (x, vs) := by rw [hppop, if_neg (fun h => hne h.1)]
    rw [e] at hQ
    dsimp only
    exact ⟨_, _, _, by assumption, by assumption, fun kF kN _ => hQ _ _ kF kN⟩

theorem bisect_right_spec {prog : Program} {w : World} {A : Around} {s : Shared} {h₀ : Heap} {L : Addr} {m : Str → Option Value} {rest : List (Addr × Obj)} {p : Program} {loose : List Str} {mean : ExcName → Option Value} {mg mb : Str → Option Value} {d : Nat} {Q : Value → Shared → Prop} {E : Value → Shared → Prop} {S : Value → Prop} {lt : Value → Value → Bool} {a : Addr} {vs : List Value} {n : Nat} {x : Value}
    (C : At (hd10.heap_39 w.params) p loose mean mg mb A h₀ L (d + 1)) (F : Fr h₀ L s.heap m) (N : News h₀ L s.heap ((a, listOf vs.toArray n) :: rest)) (hsep : ∀ q ∈ rest, q.1 ≠ a)
    (hlen : vs.length < 990) (hS : ∀ v ∈ vs, S v) (hx : S x) (hcmp : ∀ g : Heap, (∀ q ∈ rest, g.get? q.1 = some q.2) → h₀.StaysIn g → Cmp prog w g S lt)
    (hQ : ∀ h' tk t, Fr h₀ L h' m → News h₀ L h' ((a, listOf vs.toArray n) :: rest) → Q (.int (bisR lt x vs 0 vs.length : Nat) t) { s with heap := h', toks := tk }) :
    wpAny (model prog w) A (call (.ref 58) [.ref a, x]) Q E s := by
  obtain ⟨hnd, dp, fr0, gd0, un0⟩ := A
  obtain rfl : hnd = none := C.hh
  obtain ⟨A₁, base₁, outer₁, env₁, B₁, hA₁, hf₁, hk₁⟩ := C.ex
  obtain rfl : fr0 = _ := hA₁
  w_top off
  refine' call_at (own := [(a, listOf vs.toArray n)]) (rest := rest) (binds := [(Str.ofString "a", .ref a), (Str.ofString "x", x), (Str.ofString "lo", .int 0 241), (Str.ofString "hi", .none), (Str.ofString "key", .none)]) C F N (fun p hp q hq e => ?hs) ?ho ?hcd ?hb ?hl ?_ ?h1 ?h2 ?h3 ?h4
  case ho => k_is
  case hcd => k_is
  case hb => exact kp_binds (C.X.keeps F.keep) (fun _ => rfl)
  case hl => exact locs rfl
  case h1 => rfl
  case h2 => rfl
  case h3 => rfl
  case h4 => decide
  case hs =>
    obtain rfl := List.mem_singleton.mp hp
    exact hsep q hq e.symm
  intro g L' h₁ C' F' N' hr hst
  have C1 := C'
  obtain ⟨⟨A₀, base, outer, env, B', hA', hf', hk'⟩, X', T', hd', hu', hh'⟩ := C1
  have hc := hcmp g hr hst
  clear hcmp hsep F N hr hst
  repeat' (first | walk1 | (dsimp only; walk1))
  unfold Stop
  refine While_inv2 (fun n₁ m₁ news₁ => ∃ (lo hi : Nat) (t1 t2 : Tok) (u : Str → Option Value),
      m₁ = kstB u [(Str.ofString "a", .ref a), (Str.ofString "x", x), (Str.ofString "lo", .int lo t1), (Str.ofString "hi", .int hi t2)] ∧
      news₁ = [(a, listOf vs.toArray n)] ∧ lo ≤ hi ∧ hi ≤ vs.length ∧ bisR lt x vs lo hi = bisR lt x vs 0 vs.length ∧ n₁ = hi - lo) (n₀ := vs.length - 0) (by assumption) (by assumption) ?_ ?_
  · exact ⟨0, vs.length, _, _, _, kst_self (by kst_all), rfl, by omega, by omega, rfl, rfl⟩
  · rintro n₁ m₁ news₁ h₂ tk₁ F₂ N₂ ⟨lo1, hi1, t1, t2, u, rfl, rfl, hlh, hhi, htgt, rfl⟩
    dsimp only [kstB] at F₂
    rw [bisR] at htgt
    repeat' (first | walk1 | (dsimp only; walk1))
    · rename (lo1 : Int) < (hi1 : Int) => h1
      rw [dif_pos (by omega)] at htgt
      refine hc _ _ hx (hS _ (getD_mem (by omega))) _ _ _ _ (by omega) (Fr.keep (by assumption)) ?_
      intro tk₂
      repeat' (first | walk1 | (dsimp only; walk1))
      · rename lt x _ = true => h3
        rw [if_pos h3] at htgt
        exact ⟨_, _, _, _, _, rfl, by assumption, by assumption, by omega, _, _, _, _, _, kst_self (by kst_all), rfl, by omega, by omega, htgt, rfl⟩
      · rename lt x _ = false => h3
        rw [if_neg (by rw [h3]; decide)] at htgt
        exact ⟨_, _, _, _, _, rfl, by assumption, by assumption, by omega, _, _, _, _, _, kst_self (by kst_all), rfl, by omega, by omega, htgt, rfl⟩
    · rename ¬ (lo1 : Int) < (hi1 : Int) => h1
      rw [dif_neg (by omega)] at htgt
      dsimp only
      rw [htgt]
      exact ⟨_, _, _, by assumption, by assumption, fun kF kN _ => hQ _ _ _ kF kN⟩

theorem bisect_left_spec {prog : Program} {w : World} {A : Around} {s : Shared} {h₀ : Heap} {L : Addr} {m : Str → Option Value} {rest : List (Addr × Obj)} {p : Program} {loose : List Str} {mean : ExcName → Option Value} {mg mb : Str → Option Value} {d : Nat} {Q : Value → Shared → Prop} {E : Value → Shared → Prop} {S : Value → Prop} {lt : Value → Value → Bool} {a : Addr} {vs : List Value} {n : Nat} {x : Value} {tl : Tok}
    (C : At (hd10.heap_39 w.params) p loose mean mg mb A h₀ L (d + 1)) (F : Fr h₀ L s.heap m) (N : News h₀ L s.heap ((a, listOf vs.toArray n) :: rest)) (hsep : ∀ q ∈ rest, q.1 ≠ a)
    (hlen : vs.length < 990) (hS : ∀ v ∈ vs, S v) (hx : S x) (hcmp : ∀ g : Heap, (∀ q ∈ rest, g.get? q.1 = some q.2) → h₀.StaysIn g → Cmp prog w g S lt)
    (hQ : ∀ h' tk t, Fr h₀ L h' m → News h₀ L h' ((a, listOf vs.toArray n) :: rest) → Q (.int (bisL lt x vs 0 vs.length : Nat) t) { s with heap := h', toks := tk }) :
    wpAny (model prog w) A (call (.ref 76) [.ref a, x, .int 0 tl, .none]) Q E s := by
  obtain ⟨hnd, dp, fr0, gd0, un0⟩ := A
  obtain rfl : hnd = none := C.hh
  obtain ⟨A₁, base₁, outer₁, env₁, B₁, hA₁, hf₁, hk₁⟩ := C.ex
  obtain rfl : fr0 = _ := hA₁
  w_top off
  refine' call_at (own := [(a, listOf vs.toArray n)]) (rest := rest) (binds := [(Str.ofString "a", .ref a), (Str.ofString "x", x), (Str.ofString "lo", .int 0 tl), (Str.ofString "hi", .none), (Str.ofString "key", .none)]) C F N (fun p hp q hq e => ?hs) ?ho ?hcd ?hb ?hl ?_ ?h1 ?h2 ?h3 ?h4
  case ho => k_is
  case hcd => k_is
  case hb => exact kp_binds (C.X.keeps F.keep) (fun _ => rfl)
  case hl => exact locs rfl
  case h1 => rfl
  case h2 => rfl
  case h3 => rfl
  case h4 => decide
  case hs =>
    obtain rfl := List.mem_singleton.mp hp
    exact hsep q hq e.symm
  intro g L' h₁ C' F' N' hr hst
  have C1 := C'
  obtain ⟨⟨A₀, base, outer, env, B', hA', hf', hk'⟩, X', T', hd', hu', hh'⟩ := C1
  have hc := hcmp g hr hst
  clear hcmp hsep F N hr hst
  repeat' (first | walk1 | (dsimp only; walk1))
  unfold Stop
  refine While_inv2 (fun n₁ m₁ news₁ => ∃ (lo hi : Nat) (t1 t2 : Tok) (u : Str → Option Value),
      m₁ = kstB u [(Str.ofString "a", .ref a), (Str.ofString "x", x), (Str.ofString "lo", .int lo t1), (Str.ofString "hi", .int hi t2)] ∧
      news₁ = [(a, listOf vs.toArray n)] ∧ lo ≤ hi ∧ hi ≤ vs.length ∧ bisL lt x vs lo hi = bisL lt x vs 0 vs.length ∧ n₁ = hi - lo) (n₀ := vs.length - 0) (by assumption) (by assumption) ?_ ?_
  · exact ⟨0, vs.length, _, _, _, kst_self (by kst_all), rfl, by omega, by omega, rfl, rfl⟩
  · rintro n₁ m₁ news₁ h₂ tk₁ F₂ N₂ ⟨lo1, hi1, t1, t2, u, rfl, rfl, hlh, hhi, htgt, rfl⟩
    dsimp only [kstB] at F₂
    rw [bisL] at htgt
    repeat' (first | walk1 | (dsimp only; walk1))
    · rename (lo1 : Int) < (hi1 : Int) => h1
      rw [dif_pos (by omega)] at htgt
      refine hc _ _ (hS _ (getD_mem (by omega))) hx _ _ _ _ (by omega) (Fr.keep (by assumption)) ?_
      intro tk₂
      repeat' (first | walk1 | (dsimp only; walk1))
      · rename lt _ x = true => h3
        rw [if_pos h3] at htgt
        exact ⟨_, _, _, _, _, rfl, by assumption, by assumption, by omega, _, _, _, _, _, kst_self (by kst_all), rfl, by omega, by omega, htgt, rfl⟩
      · rename lt _ x = false => h3
        rw [if_neg (by rw [h3]; decide)] at htgt
        exact ⟨_, _, _, _, _, rfl, by assumption, by assumption, by omega, _, _, _, _, _, kst_self (by kst_all), rfl, by omega, by omega, htgt, rfl⟩
    · rename ¬ (lo1 : Int) < (hi1 : Int) => h1
      rw [dif_neg (by omega)] at htgt
      dsimp only
      rw [htgt]
      exact ⟨_, _, _, by assumption, by assumption, fun kF kN _ => hQ _ _ _ kF kN⟩

theorem insort_left_spec {prog : Program} {w : World} {A : Around} {s : Shared} {h₀ : Heap} {L : Addr} {m : Str → Option Value} {rest : List (Addr × Obj)} {p : Program} {loose : List Str} {mean : ExcName → Option Value} {mg mb : Str → Option Value} {d : Nat} {Q : Value → Shared → Prop} {E : Value → Shared → Prop} {S : Value → Prop} {lt : Value → Value → Bool} {a : Addr} {vs : List Value} {n : Nat} {x : Value}
    (C : At (hd10.heap_39 w.params) p loose mean mg mb A h₀ L (d + 2)) (F : Fr h₀ L s.heap m) (N : News h₀ L s.heap ((a, listOf vs.toArray n) :: rest)) (hsep : ∀ q ∈ rest, q.1 ≠ a)
    (hlen : vs.length < 980) (hS : ∀ v ∈ vs, S v) (hx : S x) (hcmp : ∀ g : Heap, (∀ q ∈ rest, g.get? q.1 = some q.2) → h₀.StaysIn g → Cmp prog w g S lt)
    (hQ : ∀ h' tk, Fr h₀ L h' m → News h₀ L h' ((a, listOf (insL lt vs x).toArray (n + 1)) :: rest) → Q .none { s with heap := h', toks := tk }) :
    wpAny (model prog w) A (call (.ref 67) [.ref a, x]) Q E s := by
  obtain ⟨hnd, dp, fr0, gd0, un0⟩ := A
  obtain rfl : hnd = none := C.hh
  obtain ⟨A₁, base₁, outer₁, env₁, B₁, hA₁, hf₁, hk₁⟩ := C.ex
  obtain rfl : fr0 = _ := hA₁
  w_top off
  refine' call_at (own := [(a, listOf vs.toArray n)]) (rest := rest) (binds := [(Str.ofString "a", .ref a), (Str.ofString "x", x), (Str.ofString "lo", .int 0 255), (Str.ofString "hi", .none), (Str.ofString "key", .none)]) C F N (fun p hp q hq e => ?hs) ?ho ?hcd ?hb ?hl ?_ ?h1 ?h2 ?h3 ?h4
  case ho => k_is
  case hcd => k_is
  case hb => exact kp_binds (C.X.keeps F.keep) (fun _ => rfl)
  case hl => exact locs rfl
  case h1 => rfl
  case h2 => rfl
  case h3 => rfl
  case h4 => decide
  case hs =>
    obtain rfl := List.mem_singleton.mp hp
    exact hsep q hq e.symm
  intro g L' h₁ C' F' N' hr hst
  have C1 := C'
  obtain ⟨⟨A₀, base, outer, env, B', hA', hf', hk'⟩, X', T', hd', hu', hh'⟩ := C1
  have hc := hcmp g hr hst
  clear hcmp hsep F N hr hst
  repeat' (first | walk1 | (dsimp only; walk1))
  unfold Stop
  refine bisect_left_spec (S := S) (lt := lt) (rest := []) C' (by assumption) (by assumption) (fun q hq => nomatch hq) (by omega) hS hx (fun g' _ hs => hc.mono hs) ?_
  intro h' tk t kF kN
  have hb := bisL_le (lt := lt) (x := x) (vs := vs) (Nat.zero_le vs.length)
  repeat' (first | walk1 | (dsimp only; walk1))
  exact ⟨_, _, _, by assumption, by assumption, fun kF kN _ => hQ _ _ kF kN⟩
theorem gahead_spec {prog : Program} {w : World} {A : Around} {s : Shared} {h₀ : Heap} {L : Addr} {m : Str → Option Value} {rest : List (Addr × Obj)} {p : Program} {loose : List Str} {mean : ExcName → Option Value} {mg mb : Str → Option Value} {d : Nat} {Q : Value → Shared → Prop} {E : Value → Shared → Prop} {S : Value → Prop} {lt : Value → Value → Bool} {a : Addr} {vs : List Value} {n : Nat}
    (C : At (hd10.heap_39 w.params) p loose mean mg mb A h₀ L (d + 4)) (F : Fr h₀ L s.heap m) (N : News h₀ L s.heap rest) (hm : (a, listOf vs.toArray n) ∈ rest)
    (hlen : vs.length < 900) (hS : ∀ v ∈ vs, S v) (hcmp : ∀ g : Heap, Cmp prog w g S lt)
    (hQ : ∀ h' tk t ts k, Fr h₀ L h' m → News h₀ L h' ((t, listOf ts.toArray k) :: rest) → (∀ q ∈ rest, t ≠ q.1) → IntsAre ts (gaFold lt vs).2 → Q (.ref t) { s with heap := h', toks := tk }) :
    wpAny (model prog w) A (call (.ref 83) [.ref a]) Q E s := by
  obtain ⟨hnd, dp, fr0, gd0, un0⟩ := A
  obtain rfl : hnd = none := C.hh
  obtain ⟨A₁, base₁, outer₁, env₁, B₁, hA₁, hf₁, hk₁⟩ := C.ex
  obtain rfl : fr0 = _ := hA₁
  w_top off
  refine' call_at (own := []) (rest := rest) (binds := [(Str.ofString "row", .ref a)]) C F N (fun p hp q hq e => ?hs) ?ho ?hcd ?hb ?hl ?_ ?h1 ?h2 ?h3 ?h4
  case ho => k_is
  case hcd => k_is
  case hb => exact BindsTo.of_eq rfl
  case hl => exact locs rfl
  case h1 => rfl
  case h2 => rfl
  case h3 => rfl
  case h4 => decide
  case hs => cases hp
  intro g L' h₁ C' F' N' hr hst
  have C1 := C'
  obtain ⟨⟨A₀, base, outer, env, B', hA', hf', hk'⟩, X', T', hd', hu', hh'⟩ := C1
  have hlr : g.IsList a vs.toArray := PySem.IsL.isList (n := n) (hr _ hm)
  have hlt : a < g.objs.size := Heap.lt_size (hr _ hm)
  repeat' (first | walk1 | (dsimp only; walk1))
  unfold Stop
  rename News g L' _ _ => N3
  rename Fr g L' _ _ => F3
  refine For_invV g rfl rfl ?_
  repeat' (first | walk1 | (dsimp only; walk1))
  unfold Stop
  rename_i kA hA1 hA2 hA3 tA hA4 hkt hA5
  have hgl := gaFold_len lt
  refine iter_list (kept := []) (news := [(kA, listOf ([] : List Value).toArray 0), (tA, listOf ([] : List Value).toArray 0)]) (vs := vs) rfl (F3.lst hlr) (Nat.ne_of_lt (Nat.lt_of_lt_of_le hlt F3.above)) F3 (cb_drop N3 (fun p hp => by simp at hp ⊢; rcases hp with rfl | rfl <;> simp)) (fun _ hp => nomatch hp) ?_
    (fun i m₁ var => ∃ ts nk nt u, m₁ = kstB u [(Str.ofString "row", .ref a), (Str.ofString "kept", .ref kA), (Str.ofString "table", .ref tA)] ∧ var = [(kA, listOf (gaFold lt (vs.take i)).1.toArray nk), (tA, listOf ts.toArray nt)] ∧ IntsAre ts (gaFold lt (vs.take i)).2) ?_ ?_ ?_
  · intro q hq e
    have h1 := (N3 q (by simp at hq ⊢; rcases hq with rfl | rfl <;> simp)).2.2
    rw [e, hr _ hm] at h1
    cases h1
  · exact ⟨[], 0, 0, _, kst_self (by kst_all), rfl, .nil⟩
  · rintro i v m₁ var h tk own hv ⟨ts, nk, nt, u, rfl, rfl, hts⟩ _ hso F₁ N₁
    obtain ⟨hilt, rfl⟩ := List.getElem?_eq_some_iff.mp hv
    have hsv : S vs[i] := hS _ (List.getElem_mem hilt)
    have hok : ∀ p ∈ own, p.1 ≠ kA := fun p hp => hso p hp (kA, _) (.head _)
    have hot : ∀ p ∈ own, p.1 ≠ tA := fun p hp => hso p hp (tA, _) (.tail _ (.head _))
    have hSk := gaFold_mem (lt := lt) (S := S) (vs.take i) (fun v hv => hS v (List.mem_of_mem_take hv))
    have hlk := (hgl (vs.take i)).1
    have hlt2 := (hgl (vs.take i)).2
    have hlt3 := hts.length
    rw [List.length_take] at hlk hlt2
    dsimp only [kstB] at F₁
    simp only [List.cons_append, List.nil_append] at N₁
    change Fr g L' _ _ at F₁
    change News g L' _ _ at N₁
    have hstep := gaFold_take lt hv
    generalize hkp : (gaFold lt (List.take i vs)).1 = kp at *
    repeat' (first | walk1 | (dsimp only; walk1))
    unfold Stop
    refine bisect_right_spec (d := 0) (S := S) (lt := lt) (C'.less (by omega)) F₁ N₁ (fun q hq => ?_) (by omega) hSk hsv (fun g' _ _ => hcmp g') ?_
    · rcases List.mem_cons.mp hq with rfl | hq
      · exact Nat.ne_of_gt hkt
      · exact hok q hq
    intro h2 tk2 t2 F2 N2
    repeat' (first | walk1 | (dsimp only; walk1))
    unfold Stop
    rename News g L' _ _ => N5
    refine insort_left_spec (d := 0) (S := S) (lt := lt) (C'.less (by omega)) (by assumption) N5 (fun q hq => ?_) (by omega) hSk hsv (fun g' _ _ => hcmp g') ?_
    · rcases List.mem_cons.mp hq with rfl | hq
      · exact Nat.ne_of_gt hkt
      · exact hok q hq
    intro h3 tk3 F3 N3
    repeat' (first | walk1 | (dsimp only; walk1))
    rw [hstep]
    simp only [gaStep]
    rw [hkp]
    refine ⟨_, _, _, [_, _], rfl, F3, N3, ?_, _, _, _, _, kst_self (by kst_all), rfl, ints_snoc hts _ _⟩
    · intro p hp q hq
      simp only [List.mem_cons, List.not_mem_nil, or_false] at hq
      rcases hq with rfl | rfl
      · exact hok p hp
      · exact hot p hp
  · rintro m₁ var h tk ⟨ts, nk, nt, u, rfl, rfl, hts⟩ hso F₁ N₁
    dsimp only [kstB] at F₁
    simp only [List.cons_append, List.nil_append] at N₁
    change Fr g L' _ _ at F₁
    change News g L' _ _ at N₁
    dsimp only
    repeat' (first | walk1 | (dsimp only; walk1))
    rw [List.take_length] at hts
    dsimp only
    refine ⟨_, _, [(tA, listOf ts.toArray nt)], by assumption, cb_drop N₁ (fun p hp => .tail _ hp), fun kF kN hs => ?_⟩
    exact hQ _ _ _ _ _ kF kN (fun q hq => hs _ (.head _) q hq) hts

theorem law10 : PySem.Challenge.rw_dn0041_10.Holds := hd10 (by
  k_fill
  intro w s₀ s₁ mg mb G Y fa o pm cd doc dV kV ho hd hcd hD hmg hg args vals as hpre hlay hrd hwl hlo
  have KX := kIn_of Y
  k_behind G ho hd hcd hD hmg hpre hlay hrd hwl hlo cd
  rename Top _ _ _ _ _ _ => T
  rename_i ns0 hs0 hlay0 hL0 hr2 hl2 as3 as2 la vs0 as1 hLs ra w1 r0 hI hr3 hc1 hc2 K0 h₁ tk₁ F oc hoc N0 X0
  refine wpAny_execs_cons ?_
  refine wp_cut (fun f s' => Stop (IsNext f ∧ ∃ (h' : Heap) (tk : Nat) (u : Str → Option Value) (o' : Obj) (sz : Nat) (t : Tok), s' = { s₁ with heap := h', toks := tk } ∧ sz ≤ 12 ∧ ((sz : Int) = if ns0 = [] then 0 else Int.fmod (ns0.getD 0 0) 13) ∧
      Fr s₁.heap s₁.heap.objs.size h' (kstB u [(Str.ofString "script", .ref la)]) ∧ News s₁.heap s₁.heap.objs.size h' [(s₁.heap.objs.size + 1, o')] ∧ o'.data = .cell (some (.int sz t)))) ?_ ?_
  · by_cases hne : ns0 = []
    · repeat' (first | walk1 | (dsimp only; walk1))
      · unfold Stop
        rename News _ _ _ _ => N1
        rename Fr _ _ _ _ => F1
        exact ⟨rfl, _, _, _, _, 0, _, rfl, by omega, by simp [hne], fr_kst F1 (by kst_all), cb_drop N1 (fun p hp => .tail _ hp), by assumption⟩
    · have hpos : 0 < ns0.length := List.length_pos_iff.mpr hne
      repeat' (first | walk1 | (dsimp only; walk1))
      unfold Stop
      rename News _ _ _ _ => N1
      rename Fr _ _ _ _ => F1
      have hm0 := fmod_lo (ns0.getD 0 0) (n := 13) (by decide)
      have hm1 := fmod_hi (ns0.getD 0 0) (n := 13) (by decide)
      exact ⟨rfl, _, _, _, _, (Int.fmod (ns0.getD 0 0) 13).toNat, _, rfl, by omega, by simp only [if_neg hne]; omega, fr_kst F1 (by kst_all), cb_drop N1 (fun p hp => .tail _ hp), cell_cast (x := Int.fmod (ns0.getD 0 0) 13) (by assumption) hm0⟩
  · rintro f s' ⟨rfl, h2, tk2, u, o2, sz, t, rfl, hsz, hszs, F2, N2, ho2⟩
    dsimp only [kstB] at F2
    dsimp only
    all_goals try k_fold
    repeat' (first | walk1 | (dsimp only; walk1))
    unfold Stop
    have K0' : Below callerA s₁.heap [] s₁.heap := K0
    have C0 := at_law (L := s₁.heap.objs.size) K0' KX T
    rename_i itA its hx1 hI1 hl1 hl2 hlt1 hx2 hpA hx3 hlt2 hx4 tlA hx5 hlt3 h4 F4 N4
    have hil : its.length < 63 := by have := hI1.length; omega
    have hiint := isInt_of hI1
    refine For_invV s₁.heap rfl rfl ?_
    repeat' (first | walk1 | (dsimp only; walk1))
    unfold Stop
    refine iter_list (kept := [(itA, listOf its.toArray 0), (s₁.heap.objs.size + 1, o2)]) (news := [(hpA, listOf ([] : List Value).toArray 0), (tlA, listOf ([] : List Value).toArray 0)]) (vs := its) rfl (PySem.IsL.isList (n := 0) (N4 (itA, listOf its.toArray 0) (by simp)).1) (N4 (itA, listOf its.toArray 0) (by simp)).2.1 F4 (cb_drop N4 (fun p hp => by simp at hp ⊢; rcases hp with rfl | rfl | rfl | rfl <;> simp)) ?_ ?_
      (fun i m₁ var => ∃ nh nt u, m₁ = kstB u [(Str.ofString "script", .ref la), (Str.ofString "items", .ref itA), (Str.ofString "heap", .ref hpA), (Str.ofString "told", .ref tlA)] ∧ var = [(hpA, listOf (l10fold sz (its.take i)).1.toArray nh), (tlA, listOf (l10fold sz (its.take i)).2.toArray nt)]) ?_ ?_ ?_
    · intro p hp q hq
      simp at hp hq
      rcases hp with rfl | rfl <;> rcases hq with rfl | rfl <;> (refine neN ?_; dsimp only; omega)
    · intro q hq
      simp at hq
      rcases hq with rfl | rfl <;> (refine neN ?_; dsimp only; omega)
    · exact ⟨0, 0, _, kst_self (by kst_all), rfl⟩
    · rintro i v m₁ var h tk own hv ⟨nh, nt, u, rfl, rfl⟩ hkp hso F₁ N₁
      have hstep := l10_take (sz := sz) hv
      have hinv := l10_inv (sz := sz) (its.take i)
      have hiv : IsInt v := hiint v (List.mem_of_getElem? hv)
      have hok1 : ∀ p ∈ own, p.1 ≠ hpA := fun p hp => hso p hp (hpA, _) (.head _)
      have hok2 : ∀ p ∈ own, p.1 ≠ tlA := fun p hp => hso p hp (tlA, _) (.tail _ (.head _))
      have hll := hinv.perm.length_eq
      simp only [List.length_append, List.length_take] at hll
      have hl3 := hinv.len
      have hS1 : ∀ v ∈ (l10fold sz (its.take i)).1, IsInt v := fun v hv => hiint v (List.mem_of_mem_take (hinv.perm.mem_iff.mp (List.mem_append_left _ hv)))
      replace N₁ := news_more N₁ hkp
      generalize hfo : l10fold sz (its.take i) = fo at *
      obtain ⟨hp, tl⟩ := fo
      dsimp only at hS1 hl3 hll hso
      dsimp only [kstB] at F₁
      simp only [List.cons_append, List.nil_append] at N₁
      change Fr s₁.heap s₁.heap.objs.size _ _ at F₁
      change News s₁.heap s₁.heap.objs.size _ _ at N₁
      repeat' (first | walk1 | (dsimp only; walk1))
      · rename (hp.length : Int) < (sz : Int) => hlz
        unfold Stop
        rw [hstep, l10step, if_pos (by dsimp only; omega)]
        refine heappush_spec (d := 0) (S := IsInt) (lt := ltI) ((C0 _ rfl rfl).less (by omega)) F₁ N₁ (fun q hq => ?_) (by omega) hS1 hiv (fun g' _ _ => cmp_ints _ _ g') ?_
        · simp only [List.mem_cons] at hq
          rcases hq with rfl | rfl | rfl | hq
          · exact neN (by dsimp only; omega)
          · exact neN (by dsimp only; omega)
          · exact neN (by dsimp only; omega)
          · exact hok1 q hq
        intro h2 tk2 F2 N2
        repeat' (first | walk1 | (dsimp only; walk1))
        refine ⟨_, _, _, _, rfl, F2, drop_mid2 N2, ?ss, _, _, _, kst_self (by kst_all), rfl⟩
        case ss =>
          intro p hp q hq
          simp only [List.mem_cons, List.not_mem_nil, or_false] at hq
          rcases hq with rfl | rfl
          · exact hok1 p hp
          · exact hok2 p hp
      · rename ¬ (hp.length : Int) < (sz : Int) => hlz
        unfold Stop
        rw [hstep, l10step, if_neg (by dsimp only; omega)]
        refine heappushpop_spec (d := 0) (S := IsInt) (lt := ltI) ((C0 _ rfl rfl).less (by omega)) F₁ N₁ (fun q hq => ?_) (by omega) hS1 hiv (fun g' _ _ => cmp_ints _ _ g') ?_
        · simp only [List.mem_cons] at hq
          rcases hq with rfl | rfl | rfl | hq
          · exact neN (by dsimp only; omega)
          · exact neN (by dsimp only; omega)
          · exact neN (by dsimp only; omega)
          · exact hok1 q hq
        intro h2 tk2 F2 N2
        repeat' (first | walk1 | (dsimp only; walk1))
        rename News s₁.heap s₁.heap.objs.size _ _ => N3
        rename Fr s₁.heap s₁.heap.objs.size _ _ => F3
        refine ⟨_, _, _, _, rfl, F3, drop_mid2 N3, ?ss, _, _, _, kst_self (by kst_all), rfl⟩
        case ss =>
          intro p hp q hq
          simp only [List.mem_cons, List.not_mem_nil, or_false] at hq
          rcases hq with rfl | rfl
          · exact hok1 p hp
          · exact hok2 p hp
    · rintro m₁ var h tk ⟨nh, nt, u1, rfl, rfl⟩ hso F₁ N₁
      rw [List.take_length] at N₁
      dsimp only [kstB] at F₁
      simp only [List.cons_append, List.nil_append] at N₁
      change Fr s₁.heap s₁.heap.objs.size _ _ at F₁
      change News s₁.heap s₁.heap.objs.size _ _ at N₁
      dsimp only
      have hinv := l10_inv (sz := sz) its
      repeat' (first | walk1 | (dsimp only; walk1))
      unfold Stop
      clear N4 F4 hso
      have hI2 : ∀ v ∈ (l10fold sz its).1, IsInt v := fun v hv => hiint v (hinv.perm.mem_iff.mp (List.mem_append_left _ hv))
      have hI3 : ∀ v ∈ (l10fold sz its).2, IsInt v := fun v hv => hiint v (hinv.perm.mem_iff.mp (List.mem_append_right _ hv))
      have hll := hinv.perm.length_eq
      rw [List.length_append] at hll
      refine While_inv2 (fun n₁ m₁ news₁ => ∃ (hp tl : List Value) (nh nt : Nat) (u : Str → Option Value),
          m₁ = kstB u [(Str.ofString "script", .ref la), (Str.ofString "items", .ref itA), (Str.ofString "heap", .ref hpA), (Str.ofString "told", .ref tlA)] ∧
          news₁ = [(hpA, listOf hp.toArray nh), (tlA, listOf tl.toArray nt), (itA, listOf its.toArray 0), (s₁.heap.objs.size + 1, o2)] ∧ (∀ v ∈ hp, IsInt v) ∧ (∀ v ∈ tl, IsInt v) ∧ hp.length + tl.length = its.length ∧
          tl ++ drain ltI hp = (l10fold sz its).2 ++ drain ltI (l10fold sz its).1 ∧ n₁ = hp.length) (n₀ := (l10fold sz its).1.length) F₁ N₁ ?_ ?_
      · exact ⟨_, _, _, _, _, kst_self (by kst_all), rfl, hI2, hI3, hll, rfl, rfl⟩
      · rintro n₁ m₁ news₁ h₂ tk₁ F₂ N₂ ⟨hp, tl, nh, nt, u, rfl, rfl, hIh, hIt, hlen, htgt, rfl⟩
        dsimp only [kstB] at F₂
        have hih := intsAre_of hIh
        repeat' (first | walk1 | (dsimp only; walk1))
        · rename decide (List.map ival hp = []) = true => hemp
          have hemp' : hp = [] := by simpa using hemp
          subst hemp'
          rw [drain, dif_pos rfl, List.append_nil] at htgt
          subst htgt
          rename_i l2 hx7 hx8 hlt4 rwA cR hx9 hlt5 hx10 F5 N5
          unfold Stop
          generalize hT : (l10fold sz its).2 ++ drain ltI (l10fold sz its).1 = told at *
          clear hih hIh hemp
          refine For_invV s₁.heap rfl rfl ?_
          repeat' (first | walk1 | (dsimp only; walk1))
          unfold Stop
          rename IsRange _ _ _ _ _ _ _ _ => hR1
          rename Fr s₁.heap s₁.heap.objs.size _ _ => F7
          rename News s₁.heap s₁.heap.objs.size _ _ => N7
          refine iter_range_up sz (kept := [(tlA, listOf told.toArray nt), (itA, listOf its.toArray 0), (s₁.heap.objs.size + 1, o2)]) (news := [(rwA, listOf its.toArray cR)]) rfl hR1 (by omega) (by omega) (by omega) (by omega) (by omega) F7 (cb_drop N7 (fun p hp => by simp at hp ⊢; rcases hp with rfl | rfl | rfl | rfl <;> simp)) ?_
            (fun i m₁ var => ∃ u, m₁ = kstB u [(Str.ofString "script", .ref la), (Str.ofString "items", .ref itA), (Str.ofString "told", .ref tlA), (Str.ofString "row", .ref rwA)] ∧ var = [(rwA, listOf (bubN i its).toArray cR)]) ?_ ?_ ?_
          · intro p hp q hq
            simp at hp hq
            subst hq
            rcases hp with rfl | rfl | rfl <;> (refine neN ?_; dsimp only; omega)
          · exact ⟨_, kst_self (by kst_all), rfl⟩
          · rintro i t9 m₁ var h tk own hi ⟨u, rfl, rfl⟩ hkp hso F₁ N₁
            have hbl := bubN_len its i
            have hbi := bubN_int (i := i) hiint
            have hok1 : ∀ p ∈ own, p.1 ≠ rwA := fun p hp => hso p hp (rwA, _) (.head _)
            replace N₁ := news_more N₁ hkp
            have hbs : bubN (i + 1) its = bub (bubN i its) := rfl
            generalize hbe : bubN i its = bb at *
            dsimp only [kstB] at F₁
            simp only [List.cons_append, List.nil_append] at N₁
            change Fr s₁.heap s₁.heap.objs.size _ _ at F₁
            change News s₁.heap s₁.heap.objs.size _ _ at N₁
            repeat' (first | walk1 | (dsimp only; walk1))
            unfold Stop
            refine For_invV s₁.heap rfl rfl ?_
            repeat' (first | walk1 | (dsimp only; walk1))
            unfold Stop
            rename IsRange _ _ _ _ _ _ _ _ => hR2
            rename Fr s₁.heap s₁.heap.objs.size _ _ => F8
            rename News s₁.heap s₁.heap.objs.size _ _ => N8
            refine iter_range_up (bb.length - 1) (kept := (tlA, listOf told.toArray nt) :: (itA, listOf its.toArray 0) :: (s₁.heap.objs.size + 1, o2) :: own) (news := [(rwA, listOf bb.toArray cR)]) rfl hR2 (by omega) (by omega) (by omega) (by omega) (by omega) F8 N8 ?_
              (fun j m₁ var => ∃ u, m₁ = kstB u [(Str.ofString "script", .ref la), (Str.ofString "items", .ref itA), (Str.ofString "told", .ref tlA), (Str.ofString "row", .ref rwA)] ∧ var = [(rwA, listOf (bubTo bb j).toArray cR)]) ?_ ?_ ?_
            · intro p hp q hq
              simp only [List.mem_cons, List.not_mem_nil, or_false] at hp hq
              subst hq
              rcases hp with rfl | rfl | rfl | hp
              · exact neN (by dsimp only; omega)
              · exact neN (by dsimp only; omega)
              · exact neN (by dsimp only; omega)
              · exact hok1 p hp
            · exact ⟨_, kst_self (by kst_all), rfl⟩
            · rintro j t8 m₁ var h tk own2 hj ⟨u, rfl, rfl⟩ hkp2 hso2 F₁ N₁
              have hbl2 := bubTo_len bb j
              have hbi2 := bubTo_int (vs := bb) (i := j) (by omega) hbi
              have hok2 : ∀ p ∈ own2, p.1 ≠ rwA := fun p hp => hso2 p hp (rwA, _) (.head _)
              have hbs2 := bubTo_succ bb j
              generalize hbe2 : bubTo bb j = bc at *
              dsimp only [kstB] at F₁
              simp only [List.cons_append, List.nil_append] at N₁
              change Fr s₁.heap s₁.heap.objs.size _ _ at F₁
              change News s₁.heap s₁.heap.objs.size _ _ at N₁
              repeat' (first | walk1 | (dsimp only; walk1))
              unfold Stop
              refine cmp_ints _ _ s₁.heap _ _ (hbi2 _ (getD_mem (by omega))) (hbi2 _ (getD_mem (by omega))) _ _ _ _ (Nat.lt_of_le_of_lt (Nat.add_le_add_left (by decide) _) (law_units _)) F₁.keep ?_
              intro tk9
              repeat' (first | walk1 | (dsimp only; walk1))
              · rename ltI _ _ = true => h3
                rename Fr s₁.heap s₁.heap.objs.size _ _ => F9
                rename News s₁.heap s₁.heap.objs.size _ _ => N9
                rw [hbs2, bubStep, if_pos h3]
                exact ⟨_, _, _, [_], rfl, F9, drop_hd N9, fun p hp q hq => (List.mem_singleton.mp hq) ▸ hok2 p hp, _, kst_self (by kst_all), rfl⟩
              · rename ltI _ _ = false => h3
                rw [hbs2, bubStep, if_neg (by rw [h3]; decide)]
                exact ⟨_, _, _, [_], rfl, F₁, N₁, fun p hp q hq => (List.mem_singleton.mp hq) ▸ hok2 p hp, _, kst_self (by kst_all), rfl⟩
            · rintro m₁ var h tk ⟨u, rfl, rfl⟩ hso2 F₁ N₁
              dsimp only
              refine wpAny_execs_nil ?_
              rw [hbs]
              exact ⟨_, _, _, [_], rfl, F₁, drop_mid3 N₁, fun p hp q hq => (List.mem_singleton.mp hq) ▸ hok1 p hp, _, rfl, rfl⟩
          · rintro m₁ var h tk ⟨u, rfl, rfl⟩ hso2 F₁ N₁
            have hbl := bubN_len its sz
            have hbi := bubN_int (i := sz) hiint
            have hte := told_eq (sz := sz) (its := its)
            rw [hT] at hte
            generalize hbe : bubN sz its = bb at *
            dsimp only [kstB] at F₁
            simp only [List.cons_append, List.nil_append] at N₁
            change Fr s₁.heap s₁.heap.objs.size _ _ at F₁
            change News s₁.heap s₁.heap.objs.size _ _ at N₁
            have hi1 := intsAre_of hIt
            have hi2 := intsAre_of hbi
            rw [hte] at hi1
            dsimp only
            repeat' (first | walk1 | (dsimp only; walk1))
            unfold Stop
            refine LCg.Assign_ListComp_U (F₀ := F₁) rfl (by with_unfolding_all rfl) rfl (by decide) rfl (by decide) rfl rfl rfl ?_
            repeat' (first | walk1 | (dsimp only; walk1))
            unfold Stop
            refine gahead_spec (d := 0) (S := IsInt) (lt := ltI) (a := itA) (vs := its) (n := 0) ((C0 _ rfl rfl).less (by omega)) F₁ N₁ (by simp) (by omega) hiint (fun g' => cmp_ints _ _ g') ?_
            intro h5 tk5 gA gs gk F5 N5 hgA hgs
            clear N7 F7 hR1
            repeat' (first | walk1 | (dsimp only; walk1))
            unfold Stop
            refine slice_gen (zs := gs.drop sz) F5 N5 (PySem.IsL.isList (n := gk) (N5 (gA, listOf gs.toArray gk) (by simp)).1) (IsPart.int _ _) IsPart.none (pick_from gs sz) ?_ (by with_unfolding_all rfl) ?_
            · intro slA h6 F6 N6 hsl
              have hsl' := allLt_of hsl
              simp only [AllLt, and_true] at hsl'
              have hgsl := hgs.length
              have hgal := (gaFold_len ltI its).2
              refine LCg.CompSrc.ledger (k := 0) (its := (gs.drop sz).toArray) rfl F6 N6 (by simp) (by simp [sizeLine]; omega) ?_
              intro g6
              refine comp_rest (fun i ys news => news = [(slA, listOf (gs.drop sz).toArray 0), (gA, listOf gs.toArray gk), (rwA, listOf bb.toArray cR), (tlA, listOf told.toArray nt), (itA, listOf its.toArray 0), (s₁.heap.objs.size + 1, o2)] ∧
                  IntsAre ys ((((gaFold ltI its).2.drop sz).take i).map (fun c => max 0 (c - (sz : Int))))) ⟨rfl, .nil⟩ ?_ ?_
              · rintro i v I oI C oC D m₂ ys news h7 tk7 E' hi hv ⟨rfl, hys⟩ hC hx F7 N7 off ne
                have hv2 : (gs.drop sz)[i]? = some v := by simpa using hv
                have hIv : IsInt v := isInt_of hgs v (List.mem_of_mem_drop (List.mem_of_getElem? hv2))
                obtain ⟨c, tc, rfl⟩ := hIv
                repeat' (first | walk1 | (dsimp only; walk1))
                rename Fr s₁.heap s₁.heap.objs.size _ _ => F8
                rename News s₁.heap s₁.heap.objs.size _ _ => N8
                refine ⟨_, _, _, rfl, F8, N8, off, .inr ⟨_, .head _, rfl, _, rfl⟩, rfl, ?_⟩
                have hl1 : ((gaFold ltI its).2.drop sz)[i]? = some c := by
                  rw [← ival_of hgs, ← List.map_drop, List.getElem?_map, hv2]; rfl
                rw [List.take_add_one, hl1, List.map_append]
                have e1 : (if c - (sz : Int) > 0 then c - (sz : Int) else 0) = max 0 (c - (sz : Int)) := by
                  split <;> omega
                rw [e1]
                exact ints_snoc hys _ _
              · rintro ys news ⟨rfl, hys⟩ D h7 tk7 F7 N7 off
                dsimp only
                have hysl := hys.length
                simp only [List.length_map, List.length_take, List.length_drop, List.size_toArray] at hysl
                rw [show (gs.drop sz).toArray.size = ((gaFold ltI its).2.drop sz).length by simp [hgsl], List.take_length] at hys
                have hoff : ∀ p ∈ [(slA, listOf (gs.drop sz).toArray 0), (gA, listOf gs.toArray gk), (rwA, listOf bb.toArray cR), (tlA, listOf told.toArray nt), (itA, listOf its.toArray 0), (s₁.heap.objs.size + 1, o2)], p.1 ≠ D := by
                  simpa [LCg.Off1] using off
                replace N7 := cb_drop (news := [(D, listOf ys.toArray ys.length), (tlA, listOf told.toArray nt), (itA, listOf its.toArray 0), (s₁.heap.objs.size + 1, o2)]) N7 (fun p hp => by
                  simp only [List.mem_cons, List.not_mem_nil, or_false] at hp ⊢
                  rcases hp with rfl | rfl | rfl | rfl <;> simp)
                have hD1 : D ≠ tlA := fun e => hoff (tlA, listOf told.toArray nt) (by simp) e.symm
                have hD2 : D ≠ itA := fun e => hoff (itA, listOf its.toArray 0) (by simp) e.symm
                have hD3 : D ≠ s₁.heap.objs.size + 1 := fun e => hoff (s₁.heap.objs.size + 1, o2) (by simp) e.symm
                clear N6 N5 F6 F5 N₁ F₁ hsl hsl' hoff off
                dsimp only at F7
                repeat' (first | walk1 | (dsimp only; walk1))
                unfold Stop
                rename Fr s₁.heap s₁.heap.objs.size _ _ => F8
                rename News s₁.heap s₁.heap.objs.size _ _ => N8
                rename IntsAre (List.flatten _) _ => hz0
                rename _ < _ ∧ D < _ ∧ _ => hltD
                rename_i lz1 hz1 tkz hz3 hz4 zA hz2 nz hz7 hz8 hz9 hz10
                clear hz3 hz4 hz7 hz8 hz9 hz10
                have ek : (if (its.length : Int) < (sz : Int) then (its.length : Int) else (sz : Int)).toNat = min sz its.length := by split <;> omega
                rw [rep_flat, rep_flat, ek] at hz0
                rw [rep_flat, ek] at N8
                refine extend_gen (vs := ys) (n := ys.length) (us := List.replicate (min sz its.length) (.int 0 tk7)) (n2 := 0) (rest := [(zA, listOf (List.replicate (min sz its.length) (.int 0 tk7)).toArray 0), (tlA, listOf told.toArray nt), (itA, listOf its.toArray 0), (s₁.heap.objs.size + 1, o2)]) F8 (cb_drop N8 (fun p hp => by
                  simp only [List.mem_cons, List.not_mem_nil, or_false] at hp ⊢
                  rcases hp with rfl | rfl | rfl | rfl | rfl <;> simp)) (fun q hq => ?_) (.head _) (by simp only [List.length_replicate]; omega) ?_
                · simp only [List.mem_cons, List.not_mem_nil, or_false] at hq
                  rcases hq with rfl | rfl | rfl | rfl
                  · exact neN (by dsimp only; omega)
                  · exact hD1.symm
                  · exact hD2.symm
                  · exact hD3.symm
                intro h8 n8 F9 N9
                have hdue := ints_append hys hz0
                repeat' (first | walk1 | (dsimp only; walk1))
                unfold Stop
                refine gahead_spec (d := 0) (S := IsInt) (lt := ltI) (a := tlA) (vs := told) (n := nt) ((C0 _ rfl rfl).less (by omega)) F9 N9 (by simp) (by simp only [List.length_nil] at hlen; omega) hIt (fun g' => cmp_ints _ _ g') ?_
                intro h9 tk9 tA ts tk F10 N10 htA hts
                rw [table_eq (sz := sz) (by rw [hbe]; exact hte)] at hts
                repeat' (first | walk1 | (dsimp only; walk1))
                k_steps
            · simp only [List.size_toArray]
              have hgsl := hgs.length
              have hgal := (gaFold_len ltI its).2
              omega
        · rename decide (List.map ival hp = []) = false => hemp
          have hne : hp ≠ [] := by simpa using hemp
          rename News s₁.heap s₁.heap.objs.size _ _ => N3
          rename Fr s₁.heap s₁.heap.objs.size _ _ => F3
          unfold Stop
          have hpos := List.length_pos_iff.mpr hne
          have hpp := hpop_perm (lt := ltI) (ws := hp.dropLast) (y := hp.getLast hne)
          rw [List.dropLast_concat_getLast] at hpp
          have hpl := hpp.length_eq
          rw [List.length_cons] at hpl
          refine heappop_spec (d := 0) (S := IsInt) (lt := ltI) (vs := hp) (n := nh) (rest := [(tlA, listOf tl.toArray nt), (itA, listOf its.toArray 0), (s₁.heap.objs.size + 1, o2)]) (List.dropLast_concat_getLast hne).symm ((C0 _ rfl rfl).less (by omega)) F3 (cb_drop N3 (fun p hp => .tail _ hp)) (fun q hq => ?_) (by omega) hIh (fun g' _ _ => cmp_ints _ _ g') ?_
          · simp only [List.mem_cons, List.not_mem_nil, or_false] at hq
            rcases hq with rfl | rfl | rfl <;> exact neN (by dsimp only; omega)
          intro h2 tk2 F2 N2
          repeat' (first | walk1 | (dsimp only; walk1))
          rename News s₁.heap s₁.heap.objs.size _ _ => N6
          rename Fr s₁.heap s₁.heap.objs.size _ _ => F6
          rw [drain, dif_neg hne] at htgt
          refine ⟨_, _, _, _, _, rfl, F6, N6, ?_, _, _, _, _, _, kst_self (by kst_all), rfl, fun v hv => hIh v (hpp.mem_iff.mp (.tail _ hv)), fun v hv => ?_, ?_, ?_, rfl⟩
          · omega
          · rcases List.mem_append.mp hv with hv | hv
            · exact hIt v hv
            · exact hIh v (hpp.mem_iff.mp ((List.mem_singleton.mp hv) ▸ .head _))
          · simp only [List.length_append, List.length_cons, List.length_nil]; omega
          · rw [List.append_assoc]; exact htgt)
end Mine

theorem PySem.Challenge.cw_dn0041_10_holds : PySem.Challenge.rw_dn0041_10.Holds := by
  exact Mine.law10
