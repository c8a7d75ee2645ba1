import PyProof.Rows.All
import Wide.All
import OpenK.AllK
import Wide.FinOn
import PySem.Challenge.RW_dn0041_09
open PySem PySem.W PyProof.Rows PySem.Calls
set_option Elab.async false
set_option maxRecDepth 100000
set_option maxHeartbeats 8000000
set_option linter.unusedVariables false
open_top hd09 for PySem.Challenge.rw_dn0041_09
namespace Mine
def Stop (P : Prop) : Prop := P
theorem Stop.mk {P : Prop} (h : Stop P) : P := h

def LeaveF (h₀ : Heap) (L : Addr) (m : Str → Option Value) (g : Heap) (rest : List (Addr × Obj)) (R : Result → Shared → Prop) (v : Value) (s' : Shared) : Prop :=
  ∃ L' m' own', Fr g L' s'.heap m' ∧ News g L' s'.heap own' ∧
    (Fr h₀ L s'.heap m → News h₀ L s'.heap (own' ++ rest) → (∀ p ∈ own', ∀ q ∈ rest, p.1 ≠ q.1) → R (.ok (.ret v)) s')

/-- what a caller's frame knows -/
structure At (K : Frag) (p : Program) (loose : List Str) (mean : ExcName → Option Value) (mg mb : Str → Option Value) (A : Around) (h₀ : Heap) (L : Addr) (d : Nat) : Prop where
  ex : ∃ A₀ base outer env, Below A₀ base outer h₀ ∧ A.frames = some (env :: outer) ∧ env.frame = some L ∧ env.scope.kind = .function
  X : K.In h₀
  T : Top p loose mean mg mb h₀
  hd : A.depth + d < recursionLimit
  hu : A.units + 16 * d + 16 < cLine
  hh : A.handled = none

section
variable {prog : Program} {w : World} {A : Around} {s : Shared} {h₀ : Heap} {L : Addr} {m : Str → Option Value} {own rest : List (Addr × Obj)} {K : Frag}
  {p : Program} {loose : List Str} {mean : ExcName → Option Value} {mg mb : Str → Option Value} {d : Nat} {Q : Value → Shared → Prop} {E : Value → Shared → Prop}
  {name qual : Str} {params : Arguments} {body : List Stmt} {scope : Scope} {dV kV doc pm cdv ct oc : Value} {an od : Option Addr} {osl : Array (Option Value)} {f : Addr} {args : List Value} {kw : List (Str × Value)} {binds : List (Str × Value)}

theorem At.less {d d' : Nat} (C : At K p loose mean mg mb A h₀ L d) (h : d' ≤ d) : At K p loose mean mg mb A h₀ L d' :=
  ⟨C.ex, C.X, C.T, by have := C.hd; omega, by have := C.hu; omega, C.hh⟩

theorem call_at (C : At K p loose mean mg mb A h₀ L (d + 1)) (F : Fr h₀ L s.heap m) (N : News h₀ L s.heap (own ++ rest)) (hsep : ∀ p ∈ own, ∀ q ∈ rest, p.1 ≠ q.1)
    (ho : K.lookup f = some ⟨oc, od, .func (fnOf name qual params body scope dV kV doc pm an cdv ct), osl⟩) (hcd : codeIn K cdv qual = true)
    (hbind : BindsTo s (fnOf name qual params body scope dV kV doc pm an cdv ct) ⟨args, kw⟩ binds) (hloc : ∀ y ∈ binds, scope.names.lookup y.1 = some .local)
    (h : ∀ g L' h₁, At K p loose mean mg mb (A.deeper (envOf qual scope L' f cdv)) g L' d → Fr g L' h₁ (fun y => binds.reverse.lookup y) → News g L' h₁ own → (∀ q ∈ rest, g.get? q.1 = some q.2) → h₀.StaysIn g → 
      wpAny (model prog w) (A.deeper (envOf qual scope L' f cdv)) (execs body (envOf qual scope L' f cdv))
        (fun fl s' => LeaveF h₀ L m g rest (fun r s' => match r with | .ok (.ret v) => Q v s' | .ok _ => False | .error e => E e s') (match fl with | .ret v => v | _ => .none) s')
        (fun e s' => wpAny (model prog w) (A.deeper (envOf qual scope L' f cdv)) (leaving (envOf qual scope L' f cdv) e) (fun _ s'' => E e s'') (fun e' s'' => E e' s'') s')
        { s with heap := h₁, toks := s.toks + binds.length })
    (hco : scope.isCoroutine = false) (hgen : scope.isGenerator = false) (hk : scope.kind = .function)
    (hcell : ∀ x ∈ scope.names, x.2 ≠ .cell) : wpAny (model prog w) A (call (.ref f) args kw) Q E s := by
  obtain ⟨⟨A₀, base, outer, env, B, hA, hf, hke⟩, X, T, hd, hu, hh⟩ := C
  have N' : News h₀ L s.heap own := fun q hq => N q (List.mem_append_left _ hq)
  refine wpAny_call ?_
  obtain ⟨FG, BG, st, lv⟩ := groundX (R := fun r s' => match r with | .ok (.ret v) => Q v s' | .ok _ => False | .error e => E e s') B F N' hA hf hke
  have hrest : ∀ q ∈ rest, (hideAll s.heap (own.map (·.1))).get? q.1 = some q.2 := fun q hq =>
    hideAll_get _ (N q (List.mem_append_right _ hq)).1 fun hm => by
      obtain ⟨p, hp, e⟩ := List.mem_map.mp hm
      exact hsep p hp q hq e
  refine codeAny_call_def (fd := fnOf name qual params body scope dV kV doc pm an cdv ct) (body := body) (binds := binds) (by omega) ((X.keeps F.keep) _ _ ho) rfl (T.nolimit.keeps F.keep) (codeRec_of (X.keeps F.keep) hcd) rfl hbind hcell hloc (fun h₁ hns hk₁ => ?_) hco hgen hk
  refine wpAny_mono (h (hideAll s.heap (own.map (·.1))) s.heap.objs.size h₁ ?_ ⟨hns, fun b o e => hk₁ b o (of_hideAll _ e), Nat.le_of_eq (hideAll_size _ _)⟩
    (fun p hp => ⟨hk₁ _ _ (N' p hp).1, Nat.ne_of_lt (Heap.lt_size (N' p hp).1), hideAll_none _ (List.mem_map_of_mem hp)⟩) hrest st) (fun fl s' hl => ?_) fun _ _ y => y
  · refine ⟨⟨A, base, env :: outer, envOf qual scope s.heap.objs.size f cdv, BG, ?_, rfl, hk⟩, X.keeps st, T.keeps st, ?_, ?_, hh⟩
    · show Option.map _ A.frames = _
      rw [hA]; rfl
    · show A.depth + 1 + d < _
      omega
    · show A.units + 3 + 16 * d + 16 < _
      omega
  · obtain ⟨L', m', own', F', N'', k⟩ := hl
    refine lv _ _ ⟨L', m', own', F', N'', fun kF kN => k kF (fun q hq => ?_) fun q hq r hr e => ?_⟩
    · rcases List.mem_append.mp hq with hq | hq
      · exact kN q hq
      · exact ⟨F'.keep _ _ (hrest q hq), (N q (List.mem_append_right _ hq)).2⟩
    · have h1 := (N'' q hq).2.2
      rw [e, hrest r hr] at h1
      cases h1
end
section
variable {prog : Program} {w : World} {A : Around} {E : Value → Shared → Prop} {s : Shared} {h₀ : Heap} {L : Addr} {m : Str → Option Value} {news news' : List (Addr × Obj)} {D : Addr} {vs : List Value} {n : Nat} {k : Int} {u : Tok} {v : Value}
theorem getElem?_getD {k : Nat} (h : k < vs.length) : vs[k]? = some (vs.getD k .none) := by
  simp [List.getD, List.getElem?_eq_getElem h]
theorem item_gen {value slice : Expr} {Q : Value → Shared → Prop} (N : News h₀ L s.heap news) (hm : (D, listOf vs.toArray n) ∈ news) (h0 : 0 ≤ k) (hk : k < vs.length) (hfit : vs.length < 2 ^ 62)
    (h : Q (vs.getD k.toNat .none) s)
    (hs : subscripted slice false (.ref D) (.int k u) = operate [.ref D, .int k u] (getItem (.ref D) (.int k u)) := by with_unfolding_all rfl) (hg : ∀ r, letTemporaryGo value (.ref D) r = pure () := by intro _; with_unfolding_all rfl) :
    wpAny (model prog w) A (subscriptTail value slice (.ref D) (.int k u)) Q E s :=
  kim_list (l := vs) (n := n) N hm rfl rfl h0 (by omega) (getElem?_getD (by omega)) h hs hg
theorem set_gen {Q : Unit → Shared → Prop} (F : Fr h₀ L s.heap m) (N : News h₀ L s.heap news) (U : Upd D (listOf vs.toArray n) (listOf (vs.set k.toNat v).toArray n) news news') (h0 : 0 ≤ k) (hk : k < vs.length) (hfit : vs.length < 2 ^ 62)
    (h : ∀ h', Fr h₀ L h' m → News h₀ L h' news' → Q () { s with heap := h' }) :
    wpAny (model prog w) A (setItem (.ref D) (.int k u) v) Q E s := by
  obtain ⟨pre, post, rfl, rfl, a, b⟩ := U.split
  have z := N (D, listOf vs.toArray n) (List.mem_append.mpr (.inr (.head _)))
  refine ki_setAt z.1 h0 (by omega) (by simp; omega) (h _ (F.change (Heap.SameBut.update ..) z.2.1 z.2.2) (ki_turn _ N a b ?_ ?_))
  · show vs.toArray.setIfInBounds k.toNat v = (vs.set k.toNat v).toArray
    apply Array.toList_inj.mp
    simp
  · simp
theorem len_gen {Q : Value → Shared → Prop} (N : News h₀ L s.heap news) (hm : (D, listOf vs.toArray n) ∈ news) (hfit : vs.length < 2 ^ 62)
    (h : Q (.int vs.length (s.toks + 1)) { s with toks := s.toks + 1 + 1 }) : wpAny (model prog w) A (call (.builtin "len") [.ref D]) Q E s :=
  len_list (items := vs.toArray) (PySem.IsL.isList (n := n) (N _ hm).1) (by simp; omega) (by simpa using h)
end

section
variable {prog : Program} {w : World} {A : Around} {E : Value → Shared → Prop} {s : Shared} {h₀ : Heap} {L : Addr} {m : Str → Option Value} {news news' : List (Addr × Obj)} {D : Addr} {vs ws : List Value} {n : Nat} {k : Int} {u : Tok} {v x y : Value}
theorem append_gen {Q : Value → Shared → Prop} (F : Fr h₀ L s.heap m) (N : News h₀ L s.heap news) (U : Upd D (listOf vs.toArray n) (listOf (vs ++ [x]).toArray (n + 1)) news news') (hfit : vs.length ≤ 2 ^ 20)
    (h : ∀ h', Fr h₀ L h' m → News h₀ L h' news' → Q .none { s with heap := h' }) : wpAny (model prog w) A (call (.builtin "list.append") [.ref D, x]) Q E s :=
  append_K (its := vs.toArray) F N (by simpa using U) h (by simp [sizeLine]; omega)
theorem pop_gen {Q : Value → Shared → Prop} (F : Fr h₀ L s.heap m) (N : News h₀ L s.heap news) (hv : vs = ws ++ [y]) (U : Upd D (listOf vs.toArray n) (listOf ws.toArray (n + 1)) news news') (hfit : vs.length ≤ 2 ^ 20)
    (h : ∀ h', Fr h₀ L h' m → News h₀ L h' news' → Q y { s with heap := h' }) : wpAny (model prog w) A (call (.builtin "list.pop") [.ref D]) Q E s :=
  kl_pop (its := vs.toArray) F N (by rw [hv]; exact kpa_last y ws) U (by simp [sizeLine]; omega) h
theorem truthy_gen {Q : Bool → Shared → Prop} (N : News h₀ L s.heap news) (hm : (D, listOf vs.toArray n) ∈ news) (hfit : vs.length < 2 ^ 62)
    (h : Q (decide (vs ≠ [])) { s with toks := s.toks + 1 + 1 }) : wpAny (model prog w) A (truthy (.ref D)) Q E s :=
  wpAny_truthy_list (items := vs.toArray) (PySem.IsL.isList (n := n) (N _ hm).1) (by simp; omega) (by
    have e : (!vs.toArray.isEmpty) = decide (vs ≠ []) := by cases vs <;> simp
    rw [e]; exact h)
theorem insert_gen {Q : Value → Shared → Prop} (F : Fr h₀ L s.heap m) (N : News h₀ L s.heap news) (h0 : 0 ≤ k) (hk : k ≤ vs.length) (U : Upd D (listOf vs.toArray n) (listOf (vs.take k.toNat ++ y :: vs.drop k.toNat).toArray (n + 1)) news news') (hfit : vs.length ≤ 2 ^ 20)
    (h : ∀ h', Fr h₀ L h' m → News h₀ L h' news' → Q .none { s with heap := h' }) : wpAny (model prog w) A (call (.builtin "list.insert") [.ref D, .int k u, y]) Q E s :=
  kl_insert (its := vs.toArray) F N (by simp [Builtin.List.listFitsIndex]; omega) (by
    show kl_ins vs k y = _
    unfold kl_ins
    rw [if_neg (by omega)]
    have e : min k.toNat vs.length = k.toNat := by omega
    rw [e]) U (by simp [sizeLine]; omega) h
end

section
variable {prog : Program} {w : World} {A : Around} {E : Value → Shared → Prop} {s : Shared} {h₀ : Heap} {L l : Addr} {m : Str → Option Value} {news : List (Addr × Obj)} {value slice : PySem.Expr} {its : Array Value} {zs : List Value} {vl vu : Value} {lo hi : Option Int} {Q : Value → Shared → Prop}
theorem slice_gen (F : Fr h₀ L s.heap m) (N : News h₀ L s.heap news) (hl : s.heap.IsList l its) (pl : IsPart vl lo) (pu : IsPart vu hi) (e : (slicePick its lo hi none).toList = zs)
    (h : ∀ D h', Fr h₀ L h' m → News h₀ L h' ((D, listOf zs.toArray 0) :: news) → (∀ p ∈ news, p.1 < D) → Q (.ref D) { s with heap := h' })
    (hs : subscripted slice false (.ref l) (.ref s.heap.objs.size) = operate [.ref s.heap.objs.size, .ref l] (getItem (.ref l) (.ref s.heap.objs.size))) (hz : its.size ≤ 2 ^ 20) :
    wpAny (model prog w) A (subscriptTail value slice (.ref l) (.ref s.heap.objs.size)) Q E { s with heap := s.heap.push { cls := .type "slice", data := .fields #[vl, vu, .none] } } := by
  refine tail_any (Heap.IsList.typeIs (s := { s with heap := s.heap.push { cls := .type "slice", data := .fields #[vl, vu, .none] } }) (hl.push _)) list_getitem_lookup
    (wpAny_getItem_list_slice (hl.push _) (Heap.IsSliceOf.new ..) pl pu .none (by simp) ?_ (by simp only [sizeLine]; omega)) hs
  have N1 := News.push (F.push { cls := .type "slice", data := .fields #[vl, vu, .none] }) (N.grown fun _ _ e => Heap.get?_push_of_some _ e) { cls := .type "list", data := .seq (slicePick its lo hi none) }
  rw [Heap.size_push] at N1
  have ez : slicePick its lo hi none = zs.toArray := by rw [← e]
  rw [ez] at N1
  have hq := h _ _ ((F.push _).push _) N1 (fun p hp => Nat.lt_succ_of_lt (Heap.lt_size (N p hp).1))
  rw [Heap.size_push, ez]
  exact hq
theorem pick_from (vs : List Value) (k : Nat) : (slicePick vs.toArray (some (k : Int)) none none).toList = vs.drop k := by rw [slicePick_from']
theorem pick_upto (vs : List Value) (k : Nat) : (slicePick vs.toArray none (some (k : Int)) none).toList = vs.take k := by rw [slicePick_upto']
theorem pick_butLast (vs : List Value) : (slicePick vs.toArray none (some (-1)) none).toList = vs.dropLast := by
  have := slicePick_butLast vs.toArray 1 (Nat.le_refl _)
  rw [show (-((1 : Nat) : Int)) = -1 from rfl] at this
  rw [this]
  simp [List.dropLast_eq_take]
theorem pick_last (vs : List Value) : (slicePick vs.toArray (some (-1)) none none).toList = vs.drop (vs.length - 1) := by
  have := slicePick_last vs.toArray 1 (Nat.le_refl _)
  rw [show (-((1 : Nat) : Int)) = -1 from rfl] at this
  rw [this]; simp
end

section
variable {prog : Program} {w : World} {A : Around} {E : Value → Shared → Prop} {s : Shared} {h₀ : Heap} {L D b : Addr} {m : Str → Option Value} {rest : List (Addr × Obj)} {vs us : List Value} {n n2 : Nat} {Q : Value → Shared → Prop}
theorem extend_gen (F : Fr h₀ L s.heap m) (N : News h₀ L s.heap ((D, listOf vs.toArray n) :: rest)) (hs : ∀ q ∈ rest, q.1 ≠ D) (hb : (b, listOf us.toArray n2) ∈ rest) (hl : vs.length + us.length ≤ 2 ^ 20)
    (h : ∀ h' n', Fr h₀ L h' m → News h₀ L h' ((D, listOf (vs ++ us).toArray n') :: rest) → Q .none { s with heap := h' }) : wpAny (model prog w) A (call (.builtin "list.extend") [.ref D, .ref b]) Q E s := by
  have hd : ¬(!vs.toArray.isEmpty && Builtin.List.listTooLong (vs.toArray.size + us.toArray.size)) = true := by
    simp only [Bool.and_eq_true, not_and, Builtin.List.listTooLong, sizeLine, List.size_toArray, decide_eq_true_eq]
    intro _; omega
  by_cases hu : us = []
  · subst hu
    refine kxn_extend (its := vs.toArray) (its2 := ([] : List Value).toArray) F N (.tail _ hb) rfl (Upd.head hs) hd (by simp [sizeLine]; omega) (by simp [sizeLine]; omega) fun h' F' N' => ?_
    exact h h' n F' (by rw [List.append_nil]; exact N')
  · refine kl_extend (its := vs.toArray) (its2 := us.toArray) (l := vs ++ us) F N (.tail _ hb) (by simp) (by simp [hu]) (Upd.head hs) hd (by simp [sizeLine]; omega) (by simp [sizeLine]; omega) fun h' F' N' => ?_
    exact h h' (n + 1) F' N'
end
def Cmp (prog : Program) (w : World) (g : Heap) (S : Value → Prop) (lt : Value → Value → Bool) : Prop :=
  ∀ x y, S x → S y → ∀ (A : Around) (s : Shared) (Q : Value → Shared → Prop) (E : Value → Shared → Prop), A.units + 8 < cLine → (∀ b o, g.get? b = some o → s.heap.get? b = some o) →
    (∀ tk, Q (.bool (lt x y)) { s with toks := tk }) → wpAny (model prog w) A (compareOp .Lt x y) Q E s

/-- the moves of _siftdown -/
def sd (lt : Value → Value → Bool) (start : Nat) (x : Value) (pos : Nat) (vs : List Value) : List Value :=
  if h : start < pos then
    if lt x (vs.getD ((pos - 1) / 2) .none) then sd lt start x ((pos - 1) / 2) (vs.set pos (vs.getD ((pos - 1) / 2) .none)) else vs.set pos x
  else vs.set pos x
termination_by pos
decreasing_by omega

theorem kst_self {m : Str → Option Value} {ps : List (Str × Value)} (h : ∀ p ∈ ps, m p.1 = some p.2) : m = kstB m ps := funext fun _ => (kstB_eq h fun _ => rfl).symm
theorem shr_half {prog : Program} {w : World} {A : Around} {E : Value → Shared → Prop} {s : Shared} {Q : Value → Shared → Prop} {p : Nat} {t u : Tok} (hp : 0 < p) (h : Q (.int (((p - 1) / 2 : Nat) : Int) s.toks) { s with toks := s.toks + 1 }) :
    wpAny (model prog w) A (binaryOp .RShift (.int ((p : Int) - 1) t) (.int 1 u)) Q E s := by
  refine rshift_int (by decide) ?_
  have e : ((p : Int) - 1).fdiv (2 ^ Int.toNat 1) = (((p - 1) / 2 : Nat) : Int) := by
    have h2 : ((2 : Int) ^ Int.toNat 1) = 2 := by decide
    rw [h2, Int.fdiv_eq_ediv_of_nonneg _ (by decide)]
    omega
  rw [e]; exact h
theorem toNat_oa (k : Nat) : (1 + ((k : Nat) : Int)).toNat = 1 + k := by omega
theorem toNat_oas (k : Nat) : (1 + ((k : Nat) : Int) - 1).toNat = 1 + k - 1 := by omega
theorem toNat_succ (k : Nat) : (((k : Nat) : Int) + 1).toNat = k + 1 := by omega
theorem getD_mem {vs : List Value} {k : Nat} (h : k < vs.length) : vs.getD k .none ∈ vs := by
  simp [List.getD, List.getElem?_eq_getElem h]
theorem all_set {S : Value → Prop} {vs : List Value} {k : Nat} {x : Value} (h : ∀ v ∈ vs, S v) (hx : S x) : ∀ v ∈ vs.set k x, S v := fun v hv => by
  rcases List.mem_or_eq_of_mem_set hv with h1 | h1
  · exact h v h1
  · exact h1 ▸ hx
theorem Cmp.mono {prog : Program} {w : World} {g g' : Heap} {S : Value → Prop} {lt : Value → Value → Bool} (h : Cmp prog w g S lt) (hs : g.StaysIn g') : Cmp prog w g' S lt :=
  fun x y hx hy A s Q E hu hk hq => h x y hx hy A s Q E hu (fun b o e => hk b o (hs b o e)) hq

/-- the way down of _siftup: the place where it ends, the row then -/
def su (lt : Value → Value → Bool) (pos : Nat) (vs : List Value) : Nat × List Value :=
  if h : 2 * pos + 1 < vs.length then
    if hr : 2 * pos + 1 + 1 < vs.length ∧ lt (vs.getD (2 * pos + 1) .none) (vs.getD (2 * pos + 1 + 1) .none) = false then
      su lt (2 * pos + 1 + 1) (vs.set pos (vs.getD (2 * pos + 1 + 1) .none))
    else su lt (2 * pos + 1) (vs.set pos (vs.getD (2 * pos + 1) .none))
  else (pos, vs)
termination_by vs.length - pos
decreasing_by all_goals (simp only [List.length_set]; omega)

def sup (lt : Value → Value → Bool) (pos : Nat) (vs : List Value) : List Value :=
  sd lt pos (vs.getD pos .none) (su lt pos vs).1 ((su lt pos vs).2.set (su lt pos vs).1 (vs.getD pos .none))


theorem half_int {prog : Program} {w : World} {A : Around} {E : Value → Shared → Prop} {s : Shared} {Q : Value → Shared → Prop} {p q : Nat} {t u : Tok} (h : Q (.int (((p + q) / 2 : Nat) : Int) s.toks) { s with toks := s.toks + 1 }) :
    wpAny (model prog w) A (binaryOp .FloorDiv (.int ((p : Int) + (q : Int)) t) (.int 2 u)) Q E s := by
  refine floordiv_int (by decide) ?_
  have e : ((p : Int) + (q : Int)).fdiv 2 = (((p + q) / 2 : Nat) : Int) := by
    rw [Int.fdiv_eq_ediv_of_nonneg _ (by decide)]
    omega
  rw [e]; exact h
/-- the place that bisect_right finds -/
def bisR (lt : Value → Value → Bool) (x : Value) (vs : List Value) (lo hi : Nat) : Nat :=
  if h : lo < hi then
    if lt x (vs.getD ((lo + hi) / 2) .none) then bisR lt x vs lo ((lo + hi) / 2) else bisR lt x vs ((lo + hi) / 2 + 1) hi
  else lo
termination_by hi - lo
decreasing_by all_goals omega
/-- the place that bisect_left finds -/
def bisL (lt : Value → Value → Bool) (x : Value) (vs : List Value) (lo hi : Nat) : Nat :=
  if h : lo < hi then
    if lt (vs.getD ((lo + hi) / 2) .none) x then bisL lt x vs ((lo + hi) / 2 + 1) hi else bisL lt x vs lo ((lo + hi) / 2)
  else lo
termination_by hi - lo
decreasing_by all_goals omega

theorem bisL_le {lt : Value → Value → Bool} {x : Value} {vs : List Value} : ∀ {lo hi : Nat}, lo ≤ hi → bisL lt x vs lo hi ≤ hi := by
  intro lo hi
  induction hd : hi - lo using Nat.strongRecOn generalizing lo hi with
  | _ n ih =>
    intro h
    rw [bisL]
    split
    · split
      · exact ih _ (by omega) rfl (by omega)
      · have := ih _ (by omega) (lo := lo) (hi := (lo + hi) / 2) rfl (by omega); omega
    · exact h
theorem bisR_le {lt : Value → Value → Bool} {x : Value} {vs : List Value} : ∀ {lo hi : Nat}, lo ≤ hi → bisR lt x vs lo hi ≤ hi := by
  intro lo hi
  induction hd : hi - lo using Nat.strongRecOn generalizing lo hi with
  | _ n ih =>
    intro h
    rw [bisR]
    split
    · split
      · have := ih _ (by omega) (lo := lo) (hi := (lo + hi) / 2) rfl (by omega); omega
      · exact ih _ (by omega) rfl (by omega)
    · exact h
def insAt (vs : List Value) (k : Nat) (x : Value) : List Value := vs.take k ++ x :: vs.drop k
theorem insAt_length {vs : List Value} {k : Nat} {x : Value} (h : k ≤ vs.length) : (insAt vs k x).length = vs.length + 1 := by
  simp [insAt]; omega
theorem insAt_mem {vs : List Value} {k : Nat} {x : Value} {v : Value} (h : v ∈ insAt vs k x) : v = x ∨ v ∈ vs := by
  simp [insAt] at h
  rcases h with h | h | h
  · exact .inr (List.mem_of_mem_take h)
  · exact .inl h
  · exact .inr (List.mem_of_mem_drop h)
def insL (lt : Value → Value → Bool) (vs : List Value) (x : Value) : List Value := insAt vs (bisL lt x vs 0 vs.length) x
def insR (lt : Value → Value → Bool) (vs : List Value) (x : Value) : List Value := insAt vs (bisR lt x vs 0 vs.length) x

theorem wp_cut {α : Type} {M : Model} {A : Around} {t : Sem α} {Q : α → Shared → Prop} {E : Value → Shared → Prop} {s : Shared} (P : α → Shared → Prop) (h : wpAny M A t P E s) (k : ∀ a s', P a s' → Q a s') : wpAny M A t Q E s := wpAny_mono h k fun _ _ x => x
theorem news_more {h₀ h : Heap} {L : Addr} {var kept own : List (Addr × Obj)} (N : News h₀ L h (var ++ own)) (hk : ∀ p ∈ kept, p ∈ own) : News h₀ L h (var ++ (kept ++ own)) := fun p hp => N p (by
  simp only [List.mem_append] at hp ⊢
  rcases hp with h1 | h1 | h1
  · exact .inl h1
  · exact .inr (hk p h1)
  · exact .inr h1)
/-- ints among the values -/
def ival : Value → Int
  | .int i _ => i
  | _ => 0
def IsInt (v : Value) : Prop := ∃ i t, v = .int i t
def ltI (x y : Value) : Bool := decide (ival x < ival y)
theorem cmp_ints (prog : Program) (w : World) (g : Heap) : Cmp prog w g IsInt ltI := by
  rintro x y ⟨i, t, rfl⟩ ⟨j, u, rfl⟩ A s Q E _ _ hq
  exact lt_int (hq s.toks)
theorem isInt_of {vs : List Value} {ns : List Int} (h : IntsAre vs ns) : ∀ v ∈ vs, IsInt v := by
  induction h with
  | nil => intro v hv; cases hv
  | cons i t _ ih =>
    intro v hv
    rcases List.mem_cons.mp hv with rfl | hv
    · exact ⟨i, t, rfl⟩
    · exact ih v hv
theorem ival_of {vs : List Value} {ns : List Int} (h : IntsAre vs ns) : vs.map ival = ns := by
  induction h with
  | nil => rfl
  | cons i t _ ih => rw [List.map_cons, ih]; rfl
theorem intsAre_of {vs : List Value} (h : ∀ v ∈ vs, IsInt v) : IntsAre vs (vs.map ival) := by
  induction vs with
  | nil => exact .nil
  | cons x r ih =>
    obtain ⟨i, t, rfl⟩ := h _ (.head _)
    exact .cons i t (ih fun v hv => h v (.tail _ hv))

def IsNext (f : Flow) : Prop := f = .next
theorem fr_kst {h₀ h : Heap} {L : Addr} {m : Str → Option Value} {ps : List (Str × Value)} (F : Fr h₀ L h m) (hp : ∀ p ∈ ps, m p.1 = some p.2) : Fr h₀ L h (kstB m ps) := by
  rw [← kst_self hp]; exact F

theorem cell_cast {o : Obj} {x : Int} {t : Tok} (h : o.data = .cell (some (.int x t))) (hx : 0 ≤ x) : o.data = .cell (some (.int (x.toNat : Int) t)) := by
  rw [Int.toNat_of_nonneg hx]; exact h

theorem at_law {K : Frag} {p : Program} {loose : List Str} {mean : ExcName → Option Value} {mg mb : Str → Option Value} {h₀ : Heap} {L : Addr} (B : Below callerA h₀ [] h₀) (X : K.In h₀) (T : Top p loose mean mg mb h₀) (env : Env)
    (hf : env.frame = some L) (hk : env.scope.kind = .function) : At K p loose mean mg mb (callerA.deeper env) h₀ L 20 :=
  ⟨⟨callerA, h₀, [], env, B, rfl, hf, hk⟩, X, T, by show callerA.depth + 1 + 20 < _; decide, by show callerA.units + 3 + 16 * 20 + 16 < _; decide, rfl⟩

def hpush (lt : Value → Value → Bool) (vs : List Value) (x : Value) : List Value := sd lt 0 x vs.length (vs ++ [x])
/-- heappop of a row that is not empty: ws and a last one y -/
def hpop (lt : Value → Value → Bool) (ws : List Value) (y : Value) : Value × List Value := if ws = [] then (y, []) else (ws.getD 0 .none, sup lt 0 (ws.set 0 y))
def hppop (lt : Value → Value → Bool) (vs : List Value) (x : Value) : Value × List Value := if vs ≠ [] ∧ lt (vs.getD 0 .none) x = true then (vs.getD 0 .none, sup lt 0 (vs.set 0 x)) else (x, vs)

theorem drop_mid2 {h₀ h : Heap} {L : Addr} {a b c d : Addr × Obj} {own : List (Addr × Obj)} (N : News h₀ L h (a :: b :: c :: d :: own)) : News h₀ L h ([a, b] ++ own) := fun p hp => N p (by
  simp only [List.cons_append, List.nil_append, List.mem_cons] at hp ⊢
  rcases hp with h | h | h <;> simp [h])
theorem drop_mid1 {h₀ h : Heap} {L : Addr} {a b c : Addr × Obj} {own : List (Addr × Obj)} (N : News h₀ L h (a :: b :: c :: own)) : News h₀ L h ([a, b] ++ own) := fun p hp => N p (by
  simp only [List.cons_append, List.nil_append, List.mem_cons] at hp ⊢
  rcases hp with h | h | h <;> simp [h])

theorem law_units (env : Env) : (callerA.deeper env).units + 64 < cLine := by show callerA.units + 3 + 64 < _; decide
theorem drop_hd {h₀ h : Heap} {L : Addr} {a : Addr × Obj} {own : List (Addr × Obj)} (N : News h₀ L h (a :: own)) : News h₀ L h own := fun p hp => N p (.tail _ hp)

theorem drop_mid3 {h₀ h : Heap} {L : Addr} {a b c d : Addr × Obj} {own : List (Addr × Obj)} (N : News h₀ L h ([a] ++ b :: c :: d :: own)) : News h₀ L h ([a] ++ own) := fun p hp => N p (by
  simp only [List.cons_append, List.nil_append, List.mem_cons] at hp ⊢
  rcases hp with h | h <;> simp [h])

theorem rep_flat {α : Type} (v : α) : ∀ k : Nat, (List.replicate k [v]).flatten = List.replicate k v
  | 0 => rfl
  | k + 1 => by rw [List.replicate_succ, List.flatten_cons, rep_flat v k]; rfl
theorem ints_append {vs us : List Value} {ns ms : List Int} (h : IntsAre vs ns) (h' : IntsAre us ms) : IntsAre (vs ++ us) (ns ++ ms) := by
  induction h with
  | nil => exact h'
  | cons i t _ ih => exact .cons i t ih

def hrep (lt : Value → Value → Bool) (vs : List Value) (x : Value) : Value × List Value := (vs.getD 0 .none, sup lt 0 (vs.set 0 x))
def hfyFrom (lt : Value → Value → Bool) : Nat → List Value → List Value
  | 0, vs => vs
  | k + 1, vs => hfyFrom lt k (sup lt k vs)
def hfy (lt : Value → Value → Bool) (vs : List Value) : List Value := hfyFrom lt (vs.length / 2) vs
theorem half1_int {prog : Program} {w : World} {A : Around} {E : Value → Shared → Prop} {s : Shared} {Q : Value → Shared → Prop} {p : Nat} {t u : Tok} (h : Q (.int ((p / 2 : Nat) : Int) s.toks) { s with toks := s.toks + 1 }) :
    wpAny (model prog w) A (binaryOp .FloorDiv (.int (p : Int) t) (.int 2 u)) Q E s := by
  refine floordiv_int (by decide) ?_
  have e : ((p : Int)).fdiv 2 = ((p / 2 : Nat) : Int) := by
    rw [Int.fdiv_eq_ediv_of_nonneg _ (by decide)]
    omega
  rw [e]; exact h
theorem sub1_half {prog : Program} {w : World} {A : Around} {E : Value → Shared → Prop} {s : Shared} {Q : Value → Shared → Prop} {p : Nat} {t u : Tok} (hp : 0 < p) (h : Q (.int (((p - 1) / 2 : Nat) : Int) s.toks) { s with toks := s.toks + 1 }) :
    wpAny (model prog w) A (binaryOp .FloorDiv (.int ((p : Int) - 1) t) (.int 2 u)) Q E s := by
  refine floordiv_int (by decide) ?_
  have e : ((p : Int) - 1).fdiv 2 = (((p - 1) / 2 : Nat) : Int) := by
    rw [Int.fdiv_eq_ediv_of_nonneg _ (by decide)]
    omega
  rw [e]; exact h
/-- a turn's end, in a loop whose things are var' (they turn) and own (they stay) -/
def LoopEnd (h₀ : Heap) (L : Addr) (s : Shared) (own : List (Addr × Obj)) (Jn : (Str → Option Value) → List (Addr × Obj) → Prop) (Q : Flow → Shared → Prop) (f : Flow) (s' : Shared) : Prop :=
  match f with
  | .ret v => Q (.ret v) s'
  | .brk => Q .next s'
  | _ => ∃ h' tk m' var', s' = { s with heap := h', toks := tk } ∧ Fr h₀ L h' m' ∧ News h₀ L h' (var' ++ own) ∧ (∀ p ∈ own, ∀ q ∈ var', p.1 ≠ q.1) ∧ Jn m' var'
section
variable {prog : Program} {w : World} {A : Around} {E : Value → Shared → Prop} {s s₂ : Shared} {env : Env} {h₀ : Heap} {x : Str} {body : List Stmt} {Q : Flow → Shared → Prop} {m : Str → Option Value} {kept news : List (Addr × Obj)}
theorem loop_walks {I : Addr} {fp wr : List Addr} {n : Nat} {P : Nat → Value → Prop} {St : Nat → Heap → Prop} (W : Walks prog w A I fp wr n P St) (hLf : env.locals ∉ fp) (hwr : ∀ b ∈ wr, h₀.get? b = none) (hst : St 0 s₂.heap)
    (hlive : ∀ i h, St i h → ∀ b ∈ fp, ∃ o, h.get? b = some o) (F : Fr h₀ env.locals s₂.heap m) (N : News h₀ env.locals s₂.heap (news ++ kept)) (hsep : ∀ p ∈ kept, ∀ q ∈ news, p.1 ≠ q.1) (hnf : ∀ q ∈ news, q.1 ∉ fp) (hkw : ∀ p ∈ kept, p.1 ∉ wr)
    (J : Nat → (Str → Option Value) → List (Addr × Obj) → Prop) (hJ : J 0 m news)
    (turn : ∀ i v m₁ var h tk own, i < n → P i v → J i m₁ var → (∀ p ∈ kept, p ∈ own) → (∀ p ∈ own, ∀ q ∈ var, p.1 ≠ q.1) → Fr h₀ env.locals h (fun y => if y = x then some v else m₁ y) → News h₀ env.locals h (var ++ own) →
      wpAny (model prog w) A (execs body env) (LoopEnd h₀ env.locals s₂ own (J (i + 1)) Q) E { s₂ with heap := h, toks := tk })
    (done : ∀ m₁ var h tk, J n m₁ var → (∀ p ∈ kept, ∀ q ∈ var, p.1 ≠ q.1) → Fr h₀ env.locals h m₁ → News h₀ env.locals h (var ++ kept) → Q .next { s₂ with heap := h, toks := tk }) :
    LoopAtV prog w A h₀ env x body Q E (.ref I) s₂ := by
  refine ⟨I, fp, wr, n, P, St, m, news ++ kept, fun i m₁ ns => ∃ var, ns = var ++ kept ∧ J i m₁ var ∧ (∀ q ∈ var, q.1 ∉ fp) ∧ (∀ p ∈ kept, ∀ q ∈ var, p.1 ≠ q.1), rfl, W, hLf, hwr, ?_, hst, F, N, ⟨news, rfl, hJ, hnf, hsep⟩, ?_, ?_⟩
  · intro p hp
    rcases List.mem_append.mp hp with hp | hp
    · exact fun hb => hnf p hp (W.sub _ hb)
    · exact hkw p hp
  · rintro i v m₁ ns s₁ own ⟨h, tk, rfl⟩ hi hP ⟨var, rfl, hJ₁, hvf, hkv⟩ hnw hown hownh hmem hSt F₁ N₁
    refine wpAny_mono (turn i v m₁ var h tk (own ++ kept) hi hP hJ₁ (fun p hp => List.mem_append_right _ hp) (fun p hp q hq => ?_) F₁ (fun p hp => N₁ p ?_)) (fun f s' hf => ?_) fun _ _ e => e
    · rcases List.mem_append.mp hp with hp | hp
      · exact fun e => hvf q hq (e ▸ hown p hp)
      · exact hkv p hp q hq
    · rcases List.mem_append.mp hp with hp | hp
      · exact List.mem_append_right _ (List.mem_append_left _ hp)
      · rcases List.mem_append.mp hp with hp | hp
        · exact List.mem_append_left _ hp
        · exact List.mem_append_right _ (List.mem_append_right _ hp)
    · have fin : (∃ h' tk' m' var', s' = { s₂ with heap := h', toks := tk' } ∧ Fr h₀ env.locals h' m' ∧ News h₀ env.locals h' (var' ++ (own ++ kept)) ∧ (∀ p ∈ own ++ kept, ∀ q ∈ var', p.1 ≠ q.1) ∧ J (i + 1) m' var') →
          LoopStepU h₀ env.locals wr own (fun m₁ ns => ∃ var, ns = var ++ kept ∧ J (i + 1) m₁ var ∧ (∀ q ∈ var, q.1 ∉ fp) ∧ (∀ p ∈ kept, ∀ q ∈ var, p.1 ≠ q.1)) { s₂ with heap := h, toks := tk } .next s' := by
        rintro ⟨h', tk', m', var', rfl, F', N', hs', hJ'⟩
        have hvf' : ∀ q ∈ var', q.1 ∉ fp := fun q hq hb => by
          obtain ⟨o, ho⟩ := hlive _ _ hSt q.1 hb
          exact hs' _ (List.mem_append_left _ (hmem _ hb (N' q (List.mem_append_left _ hq)).2.2 o ho)) q hq rfl
        refine ⟨rfl, h', tk', m', var' ++ kept, rfl, F', fun p hp => N' p ?_, fun p hp => ?_, var', rfl, hJ', hvf', fun p hp q hq => hs' p (List.mem_append_right _ hp) q hq⟩
        · rcases List.mem_append.mp hp with hp | hp
          · exact List.mem_append_right _ (List.mem_append_left _ hp)
          · rcases List.mem_append.mp hp with hp | hp
            · exact List.mem_append_left _ hp
            · exact List.mem_append_right _ (List.mem_append_right _ hp)
        · rcases List.mem_append.mp hp with hp | hp
          · exact fun hb => hvf' p hp (W.sub _ hb)
          · exact hkw p hp
      cases f with
      | ret v => exact .ret hf
      | brk => exact .brk hf
      | next => exact .next (fin hf)
      | cont => exact .cont (fin hf)
  · rintro h' tk m' ns F' N' hw ⟨var, rfl, hJ', hvf, hkv⟩
    exact done m' var h' tk hJ' hkv F' N'

theorem iter_list {l : Addr} {vs : List Value} (hh : A.handled = none) (hl : s.heap.IsList l vs.toArray) (hlL : l ≠ env.locals) (F : Fr h₀ env.locals s.heap m) (N : News h₀ env.locals s.heap (news ++ kept)) (hsep : ∀ p ∈ kept, ∀ q ∈ news, p.1 ≠ q.1) (hnl : ∀ q ∈ news, q.1 ≠ l)
    (J : Nat → (Str → Option Value) → List (Addr × Obj) → Prop) (hJ : J 0 m news)
    (turn : ∀ i v m₁ var h tk own, vs[i]? = some v → J i m₁ var → (∀ p ∈ kept, p ∈ own) → (∀ p ∈ own, ∀ q ∈ var, p.1 ≠ q.1) → Fr h₀ env.locals h (fun y => if y = x then some v else m₁ y) → News h₀ env.locals h (var ++ own) →
      wpAny (model prog w) A (execs body env) (LoopEnd h₀ env.locals s own (J (i + 1)) Q) E { s with heap := h, toks := tk })
    (done : ∀ m₁ var h tk, J vs.length m₁ var → (∀ p ∈ kept, ∀ q ∈ var, p.1 ≠ q.1) → Fr h₀ env.locals h m₁ → News h₀ env.locals h (var ++ kept) → Q .next { s with heap := h, toks := tk }) :
    wpAny (model prog w) A (pyIter (.ref l)) (fun it s₂ => LoopAtV prog w A h₀ env x body Q E it s₂) E s := by
  obtain ⟨ol, hol, hol2⟩ := id hl
  have hne : l ≠ s.heap.objs.size := Nat.ne_of_lt (Heap.lt_size hol)
  refine wpAny_pyIter_list hl ?_
  have W := Walks.list (prog := prog) (w := w) hh s.heap.objs.size l hne vs.toArray
  refine loop_walks (kept := kept) (news := news) (m := m) W ?_ ?_ ⟨⟨_, Heap.get?_push_size _ rfl, rfl, rfl⟩, hl.at fun o e => Heap.get?_push_of_some _ e⟩ ?_ (F.push _) (fun p hp => ⟨Heap.get?_push_of_some _ (N p hp).1, (N p hp).2⟩) hsep ?_ ?_ J hJ ?_ ?_
  · intro hm
    rcases List.mem_cons.mp hm with e | hm
    · exact absurd F.ns.lt (e ▸ Nat.lt_irrefl _)
    · exact hlL (List.mem_singleton.mp hm).symm
  · intro b hb
    rw [List.mem_singleton.mp hb]
    exact next_is_new F
  · rintro i h ⟨⟨o, ho, _⟩, o', ho', _⟩ b hb
    rcases List.mem_cons.mp hb with rfl | hb
    · exact ⟨o, ho⟩
    · exact (List.mem_singleton.mp hb) ▸ ⟨o', ho'⟩
  · intro q hq hb
    rcases List.mem_cons.mp hb with e | hb
    · exact absurd (Heap.lt_size (N q (List.mem_append_left _ hq)).1) (e ▸ Nat.lt_irrefl _)
    · exact hnl q hq (List.mem_singleton.mp hb)
  · intro p hp hb
    exact absurd (Heap.lt_size (N p (List.mem_append_right _ hp)).1) ((List.mem_singleton.mp hb) ▸ Nat.lt_irrefl _)
  · intro i v m₁ var h tk own hi hP hJ' h1 h2 F' N'
    exact turn i v m₁ var h tk own (by simpa using hP) hJ' h1 h2 F' N'
  · intro m₁ var h tk hJ' h1 F' N'
    exact done m₁ var h tk (by simpa using hJ') h1 F' N'

theorem iter_range {r : Addr} {a b c : Int} {t u v : Tok} {n : Nat} (hh : A.handled = none) (hr : IsRange s.heap r a b c t u v) (hsmall : Builtin.Range.small a b c = true) (hn : Builtin.Range.rangeSize a b c = n)
    (F : Fr h₀ env.locals s.heap m) (N : News h₀ env.locals s.heap (news ++ kept)) (hsep : ∀ p ∈ kept, ∀ q ∈ news, p.1 ≠ q.1)
    (J : Nat → (Str → Option Value) → List (Addr × Obj) → Prop) (hJ : J 0 m news)
    (turn : ∀ i t m₁ var h tk own, i < n → J i m₁ var → (∀ p ∈ kept, p ∈ own) → (∀ p ∈ own, ∀ q ∈ var, p.1 ≠ q.1) → Fr h₀ env.locals h (fun y => if y = x then some (.int (a + (i : Int) * c) t) else m₁ y) → News h₀ env.locals h (var ++ own) →
      wpAny (model prog w) A (execs body env) (LoopEnd h₀ env.locals s own (J (i + 1)) Q) E { s with heap := h, toks := tk })
    (done : ∀ m₁ var h tk, J n m₁ var → (∀ p ∈ kept, ∀ q ∈ var, p.1 ≠ q.1) → Fr h₀ env.locals h m₁ → News h₀ env.locals h (var ++ kept) → Q .next { s with heap := h, toks := tk }) :
    wpAny (model prog w) A (pyIter (.ref r)) (fun it s₂ => LoopAtV prog w A h₀ env x body Q E it s₂) E s := by
  refine wpAny_pyIter_range hr hsmall ?_
  have W := Walks.range (prog := prog) (w := w) hh s.heap.objs.size a c n
  refine loop_walks (kept := kept) (news := news) (m := m) W ?_ ?_ ?_ ?_ (F.push _) (fun p hp => ⟨Heap.get?_push_of_some _ (N p hp).1, (N p hp).2⟩) hsep ?_ ?_ J hJ ?_ ?_
  · intro hm
    exact absurd F.ns.lt ((List.mem_singleton.mp hm) ▸ Nat.lt_irrefl _)
  · intro b hb
    rw [List.mem_singleton.mp hb]
    exact next_is_new F
  · have e : a + ((0 : Nat) : Int) * c = a := by simp
    have e2 : (n : Int) - ((0 : Nat) : Int) = n := by simp
    show IsRangeIter (s.heap.push _) s.heap.objs.size (a + ((0 : Nat) : Int) * c) ((n : Int) - ((0 : Nat) : Int)) c
    rw [e, e2, ← hn]
    exact Heap.get?_push_size _ rfl
  · intro i h hst b hb
    exact (List.mem_singleton.mp hb) ▸ ⟨_, hst⟩
  · intro q hq hb
    exact absurd (Heap.lt_size (N q (List.mem_append_left _ hq)).1) ((List.mem_singleton.mp hb) ▸ Nat.lt_irrefl _)
  · intro p hp hb
    exact absurd (Heap.lt_size (N p (List.mem_append_right _ hp)).1) ((List.mem_singleton.mp hb) ▸ Nat.lt_irrefl _)
  · rintro i v m₁ var h tk own hi ⟨t', rfl⟩ hJ' h1 h2 F' N'
    exact turn i t' m₁ var h tk own hi hJ' h1 h2 F' N'
  · intro m₁ var h tk hJ' h1 F' N'
    exact done m₁ var h tk hJ' h1 F' N'

theorem iter_range_up {r : Addr} {a b : Int} {t u v : Tok} (n : Nat) (hh : A.handled = none) (hr : IsRange s.heap r a b 1 t u v) (ha : -1000000 ≤ a) (ha' : a < 1000000) (hb : -1000000 ≤ b) (hb' : b < 1000000) (hn : n = (b - a).toNat)
    (F : Fr h₀ env.locals s.heap m) (N : News h₀ env.locals s.heap (news ++ kept)) (hsep : ∀ p ∈ kept, ∀ q ∈ news, p.1 ≠ q.1)
    (J : Nat → (Str → Option Value) → List (Addr × Obj) → Prop) (hJ : J 0 m news)
    (turn : ∀ i t m₁ var h tk own, i < n → J i m₁ var → (∀ p ∈ kept, p ∈ own) → (∀ p ∈ own, ∀ q ∈ var, p.1 ≠ q.1) → Fr h₀ env.locals h (fun y => if y = x then some (.int (a + (i : Int)) t) else m₁ y) → News h₀ env.locals h (var ++ own) →
      wpAny (model prog w) A (execs body env) (LoopEnd h₀ env.locals s own (J (i + 1)) Q) E { s with heap := h, toks := tk })
    (done : ∀ m₁ var h tk, J n m₁ var → (∀ p ∈ kept, ∀ q ∈ var, p.1 ≠ q.1) → Fr h₀ env.locals h m₁ → News h₀ env.locals h (var ++ kept) → Q .next { s with heap := h, toks := tk }) :
    wpAny (model prog w) A (pyIter (.ref r)) (fun it s₂ => LoopAtV prog w A h₀ env x body Q E it s₂) E s := by
  refine iter_range (n := n) hh hr (small_one (by omega) (by omega) (by omega) (by omega)) (by rw [hn]; exact rangeSize_nat a b) F N hsep J hJ ?_ done
  intro i t m₁ var h tk own hi hj h1 h2 F' N'
  rw [Int.mul_one] at F'
  exact turn i t m₁ var h tk own hi hj h1 h2 F' N'
theorem iter_range_down {r : Addr} {a b : Int} {t u v : Tok} (n : Nat) (hh : A.handled = none) (hr : IsRange s.heap r a b (-1) t u v) (ha : -1000000 ≤ a) (ha' : a < 1000000) (hb : -1000000 ≤ b) (hb' : b < 1000000) (hn : n = (a - b).toNat)
    (F : Fr h₀ env.locals s.heap m) (N : News h₀ env.locals s.heap (news ++ kept)) (hsep : ∀ p ∈ kept, ∀ q ∈ news, p.1 ≠ q.1)
    (J : Nat → (Str → Option Value) → List (Addr × Obj) → Prop) (hJ : J 0 m news)
    (turn : ∀ i t m₁ var h tk own, i < n → J i m₁ var → (∀ p ∈ kept, p ∈ own) → (∀ p ∈ own, ∀ q ∈ var, p.1 ≠ q.1) → Fr h₀ env.locals h (fun y => if y = x then some (.int (a - (i : Int)) t) else m₁ y) → News h₀ env.locals h (var ++ own) →
      wpAny (model prog w) A (execs body env) (LoopEnd h₀ env.locals s own (J (i + 1)) Q) E { s with heap := h, toks := tk })
    (done : ∀ m₁ var h tk, J n m₁ var → (∀ p ∈ kept, ∀ q ∈ var, p.1 ≠ q.1) → Fr h₀ env.locals h m₁ → News h₀ env.locals h (var ++ kept) → Q .next { s with heap := h, toks := tk }) :
    wpAny (model prog w) A (pyIter (.ref r)) (fun it s₂ => LoopAtV prog w A h₀ env x body Q E it s₂) E s := by
  refine iter_range (n := n) hh hr (small_down (by omega) (by omega) (by omega) (by omega)) (by rw [hn]; exact rangeSize_downNat a b) F N hsep J hJ ?_ done
  intro i t m₁ var h tk own hi hj h1 h2 F' N'
  have e : a + (i : Int) * (-1) = a - i := by omega
  rw [e] at F'
  exact turn i t m₁ var h tk own hi hj h1 h2 F' N'
end

section
variable {prog : Program} {w : World} {A : Around} {h₀ : Heap} {L : Addr} {m : Str → Option Value} {env : Env} {elt : Expr} {x : Str} {scope : Scope} {cl : List (Str × Addr)} {s : Shared} {S : List (Addr × Obj) → Prop} {P : Nat → Value → Prop} {Fin : List Value → List (Addr × Obj) → Prop}
theorem comp_rest {n : Nat} {news₀ : List (Addr × Obj)} (J : Nat → List Value → List (Addr × Obj) → Prop) (hJ : J 0 [] news₀)
    (turn : ∀ i v I oI C oC D m₂ ys news h tk (E' : Value → Shared → Prop), i < n → P i v → J i ys news → LCg.NsObj oC m₂ → m₂ x = some v → Fr h₀ L h m → News h₀ L h ((I, oI) :: (C, oC) :: (D, LCg.lst ys) :: news) → LCg.Off3 I C D news → ((@Ne Nat I C) ∧ (@Ne Nat I D) ∧ (@Ne Nat C D)) →
      wpAny (model prog w) A (eval elt (compEnvC scope cl C env)) (LCg.CompEnd h₀ L m { s with heap := h, toks := tk } I oI C oC D (LCg.lst ys) S (fun y news' => J (i + 1) (ys ++ [y]) news')) E' { s with heap := h, toks := tk })
    (fin : ∀ ys news, J n ys news → Fin ys news) : LCg.CompRest prog w A h₀ L m env elt x scope cl s S P Fin n 0 [] news₀ := by
  have key : ∀ (j i : Nat) (ys : List Value) (news : List (Addr × Obj)), i + j = n → J i ys news → LCg.CompRest prog w A h₀ L m env elt x scope cl s S P Fin j i ys news := by
    intro j
    induction j with
    | zero =>
      intro i ys news hi hj
      obtain rfl : i = n := by omega
      exact LCg.CompRest.zero (fin ys news hj)
    | succ j ih =>
      intro i ys news hi hj
      refine LCg.CompRest.succ ?_
      intro v I oI C oC D m₂ h tk E' hv hC hx F N off ne
      refine wpAny_mono (turn i v I oI C oC D m₂ ys news h tk E' (by omega) hv hj hC hx F N off ne) (fun y s₂ hq => ?_) fun _ _ e => e
      obtain ⟨h', tk', nw, e, F', N', off', hS, hn⟩ := hq
      exact ⟨h', tk', nw, e, F', N', off', hS, ih (i + 1) _ _ (by omega) hn⟩
  exact key n 0 [] news₀ (by omega) hJ
end
theorem getD_set {vs : List Value} {i j : Nat} {x d : Value} (h : j < vs.length) : (vs.set j x).getD i d = if i = j then x else vs.getD i d := by
  simp only [List.getD, List.getElem?_set]
  by_cases e : i = j
  · subst e; simp [h]
  · have e' : ¬ j = i := fun q => e q.symm
    simp [e, e']
theorem set_swap {vs : List Value} {i j : Nat} {x : Value} (hi : i < vs.length) (hj : j < vs.length) (h : j ≠ i) : ((vs.set i (vs.getD j .none)).set j x).Perm (vs.set i x) := by
  have hp := List.set_set_perm (as := vs.set i x) (i := i) (j := j) (by simpa using hi) (by simpa using hj)
  have e1 : (vs.set i x)[j]'(by simpa using hj) = vs.getD j .none := by
    rw [List.getElem_set_ne (by omega)]; simp [List.getD, hj]
  have e2 : (vs.set i x)[i]'(by simpa using hi) = x := by simp
  rw [e1, e2, List.set_set] at hp
  exact hp
theorem sd_perm {lt : Value → Value → Bool} {start : Nat} {x : Value} : ∀ (pos : Nat) (vs : List Value), pos < vs.length → (sd lt start x pos vs).Perm (vs.set pos x) := by
  intro pos
  induction pos using Nat.strongRecOn with
  | _ pos ih =>
    intro vs h
    rw [sd]
    split
    · split
      · refine (ih _ (by omega) _ (by simp only [List.length_set]; omega)).trans ?_
        exact set_swap h (by omega) (by omega)
      · exact .refl _
    · exact .refl _
theorem su_len {lt : Value → Value → Bool} : ∀ (k pos : Nat) (vs : List Value), vs.length - pos = k → pos < vs.length → (su lt pos vs).2.length = vs.length ∧ (su lt pos vs).1 < vs.length := by
  intro k
  induction k using Nat.strongRecOn with
  | _ k ih =>
    intro pos vs hk h
    rw [su]
    split
    · split
      · have := ih _ (by simp only [List.length_set]; omega) (2 * pos + 1 + 1) (vs.set pos (vs.getD (2 * pos + 1 + 1) .none)) rfl (by simp only [List.length_set]; omega)
        simpa only [List.length_set] using this
      · have := ih _ (by simp only [List.length_set]; omega) (2 * pos + 1) (vs.set pos (vs.getD (2 * pos + 1) .none)) rfl (by simp only [List.length_set]; omega)
        simpa only [List.length_set] using this
    · exact ⟨rfl, h⟩
theorem su_perm {lt : Value → Value → Bool} {x : Value} : ∀ (k pos : Nat) (vs : List Value), vs.length - pos = k → pos < vs.length → ((su lt pos vs).2.set (su lt pos vs).1 x).Perm (vs.set pos x) := by
  intro k
  induction k using Nat.strongRecOn with
  | _ k ih =>
    intro pos vs hk h
    rw [su]
    split
    · split
      · refine (ih _ (by simp only [List.length_set]; omega) (2 * pos + 1 + 1) (vs.set pos (vs.getD (2 * pos + 1 + 1) .none)) rfl (by simp only [List.length_set]; omega)).trans ?_
        exact set_swap h (by omega) (by omega)
      · refine (ih _ (by simp only [List.length_set]; omega) (2 * pos + 1) (vs.set pos (vs.getD (2 * pos + 1) .none)) rfl (by simp only [List.length_set]; omega)).trans ?_
        exact set_swap h (by omega) (by omega)
    · exact .refl _
theorem set_self {vs : List Value} {i : Nat} (h : i < vs.length) : vs.set i (vs.getD i .none) = vs := by
  apply List.ext_getElem?
  intro j
  rw [List.getElem?_set]
  by_cases e : i = j
  · subst e; simp [h, List.getD]
  · simp [e]
theorem sup_perm {lt : Value → Value → Bool} {pos : Nat} {vs : List Value} (h : pos < vs.length) : (sup lt pos vs).Perm vs := by
  obtain ⟨h1, h2⟩ := su_len (lt := lt) _ pos vs rfl h
  refine (sd_perm _ _ (by simp only [List.length_set]; omega)).trans ?_
  rw [List.set_set]
  refine (su_perm _ pos vs rfl h).trans ?_
  rw [set_self h]
theorem hpush_perm {lt : Value → Value → Bool} {vs : List Value} {x : Value} : (hpush lt vs x).Perm (x :: vs) := by
  refine (sd_perm _ _ (by simp)).trans ?_
  have e : (vs ++ [x]).set vs.length x = vs ++ [x] := by
    rw [List.set_append_right _ _ (Nat.le_refl _)]; simp
  rw [e]
  exact List.perm_append_comm
theorem set_perm_cons {vs : List Value} {x : Value} (h : 0 < vs.length) : (vs.getD 0 .none :: vs.set 0 x).Perm (x :: vs) := by
  cases vs with
  | nil => simp at h
  | cons y r => simp only [List.getD_cons_zero, List.set_cons_zero]; exact List.Perm.swap _ _ _
theorem hppop_perm {lt : Value → Value → Bool} {vs : List Value} {x : Value} : ((hppop lt vs x).1 :: (hppop lt vs x).2).Perm (x :: vs) := by
  rw [hppop]
  split
  · rename_i h
    have hl := List.length_pos_iff.mpr h.1
    exact ((sup_perm (by simpa using hl)).cons _).trans (set_perm_cons hl)
  · exact .refl _
theorem hpop_perm {lt : Value → Value → Bool} {ws : List Value} {y : Value} : ((hpop lt ws y).1 :: (hpop lt ws y).2).Perm (ws ++ [y]) := by
  rw [hpop]
  split
  · rename_i h; subst h; exact .refl _
  · rename_i h
    have hl := List.length_pos_iff.mpr h
    exact (((sup_perm (by simpa using hl)).cons _).trans (set_perm_cons hl)).trans (List.perm_append_comm (l₁ := [y]) (l₂ := ws))

/-- an order by «less»: what the laws need -/
structure WO (lt : Value → Value → Bool) : Prop where
  asym : ∀ x y, lt x y = true → lt y x = false
  ntr : ∀ x y z, lt x y = false → lt y z = false → lt x z = false
theorem WO.irr {lt : Value → Value → Bool} (o : WO lt) (x : Value) : lt x x = false := by
  cases h : lt x x with
  | false => rfl
  | true => have := o.asym x x h; rw [h] at this; cases this
theorem wo_int : WO ltI := ⟨fun x y h => by simp only [ltI, decide_eq_true_eq, decide_eq_false_iff_not] at *; omega, fun x y z h1 h2 => by simp only [ltI, decide_eq_false_iff_not] at *; omega⟩

/-- in order, at every place whose parent is s or behind s -/
def HeapAt (lt : Value → Value → Bool) (s : Nat) (vs : List Value) : Prop := ∀ i, 0 < i → i < vs.length → s ≤ (i - 1) / 2 → lt (vs.getD i .none) (vs.getD ((i - 1) / 2) .none) = false
inductive Desc (s : Nat) : Nat → Prop
  | refl : Desc s s
  | left {p : Nat} : Desc s p → Desc s (2 * p + 1)
  | right {p : Nat} : Desc s p → Desc s (2 * p + 1 + 1)
theorem Desc.le {s p : Nat} (h : Desc s p) : s ≤ p := by
  induction h with
  | refl => exact Nat.le_refl _
  | left _ ih => omega
  | right _ ih => omega
theorem Desc.up {s p : Nat} (h : Desc s p) (hn : s < p) : Desc s ((p - 1) / 2) := by
  cases h with
  | refl => omega
  | left h => rename_i p; have e : (2 * p + 1 - 1) / 2 = p := by omega
              rw [e]; exact h
  | right h => rename_i p; have e : (2 * p + 1 + 1 - 1) / 2 = p := by omega
               rw [e]; exact h
theorem desc_zero : ∀ p, Desc 0 p := by
  intro p
  induction p using Nat.strongRecOn with
  | _ p ih =>
    match p, ih with
    | 0, _ => exact .refl
    | p + 1, ih =>
      have h := ih (p / 2) (by omega)
      rcases Nat.mod_two_eq_zero_or_one p with e | e
      · have e2 : p + 1 = 2 * (p / 2) + 1 := by omega
        rw [e2]; exact .left h
      · have e2 : p + 1 = 2 * (p / 2) + 1 + 1 := by omega
        rw [e2]; exact .right h

theorem sd_heap {lt : Value → Value → Bool} (o : WO lt) {s : Nat} {x : Value} : ∀ (p : Nat) (ws : List Value), p < ws.length → Desc s p →
    (∀ i, 0 < i → i < ws.length → s ≤ (i - 1) / 2 → i ≠ p → lt ((ws.set p x).getD i .none) ((ws.set p x).getD ((i - 1) / 2) .none) = false) →
    (s < p → ∀ i, 0 < i → i < ws.length → (i - 1) / 2 = p → lt (ws.getD i .none) (ws.getD ((p - 1) / 2) .none) = false) →
    HeapAt lt s (sd lt s x p ws) := by
  intro p
  induction p using Nat.strongRecOn with
  | _ p ih =>
    intro ws hp hd ha hb
    rw [sd]
    split
    · rename_i hs
      have hup := hd.up hs
      have hupl := hup.le
      split
      · rename_i hlt
        have hpp : (p - 1) / 2 < p := by omega
        refine ih _ hpp _ (by simp only [List.length_set]; omega) hup ?_ ?_
        · intro i h0 hi hsi hne
          rw [List.length_set] at hi
          have e : ∀ k, ((ws.set p (ws.getD ((p - 1) / 2) .none)).set ((p - 1) / 2) x).getD k .none = if k = (p - 1) / 2 then x else if k = p then ws.getD ((p - 1) / 2) .none else ws.getD k .none := fun k => by
            rw [getD_set (by rw [List.length_set]; omega), getD_set hp]
          rw [e, e, if_neg hne]
          by_cases e1 : i = p
          · subst e1
            rw [if_pos rfl, if_pos rfl]
            exact o.asym _ _ hlt
          · rw [if_neg e1]
            have hA := ha i h0 hi hsi e1
            rw [getD_set hp, getD_set hp, if_neg e1] at hA
            by_cases e2 : (i - 1) / 2 = (p - 1) / 2
            · rw [if_pos e2]
              rw [if_neg (by omega), e2] at hA
              exact o.ntr _ _ _ hA (o.asym _ _ hlt)
            · rw [if_neg e2]
              by_cases e3 : (i - 1) / 2 = p
              · rw [if_pos e3]
                exact hb hs i h0 hi e3
              · rw [if_neg e3]
                rw [if_neg e3] at hA
                exact hA
        · intro hs2 i h0 hi hpi
          rw [List.length_set] at hi
          have hup2 := (hup.up hs2).le
          have hA := ha ((p - 1) / 2) (by omega) (by omega) hup2 (by omega)
          rw [getD_set hp, getD_set hp, if_neg (by omega), if_neg (by omega)] at hA
          rw [getD_set hp, getD_set hp]
          rw [if_neg (show ¬ ((p - 1) / 2 - 1) / 2 = p by omega)]
          by_cases e1 : i = p
          · rw [if_pos e1]; exact hA
          · rw [if_neg e1]
            have hB := ha i h0 hi (by omega) e1
            rw [getD_set hp, getD_set hp, if_neg e1, if_neg (by omega), hpi] at hB
            exact o.ntr _ _ _ hB hA
      · rename_i hlt
        intro i h0 hi hsi
        rw [List.length_set] at hi
        by_cases e1 : i = p
        · subst e1
          rw [getD_set hp, getD_set hp, if_pos rfl, if_neg (by omega)]
          simpa using hlt
        · exact ha i h0 hi hsi e1
    · rename_i hs
      intro i h0 hi hsi
      rw [List.length_set] at hi
      refine ha i h0 hi hsi ?_
      have := hd.le
      omega

theorem su_heap {lt : Value → Value → Bool} (o : WO lt) {s : Nat} {x : Value} : ∀ (k p : Nat) (ws : List Value), ws.length - p = k → p < ws.length → Desc s p →
    (∀ i, 0 < i → i < ws.length → s ≤ (i - 1) / 2 → i ≠ p → (i - 1) / 2 ≠ p → lt (ws.getD i .none) (ws.getD ((i - 1) / 2) .none) = false) →
    (s < p → ∀ i, 0 < i → i < ws.length → (i - 1) / 2 = p → lt (ws.getD i .none) (ws.getD ((p - 1) / 2) .none) = false) →
    HeapAt lt s (sd lt s x (su lt p ws).1 ((su lt p ws).2.set (su lt p ws).1 x)) := by
  intro k
  induction k using Nat.strongRecOn with
  | _ k ih =>
    intro p ws hk hp hd ha hb
    have hle := hd.le
    -- one step to the child c
    have step : ∀ c, (c - 1) / 2 = p → 0 < c → p < c → c < ws.length → Desc s c → (∀ i, 0 < i → i < ws.length → (i - 1) / 2 = p → lt (ws.getD i .none) (ws.getD c .none) = false) →
        HeapAt lt s (sd lt s x (su lt c (ws.set p (ws.getD c .none))).1 ((su lt c (ws.set p (ws.getD c .none))).2.set (su lt c (ws.set p (ws.getD c .none))).1 x)) := by
      intro c hc h0c hpc hcl hdc hmin
      refine ih (ws.length - c) (by omega) c _ (by rw [List.length_set]) (by rw [List.length_set]; exact hcl) hdc ?_ ?_
      · intro i h0 hi hsi hne hne2
        rw [List.length_set] at hi
        rw [getD_set hp, getD_set hp]
        by_cases e1 : i = p
        · subst e1
          rw [if_pos rfl, if_neg (by omega)]
          exact hb (by have := hsi; omega) c h0c hcl hc
        · rw [if_neg e1]
          by_cases e2 : (i - 1) / 2 = p
          · rw [if_pos e2]; exact hmin i h0 hi e2
          · rw [if_neg e2]; exact ha i h0 hi hsi e1 e2
      · intro hs i h0 hi hic
        rw [List.length_set] at hi
        rw [getD_set hp, getD_set hp, hc, if_pos rfl, if_neg (by omega)]
        have := ha i h0 hi (by omega) (by omega) (by omega)
        rw [hic] at this
        exact this
    rw [su]
    split
    · rename_i hl
      split
      · rename_i hr
        refine step (2 * p + 1 + 1) (by omega) (by omega) (by omega) hr.1 (.right hd) ?_
        intro i h0 hi hip
        have hi2 : i = 2 * p + 1 ∨ i = 2 * p + 1 + 1 := by omega
        rcases hi2 with rfl | rfl
        · exact hr.2
        · exact o.irr _
      · rename_i hr
        refine step (2 * p + 1) (by omega) (by omega) (by omega) hl (.left hd) ?_
        intro i h0 hi hip
        have hi2 : i = 2 * p + 1 ∨ i = 2 * p + 1 + 1 := by omega
        rcases hi2 with rfl | rfl
        · exact o.irr _
        · cases h : lt (ws.getD (2 * p + 1) .none) (ws.getD (2 * p + 1 + 1) .none) with
          | true => exact o.asym _ _ h
          | false => exact absurd ⟨hi, h⟩ hr
    · rename_i hl
      dsimp only
      refine sd_heap o p _ (by rw [List.length_set]; exact hp) hd ?_ ?_
      · intro i h0 hi hsi hne
        rw [List.length_set] at hi
        rw [List.set_set, getD_set hp, getD_set hp, if_neg hne, if_neg (by omega)]
        exact ha i h0 hi hsi hne (by omega)
      · intro hs i h0 hi hip
        rw [List.length_set] at hi
        omega
theorem sup_heap {lt : Value → Value → Bool} (o : WO lt) {s : Nat} {vs : List Value} (hs : s < vs.length) (h : HeapAt lt (s + 1) vs) : HeapAt lt s (sup lt s vs) := by
  refine su_heap o _ s vs rfl hs .refl ?_ ?_
  · intro i h0 hi hsi hne hne2
    exact h i h0 hi (by omega)
  · intro h; exact absurd h (Nat.lt_irrefl _)
theorem hpush_heap {lt : Value → Value → Bool} (o : WO lt) {vs : List Value} {x : Value} (h : HeapAt lt 0 vs) : HeapAt lt 0 (hpush lt vs x) := by
  refine sd_heap o vs.length _ (by simp) (desc_zero _) ?_ ?_
  · intro i h0 hi _ hne
    simp only [List.length_append, List.length_cons, List.length_nil] at hi
    rw [getD_set (by simp), getD_set (by simp), if_neg hne, if_neg (by omega)]
    have e : ∀ j, j < vs.length → (vs ++ [x]).getD j .none = vs.getD j .none := fun j hj => by simp only [List.getD]; rw [List.getElem?_append_left hj]
    rw [e i (by omega), e _ (by omega)]
    exact h i h0 (by omega) (by omega)
  · intro _ i h0 hi hip
    simp only [List.length_append, List.length_cons, List.length_nil] at hi
    omega
theorem heap_set0 {lt : Value → Value → Bool} {vs : List Value} {x : Value} (h : HeapAt lt 0 vs) : HeapAt lt 1 (vs.set 0 x) := by
  intro i h0 hi hsi
  rw [List.length_set] at hi
  rw [getD_set (by omega), getD_set (by omega), if_neg (by omega), if_neg (by omega)]
  exact h i h0 hi (by omega)
theorem hppop_heap {lt : Value → Value → Bool} (o : WO lt) {vs : List Value} {x : Value} (h : HeapAt lt 0 vs) : HeapAt lt 0 (hppop lt vs x).2 := by
  rw [hppop]
  split
  · rename_i h1
    have hl := List.length_pos_iff.mpr h1.1
    exact sup_heap o (by simpa using hl) (heap_set0 h)
  · exact h
theorem heap_append {lt : Value → Value → Bool} {ws : List Value} {y : Value} (h : HeapAt lt 0 (ws ++ [y])) : HeapAt lt 0 ws := by
  intro i h0 hi _
  have := h i h0 (by simp; omega) (by omega)
  have e : ∀ j, j < ws.length → (ws ++ [y]).getD j .none = ws.getD j .none := fun j hj => by simp only [List.getD]; rw [List.getElem?_append_left hj]
  rw [e i hi, e _ (by omega)] at this
  exact this
theorem hpop_heap {lt : Value → Value → Bool} (o : WO lt) {ws : List Value} {y : Value} (h : HeapAt lt 0 (ws ++ [y])) : HeapAt lt 0 (hpop lt ws y).2 := by
  rw [hpop]
  split
  · intro i _ hi; simp at hi
  · rename_i h1
    have hl := List.length_pos_iff.mpr h1
    exact sup_heap o (by simpa using hl) (heap_set0 (heap_append h))
/-- the top is the least -/
theorem heap_min {lt : Value → Value → Bool} (o : WO lt) {vs : List Value} (h : HeapAt lt 0 vs) : ∀ i, i < vs.length → lt (vs.getD i .none) (vs.getD 0 .none) = false := by
  intro i
  induction i using Nat.strongRecOn with
  | _ i ih =>
    intro hi
    by_cases h0 : i = 0
    · subst h0; exact o.irr _
    · exact o.ntr _ _ _ (h i (by omega) hi (by omega)) (ih _ (by omega) (by omega))
theorem heap_min_mem {lt : Value → Value → Bool} (o : WO lt) {vs : List Value} (h : HeapAt lt 0 vs) {v : Value} (hv : v ∈ vs) : lt v (vs.getD 0 .none) = false := by
  obtain ⟨i, hi, rfl⟩ := List.getElem_of_mem hv
  have := heap_min o h i hi
  simpa [List.getD, hi] using this
theorem hppop_min {lt : Value → Value → Bool} (o : WO lt) {vs : List Value} {x : Value} (h : HeapAt lt 0 vs) : ∀ v ∈ x :: vs, lt v (hppop lt vs x).1 = false := by
  intro v hv
  rw [hppop]
  split
  · rename_i h1
    rcases List.mem_cons.mp hv with rfl | hv
    · exact o.asym _ _ h1.2
    · exact heap_min_mem o h hv
  · rename_i h1
    rcases List.mem_cons.mp hv with rfl | hv
    · exact o.irr _
    · have hne : vs ≠ [] := fun e => by rw [e] at hv; cases hv
      have h2 : lt (vs.getD 0 .none) x = false := by
        cases h3 : lt (vs.getD 0 .none) x with
        | false => rfl
        | true => exact absurd ⟨hne, h3⟩ h1
      exact o.ntr _ _ _ (heap_min_mem o h hv) h2
theorem hpop_min {lt : Value → Value → Bool} (o : WO lt) {ws : List Value} {y : Value} (h : HeapAt lt 0 (ws ++ [y])) : ∀ v ∈ ws ++ [y], lt v (hpop lt ws y).1 = false := by
  intro v hv
  have h2 := heap_min_mem o h hv
  rw [hpop]
  split
  · rename_i h1; subst h1; exact h2
  · rename_i h1
    have hl := List.length_pos_iff.mpr h1
    have e : (ws ++ [y]).getD 0 .none = ws.getD 0 .none := by simp only [List.getD]; rw [List.getElem?_append_left hl]
    rw [e] at h2
    exact h2
theorem bisR_spec {lt : Value → Value → Bool} {x : Value} {vs : List Value} (mono : ∀ i j, i ≤ j → j < vs.length → lt x (vs.getD i .none) = true → lt x (vs.getD j .none) = true) :
    ∀ (lo hi : Nat), lo ≤ hi → hi ≤ vs.length → (∀ i, i < lo → lt x (vs.getD i .none) = false) → (∀ i, hi ≤ i → i < vs.length → lt x (vs.getD i .none) = true) →
      lo ≤ bisR lt x vs lo hi ∧ bisR lt x vs lo hi ≤ hi ∧ (∀ i, i < bisR lt x vs lo hi → lt x (vs.getD i .none) = false) ∧ (∀ i, bisR lt x vs lo hi ≤ i → i < vs.length → lt x (vs.getD i .none) = true) := by
  intro lo hi
  induction hd : hi - lo using Nat.strongRecOn generalizing lo hi with
  | _ n ih =>
    intro hlh hhl h1 h2
    rw [bisR]
    split
    · rename_i hlt
      split
      · rename_i hc
        have := ih _ (by omega) lo ((lo + hi) / 2) rfl (by omega) (by omega) h1 (fun i hi1 hi2 => mono _ i hi1 hi2 hc)
        exact ⟨this.1, by omega, this.2.2⟩
      · rename_i hc
        have hc' : lt x (vs.getD ((lo + hi) / 2) .none) = false := by simpa using hc
        have := ih _ (by omega) ((lo + hi) / 2 + 1) hi rfl (by omega) hhl (fun i hi1 => by
          cases hq : lt x (vs.getD i .none) with
          | false => rfl
          | true => rw [mono i ((lo + hi) / 2) (by omega) (by omega) hq] at hc'; cases hc') h2
        exact ⟨by omega, this.2⟩
    · rename_i hlt
      exact ⟨Nat.le_refl _, hlh, h1, fun i hi1 hi2 => h2 i (by omega) hi2⟩
theorem bisL_spec {lt : Value → Value → Bool} {x : Value} {vs : List Value} (mono : ∀ i j, i ≤ j → j < vs.length → lt (vs.getD j .none) x = true → lt (vs.getD i .none) x = true) :
    ∀ (lo hi : Nat), lo ≤ hi → hi ≤ vs.length → (∀ i, i < lo → lt (vs.getD i .none) x = true) → (∀ i, hi ≤ i → i < vs.length → lt (vs.getD i .none) x = false) →
      lo ≤ bisL lt x vs lo hi ∧ bisL lt x vs lo hi ≤ hi ∧ (∀ i, i < bisL lt x vs lo hi → lt (vs.getD i .none) x = true) ∧ (∀ i, bisL lt x vs lo hi ≤ i → i < vs.length → lt (vs.getD i .none) x = false) := by
  intro lo hi
  induction hd : hi - lo using Nat.strongRecOn generalizing lo hi with
  | _ n ih =>
    intro hlh hhl h1 h2
    rw [bisL]
    split
    · rename_i hlt
      split
      · rename_i hc
        have := ih _ (by omega) ((lo + hi) / 2 + 1) hi rfl (by omega) hhl (fun i hi1 => mono i ((lo + hi) / 2) (by omega) (by omega) hc) h2
        exact ⟨by omega, this.2⟩
      · rename_i hc
        have hc' : lt (vs.getD ((lo + hi) / 2) .none) x = false := by simpa using hc
        have := ih _ (by omega) lo ((lo + hi) / 2) rfl (by omega) (by omega) h1 (fun i hi1 hi2 => by
          cases hq : lt (vs.getD i .none) x with
          | false => rfl
          | true => rw [mono ((lo + hi) / 2) i hi1 hi2 hq] at hc'; cases hc')
        exact ⟨this.1, by omega, this.2.2⟩
    · rename_i hlt
      exact ⟨Nat.le_refl _, hlh, h1, fun i hi1 hi2 => h2 i (by omega) hi2⟩
/-- rising by «less» -/
def Rising (lt : Value → Value → Bool) (vs : List Value) : Prop := vs.Pairwise fun a b => lt b a = false
theorem rising_le {lt : Value → Value → Bool} (o : WO lt) {vs : List Value} (h : Rising lt vs) {i j : Nat} (hij : i ≤ j) (hj : j < vs.length) : lt (vs.getD j .none) (vs.getD i .none) = false := by
  rcases Nat.lt_or_eq_of_le hij with hlt | rfl
  · have := List.pairwise_iff_getElem.mp h i j (by omega) hj hlt
    simpa [List.getD, hj, show i < vs.length by omega] using this
  · exact o.irr _
theorem rising_monoR {lt : Value → Value → Bool} (o : WO lt) {vs : List Value} (h : Rising lt vs) (x : Value) : ∀ i j, i ≤ j → j < vs.length → lt x (vs.getD i .none) = true → lt x (vs.getD j .none) = true := by
  intro i j hij hj hx
  cases hq : lt x (vs.getD j .none) with
  | true => rfl
  | false => have := o.ntr _ _ _ hq (rising_le o h hij hj); rw [hx] at this; cases this
theorem rising_monoL {lt : Value → Value → Bool} (o : WO lt) {vs : List Value} (h : Rising lt vs) (x : Value) : ∀ i j, i ≤ j → j < vs.length → lt (vs.getD j .none) x = true → lt (vs.getD i .none) x = true := by
  intro i j hij hj hx
  cases hq : lt (vs.getD i .none) x with
  | true => rfl
  | false => have := o.ntr _ _ _ (rising_le o h hij hj) hq; rw [hx] at this; cases this
theorem mem_take_getD {vs : List Value} {k : Nat} {v : Value} (h : v ∈ vs.take k) : ∃ i, i < k ∧ i < vs.length ∧ vs.getD i .none = v := by
  obtain ⟨i, hi, rfl⟩ := List.getElem_of_mem h
  simp only [List.length_take] at hi
  exact ⟨i, by omega, by omega, by simp [List.getD, show i < vs.length by omega]⟩
theorem mem_drop_getD {vs : List Value} {k : Nat} {v : Value} (h : v ∈ vs.drop k) : ∃ i, k ≤ i ∧ i < vs.length ∧ vs.getD i .none = v := by
  obtain ⟨i, hi, rfl⟩ := List.getElem_of_mem h
  simp only [List.length_drop] at hi
  exact ⟨k + i, by omega, by omega, by simp [List.getD, show k + i < vs.length by omega]⟩
theorem insAt_perm {vs : List Value} {k : Nat} {x : Value} : (insAt vs k x).Perm (x :: vs) := by
  unfold insAt
  refine List.perm_middle.trans ?_
  rw [List.take_append_drop]
theorem insAt_rising {lt : Value → Value → Bool} {vs : List Value} {k : Nat} {x : Value} (h : Rising lt vs) (h1 : ∀ i, i < k → i < vs.length → lt x (vs.getD i .none) = false) (h2 : ∀ i, k ≤ i → i < vs.length → lt (vs.getD i .none) x = false) : Rising lt (insAt vs k x) := by
  unfold insAt Rising
  rw [List.pairwise_append]
  refine ⟨h.sublist (List.take_sublist _ _), ?_, ?_⟩
  · rw [List.pairwise_cons]
    refine ⟨fun a ha => ?_, h.sublist (List.drop_sublist _ _)⟩
    obtain ⟨i, hi1, hi2, rfl⟩ := mem_drop_getD ha
    exact h2 i hi1 hi2
  · intro a ha b hb
    rcases List.mem_cons.mp hb with rfl | hb
    · obtain ⟨i, hi1, hi2, rfl⟩ := mem_take_getD ha
      exact h1 i hi1 hi2
    · have hp := h
      unfold Rising at hp
      rw [← List.take_append_drop k vs, List.pairwise_append] at hp
      exact hp.2.2 a ha b hb
theorem insL_rising {lt : Value → Value → Bool} (o : WO lt) {vs : List Value} {x : Value} (h : Rising lt vs) : Rising lt (insL lt vs x) := by
  obtain ⟨_, _, h3, h4⟩ := bisL_spec (rising_monoL o h x) 0 vs.length (Nat.zero_le _) (Nat.le_refl _) (fun i hi => absurd hi (Nat.not_lt_zero _)) (fun i h1 h2 => absurd h2 (by omega))
  exact insAt_rising h (fun i hi _ => o.asym _ _ (h3 i hi)) h4
theorem insR_rising {lt : Value → Value → Bool} (o : WO lt) {vs : List Value} {x : Value} (h : Rising lt vs) : Rising lt (insR lt vs x) := by
  obtain ⟨_, _, h3, h4⟩ := bisR_spec (rising_monoR o h x) 0 vs.length (Nat.zero_le _) (Nat.le_refl _) (fun i hi => absurd hi (Nat.not_lt_zero _)) (fun i h1 h2 => absurd h2 (by omega))
  exact insAt_rising h (fun i hi _ => h3 i hi) (fun i h1 h2 => o.asym _ _ (h4 i h1 h2))
/-- how many are greater -/
theorem bisR_count {lt : Value → Value → Bool} (o : WO lt) {vs : List Value} {x : Value} (h : Rising lt vs) : (vs.length : Int) - (bisR lt x vs 0 vs.length : Nat) = (vs.countP (fun v => lt x v) : Nat) := by
  obtain ⟨_, h2, h3, h4⟩ := bisR_spec (rising_monoR o h x) 0 vs.length (Nat.zero_le _) (Nat.le_refl _) (fun i hi => absurd hi (Nat.not_lt_zero _)) (fun i h1 h2 => absurd h2 (by omega))
  generalize bisR lt x vs 0 vs.length = k at *
  have e : vs.countP (fun v => lt x v) = (vs.take k).countP (fun v => lt x v) + (vs.drop k).countP (fun v => lt x v) := by
    rw [← List.countP_append, List.take_append_drop]
  have e1 : (vs.take k).countP (fun v => lt x v) = 0 := by
    rw [List.countP_eq_zero]
    intro a ha
    obtain ⟨i, hi1, _, rfl⟩ := mem_take_getD ha
    rw [h3 i hi1]; decide
  have e2 : (vs.drop k).countP (fun v => lt x v) = (vs.drop k).length := by
    rw [List.countP_eq_length]
    intro a ha
    obtain ⟨i, hi1, hi2, rfl⟩ := mem_drop_getD ha
    exact h4 i hi1 hi2
  rw [e, e1, e2, List.length_drop]
  omega
section
variable {prog : Program} {w : World} {A : Around} {E : Value → Shared → Prop} {s : Shared}
theorem sub_ri_reversed : isSubtype (.type "range_iterator") (.type "reversed") = pure false := by rw [isSubtype_type]; kernel_rfl
abbrev riObj (x n c : Int) : Obj := { cls := .type "range_iterator", dict := none, data := .fields #[rawInt x, rawInt n, rawInt c], slots := #[] }
theorem meets_range_reversed (r : Addr) (a b c : Int) (t u v : Tok) (hc0 : ¬(!(Builtin.Range.rangeFitsLong a && Builtin.Range.rangeFitsLong b && Builtin.Range.rangeFitsLong c && Builtin.Range.rangeFitsLong (-c) && Builtin.Range.rangeFitsLong (a - c) && Builtin.Range.rangeFitsLong (Builtin.Range.rangeSize a b c))) = true) :
    Meets (Builtin.«range.__reversed__» ⟨[.ref r], []⟩)
      (fun _ R s => s.heap.get? r = some { cls := .type "range", dict := none, data := .fields #[.int a t, .int b u, .int c v], slots := #[] } ∧ R (.ok (.ret (Value.ref s.heap.objs.size))) { s with heap := s.heap.push { cls := Value.type (if (Builtin.Range.rangeFitsLong a && Builtin.Range.rangeFitsLong b && Builtin.Range.rangeFitsLong c && Builtin.Range.rangeFitsLong (-c) && Builtin.Range.rangeFitsLong (a - c) && Builtin.Range.rangeFitsLong (Builtin.Range.rangeSize a b c)) = true then "range_iterator" else "longrange_iterator"), data := .fields #[rawInt (a + (Builtin.Range.rangeSize a b c - 1) * c), rawInt (Builtin.Range.rangeSize a b c), rawInt (-c)] } }) :=
  .of_wp fun prog w A R s h => by obtain ⟨hp, g, d, tk, os⟩ := s; obtain ⟨hl, h⟩ := h; wp_walk; exact ⟨_, rfl, h⟩
theorem call_range_reversed {r : Addr} {k : Nat} {t u v : Tok} {Q : Value → Shared → Prop} (hr : IsRange s.heap r 0 (k : Int) 1 t u v) (hk : k < 1000000)
    (h : Q (.ref s.heap.objs.size) { s with heap := s.heap.push (riObj ((k : Int) - 1) k (-1)) }) : wpAny (model prog w) A (call (.builtin "range.__reversed__") [.ref r]) Q E s := by
  have hsz : Builtin.Range.rangeSize 0 (k : Int) 1 = (k : Int) := by rw [rangeSize_nat]; omega
  have hsm : (Builtin.Range.rangeFitsLong 0 && Builtin.Range.rangeFitsLong (k : Int) && Builtin.Range.rangeFitsLong 1 && Builtin.Range.rangeFitsLong (-1) && Builtin.Range.rangeFitsLong (0 - 1) && Builtin.Range.rangeFitsLong (Builtin.Range.rangeSize 0 (k : Int) 1)) = true := by
    rw [hsz]
    simp only [Builtin.Range.rangeFitsLong, Bool.and_eq_true, decide_eq_true_eq]
    omega
  refine call_meets F.slot_range_reversed ⟨_, hr, rfl⟩ F.entry_range_reversed (F.args_range_reversed_1 _) (meets_range_reversed r 0 (k : Int) 1 t u v (by rw [hsm]; decide)) ⟨hr, ?_⟩
  rw [hsm, if_pos rfl, hsz]
  have e : 0 + ((k : Int) - 1) * 1 = (k : Int) - 1 := by omega
  rw [e]
  exact h
theorem code_reversed_range {r : Addr} {k : Nat} {t u v : Tok} {Q₁ : Value → Shared → Prop} (hr : IsRange s.heap r 0 (k : Int) 1 t u v) (hk : k < 1000000)
    (h : Q₁ (.ref s.heap.objs.size) { s with heap := s.heap.push (riObj ((k : Int) - 1) k (-1)) }) :
    codeAny (model prog w) A (.call (.builtin "reversed.__new__") ⟨[.type "reversed", .ref r], []⟩) (wants Q₁ E) s := by
  refine codeAny_of_tree ?_
  show wpAny _ A.in1 (do checkBuiltinCall "reversed.__new__" ⟨[.type "reversed", .ref r], []⟩; again (.builtin "reversed.__new__" ⟨[.type "reversed", .ref r], []⟩)) _ _ s
  refine wpAny_bind (wpAny_of_eq (F.newCall_reversed_1 _) (wpAny_pure ⟨plainId_quiet F.plain_reversed_new _, codeAny_builtin F.entry_reversed_new ?_⟩))
  rw [Around.under_plainId F.plain_reversed_new _]
  have hT : s.TypeIs (.ref r) "range" := ⟨_, hr, rfl⟩
  unfold Builtin.«reversed.__new__»
  refine wpAny_bind (wpAny_of_eq (newClass_reversed _) ?_)
  try dsimp only
  refine wpAny_bind (wpAny_of_eq (a := ()) (by first | rfl | kernel_rfl) ?_)
  refine wpAny_bind (wpAny_of_eq (a := ()) (by first | rfl | kernel_rfl) ?_)
  try dsimp only
  refine wpAny_bind (wpAny_specialOf hT F.slot_range_reversed.lookup ?_)
  try dsimp only
  refine wpAny_bind (wpAny_of_eq (F.slot_range_reversed.bind _) ?_)
  try dsimp only
  first
  | rw [if_neg (show ¬ ((Value.builtin "range.__reversed__" == Value.none) = true) from Bool.false_ne_true)]
  | (show wpAny _ _ (if (Value.builtin "range.__reversed__" == Value.none) = true then _ else _) _ _ _; rw [if_neg (show ¬ ((Value.builtin "range.__reversed__" == Value.none) = true) from Bool.false_ne_true)])
  refine wpAny_bind (wpAny_rule ?_)
  refine wpAny_bind (m := runValue (.call (.builtin "range.__reversed__") ⟨[.ref r], []⟩)) (show wpAny _ _ (call (.builtin "range.__reversed__") [.ref r]) _ _ _ from call_range_reversed hr hk ?_)
  first
  | exact wpAny_pure h
  | exact wpAny_bind (wpAny_pure (wpAny_pure h))
theorem call_reversed_range {r : Addr} {k : Nat} {t u v : Tok} {Q : Value → Shared → Prop} (hr : IsRange s.heap r 0 (k : Int) 1 t u v) (hk : k < 1000000)
    (h : Q (.ref s.heap.objs.size) { s with heap := s.heap.push (riObj ((k : Int) - 1) k (-1)) }) : wpAny (model prog w) A (call (.type "reversed") [.ref r]) Q E s := by
  refine callType_other (U := "range_iterator") (Q₁ := fun obj s₁ => obj = .ref s.heap.objs.size ∧ s₁ = { s with heap := s.heap.push (riObj ((k : Int) - 1) k (-1)) }) (by decide +kernel) F.create_reversed ⟨_, _, F.mro_reversed⟩ F.made_reversed sub_ri_reversed (F.typeCall_reversed_1 _) (code_reversed_range hr hk ⟨rfl, rfl⟩) ?_
  rintro obj s₁ ⟨rfl, rfl⟩
  exact ⟨⟨_, Heap.get?_push_size _ rfl, rfl⟩, h⟩
variable {env : Env} {h₀ : Heap} {x : Str} {body : List Stmt} {Q : Flow → Shared → Prop} {m : Str → Option Value} {kept news : List (Addr × Obj)}
/-- a loop over an iterator of a range that has just been made, downwards -/
theorem iter_ri_down {I : Addr} (n : Nat) (hh : A.handled = none) (hI : IsRangeIter s.heap I ((n : Int) - 1) n (-1)) (hI0 : h₀.get? I = none) (hIL : I ≠ env.locals)
    (F : Fr h₀ env.locals s.heap m) (N : News h₀ env.locals s.heap (news ++ kept)) (hsep : ∀ p ∈ kept, ∀ q ∈ news, p.1 ≠ q.1) (hnI : ∀ q ∈ news ++ kept, q.1 ≠ I)
    (J : Nat → (Str → Option Value) → List (Addr × Obj) → Prop) (hJ : J 0 m news)
    (turn : ∀ i t m₁ var h tk own, i < n → J i m₁ var → (∀ p ∈ kept, p ∈ own) → (∀ p ∈ own, ∀ q ∈ var, p.1 ≠ q.1) → Fr h₀ env.locals h (fun y => if y = x then some (.int ((n : Int) - 1 - (i : Int)) t) else m₁ y) → News h₀ env.locals h (var ++ own) →
      wpAny (model prog w) A (execs body env) (LoopEnd h₀ env.locals s own (J (i + 1)) Q) E { s with heap := h, toks := tk })
    (done : ∀ m₁ var h tk, J n m₁ var → (∀ p ∈ kept, ∀ q ∈ var, p.1 ≠ q.1) → Fr h₀ env.locals h m₁ → News h₀ env.locals h (var ++ kept) → Q .next { s with heap := h, toks := tk }) :
    wpAny (model prog w) A (pyIter (.ref I)) (fun it s₂ => LoopAtV prog w A h₀ env x body Q E it s₂) E s := by
  refine wpAny_pyIter_rangeiter hI ?_
  have W := Walks.range (prog := prog) (w := w) hh I ((n : Int) - 1) (-1) n
  refine loop_walks (kept := kept) (news := news) (m := m) W ?_ ?_ ?_ ?_ F N hsep ?_ ?_ J hJ ?_ done
  · intro hm; exact hIL (List.mem_singleton.mp hm).symm
  · intro b hb; rw [List.mem_singleton.mp hb]; exact hI0
  · have e : (n : Int) - 1 + ((0 : Nat) : Int) * (-1) = (n : Int) - 1 := by simp
    have e2 : (n : Int) - ((0 : Nat) : Int) = n := by simp
    show IsRangeIter s.heap I ((n : Int) - 1 + ((0 : Nat) : Int) * (-1)) ((n : Int) - ((0 : Nat) : Int)) (-1)
    rw [e, e2]; exact hI
  · intro i h hst b hb
    exact (List.mem_singleton.mp hb) ▸ ⟨_, hst⟩
  · intro q hq hb
    exact hnI q (List.mem_append_left _ hq) (List.mem_singleton.mp hb)
  · intro p hp hb
    exact hnI p (List.mem_append_right _ hp) (List.mem_singleton.mp hb)
  · rintro i v m₁ var h tk own hi ⟨t', rfl⟩ hJ' h1 h2 F' N'
    have e : (n : Int) - 1 + (i : Int) * (-1) = (n : Int) - 1 - i := by omega
    rw [e] at F'
    exact turn i t' m₁ var h tk own hi hJ' h1 h2 F' N'
end
section
open PySem.SeqAt PySem.MeetsSeq PySem.MeetsSeq2 PySem.MeetsSeq3 PySem.SeqRoads2
open PySem.AutoSeq1 (wpAny_loadPart')
theorem lt_loop_end (l b : Addr) (items items2 : Array Value) (n n2 : Nat) (h1 : items.size = 1) (h2 : items2.size = 1) :
    Meets (Builtin.«list.__eq__.loop» ⟨[.ref l, .ref b, rawInt 1, rawInt 0], []⟩)
      (fun _ R s => s.heap.get? l = some (listOf items n) ∧ s.heap.get? b = some (listOf items2 n2) ∧ R (.ok (.ret (.bool false))) s) := by
  intro prog w A R s h
  obtain ⟨hp, g, d, tk, os⟩ := s; obtain ⟨hl, hb, h⟩ := h
  wp_walk using wpAny_loadPart' hl, wpAny_loadPart' hb
  have hi1 : items[Int.toNat 1]? = none := by simp; omega
  have hi2 : items2[Int.toNat 1]? = none := by simp; omega
  rw [hi1, hi2]
  wp_walk using wpAny_loadPart' hl, wpAny_loadPart' hb
  show R (.ok (.ret (.bool (decide (items.size < items2.size))))) _
  rw [h1, h2]
  exact h
theorem lt_loop_one (l b : Addr) (items items2 : Array Value) (i j : Int) (t u : Tok) (n n2 : Nat) (h1 : items.size = 1) (h2 : items2.size = 1) (g1 : items[0]? = some (.int i t)) (g2 : items2[0]? = some (.int j u)) :
    Meets (Builtin.«list.__eq__.loop» ⟨[.ref l, .ref b, rawInt 0, rawInt 0], []⟩)
      (fun _ R s => s.heap.get? l = some (listOf items n) ∧ s.heap.get? b = some (listOf items2 n2) ∧ R (.ok (.ret (.bool (decide (i < j))))) s) := by
  intro prog w A R s h
  obtain ⟨hp, g, d, tk, os⟩ := s; obtain ⟨hl, hb, h⟩ := h
  wp_walk using wpAny_loadPart' hl, wpAny_loadPart' hb
  have hi1 : items[Int.toNat 0]? = some (.int i t) := g1
  have hi2 : items2[Int.toNat 0]? = some (.int j u) := g2
  rw [hi1, hi2]
  refine wpAny_bind (EqAt.int_int i t j u prog w _ _ ?_)
  cases hb' : (i == j) with
  | true =>
    wp_walk
    exact ⟨plainId_quiet plain_eq_loop _, codeAny_builtin entry_eq_loop (by
      rw [Around.under_plainId plain_eq_loop _]
      exact lt_loop_end l b items items2 n n2 h1 h2 prog w A R _ ⟨hl, hb, by
        have e : i = j := by simpa using hb'
        have e2 : decide (i < j) = false := by simp [e]
        rw [e2] at h
        exact h⟩)⟩
  | false =>
    wp_walk using wpAny_loadPart' hl, wpAny_loadPart' hb
    rw [hi1, hi2]
    refine wpAny_bind (wpAny_lt_int ?_)
    wp_walk
    exact h
theorem lt_list1_meets (l b : Addr) (items items2 : Array Value) (i j : Int) (t u : Tok) (n n2 : Nat) (h1 : items.size = 1) (h2 : items2.size = 1) (g1 : items[0]? = some (.int i t)) (g2 : items2[0]? = some (.int j u)) :
    Meets (Builtin.«list.__lt__» ⟨[.ref l, .ref b], []⟩)
      (fun _ R s => s.heap.get? l = some (listOf items n) ∧ s.heap.get? b = some (listOf items2 n2) ∧ R (.ok (.ret (.bool (decide (i < j))))) s) := by
  intro prog w A R s h
  obtain ⟨hp, g, d, tk, os⟩ := s; obtain ⟨hl, hb, h⟩ := h
  have f3 := AutoSeq1.sub_list_list
  wp_walk using wpAny_loadPart' hl, wpAny_loadPart' hb
  exact ⟨plainId_quiet plain_eq_loop _, codeAny_builtin entry_eq_loop (by
    rw [Around.under_plainId plain_eq_loop _]
    exact lt_loop_one l b items items2 i j t u n n2 h1 h2 g1 g2 prog w A R _ ⟨hl, hb, h⟩)⟩
end
theorem lt_list1 {prog : Program} {w : World} {A : Around} {E : Value → Shared → Prop} {s : Shared} {Q : Value → Shared → Prop} {a b : Addr} {i j : Int} {t u : Tok} {n n2 : Nat} (ha : s.heap.get? a = some (listOf #[.int i t] n)) (hb : s.heap.get? b = some (listOf #[.int j u] n2)) (hu : A.units + 8 < cLine)
    (h : Q (.bool (decide (i < j))) s) : wpAny (model prog w) A (compareOp .Lt (.ref a) (.ref b)) Q E s :=
  cmp_ofLt (richCompare_meets_room (op := .Lt) ⟨_, ha, rfl⟩ ⟨_, hb, rfl⟩ F.slot_list_lt F.entry_list_lt (F.args_list_lt_2 _ _) (lt_list1_meets a b #[.int i t] #[.int j u] i j t u n n2 rfl rfl rfl rfl) ⟨ha, hb, ⟨by simp, h⟩⟩ (by omega))
/-- a turn's end in a loop over pairs: the addresses of what turns stay -/
def PairEnd (h₀ : Heap) (L : Addr) (s : Shared) (own var : List (Addr × Obj)) (Jn : (Str → Option Value) → List (Addr × Obj) → Prop) (Q : Flow → Shared → Prop) (f : Flow) (s' : Shared) : Prop :=
  match f with
  | .ret v => Q (.ret v) s'
  | .brk => Q .next s'
  | _ => ∃ h' tk m' var', s' = { s with heap := h', toks := tk } ∧ Fr h₀ L h' m' ∧ News h₀ L h' (var' ++ own) ∧ var'.map (·.1) = var.map (·.1) ∧ Jn m' var'
theorem eqN {a b : Nat} (h : a = b) : a = b := h
section
variable {prog : Program} {w : World} {A : Around} {E : Value → Shared → Prop} {s s₂ : Shared} {env : Env} {h₀ : Heap} {xi xc : Str} {body : List Stmt} {Q : Flow → Shared → Prop} {m : Str → Option Value} {kept news : List (Addr × Obj)}
theorem adr_mem {var news : List (Addr × Obj)} (h : var.map (·.1) = news.map (·.1)) {q : Addr × Obj} (hq : q ∈ var) : ∃ r ∈ news, r.1 = q.1 := by
  have : q.1 ∈ news.map (·.1) := h ▸ List.mem_map.mpr ⟨q, hq, rfl⟩
  obtain ⟨r, hr, e⟩ := List.mem_map.mp this
  exact ⟨r, hr, e⟩
theorem pair_walks {I : Addr} {fp wr : List Addr} {n : Nat} {Pt : Nat → Array Value → Prop} {St : Nat → Heap → Prop} {Mid : Nat → Addr → Heap → Prop} {P2 : Nat → Value → Value → Prop} (W : WalksT prog w A I fp wr n Pt St Mid) (h2 : ∀ i vals, Pt i vals → ∃ v0 v1, vals = #[v0, v1] ∧ P2 i v0 v1)
    (hLf : env.locals ∉ fp) (hwr : ∀ b ∈ wr, h₀.get? b = none) (hst : St 0 s₂.heap) (F : Fr h₀ env.locals s₂.heap m) (N : News h₀ env.locals s₂.heap (news ++ kept)) (hsep : ∀ p ∈ kept, ∀ q ∈ news, p.1 ≠ q.1) (hnf : ∀ q ∈ news, q.1 ∉ fp) (hkw : ∀ p ∈ kept, p.1 ∉ wr)
    (J : Nat → (Str → Option Value) → List (Addr × Obj) → Prop) (hJ : J 0 m news)
    (turn : ∀ i v0 v1 m₁ var h tk own, i < n → P2 i v0 v1 → J i m₁ var → var.map (·.1) = news.map (·.1) → (∀ p ∈ kept, p ∈ own) → (∀ p ∈ own, ∀ q ∈ var, p.1 ≠ q.1) → Fr h₀ env.locals h (fun y => if y = xc then some v1 else if y = xi then some v0 else m₁ y) → News h₀ env.locals h (var ++ own) →
      wpAny (model prog w) A (execs body env) (PairEnd h₀ env.locals s₂ own var (J (i + 1)) Q) E { s₂ with heap := h, toks := tk })
    (done : ∀ m₁ var h tk, J n m₁ var → var.map (·.1) = news.map (·.1) → Fr h₀ env.locals h m₁ → News h₀ env.locals h (var ++ kept) → Q .next { s₂ with heap := h, toks := tk }) :
    PairAt3 prog w A h₀ env xi xc body Q E (.ref I) s₂ := by
  have hout : ∀ {var ns : List (Addr × Obj)}, var ++ kept = ns → ns.map (·.1) = (news ++ kept).map (·.1) → var.map (·.1) = news.map (·.1) := by
    rintro var ns rfl h
    rw [List.map_append, List.map_append] at h
    exact List.append_cancel_right h
  refine ⟨I, fp, wr, n, Pt, St, Mid, P2, m, news ++ kept, fun i m₁ ns => ∃ var, ns = var ++ kept ∧ J i m₁ var, rfl, W, h2, hLf, hwr, ?_, hst, F, N, ⟨news, rfl, hJ⟩, ?_, ?_⟩
  · intro p hp
    rcases List.mem_append.mp hp with hp | hp
    · exact fun hb => hnf p hp (W.sub _ hb)
    · exact hkw p hp
  · rintro i v0 v1 m₁ ns s₁ own ⟨h, tk, rfl⟩ hi hP ⟨var, rfl, hJ₁⟩ ha hown F₁ N₁
    have hva := hout rfl ha
    refine wpAny_mono (turn i v0 v1 m₁ var h tk (own ++ kept) hi hP hJ₁ hva (fun p hp => List.mem_append_right _ hp) (fun p hp q hq => ?_) F₁ (fun p hp => N₁ p ?_)) (fun f s' hf => ?_) fun _ _ e => e
    · obtain ⟨r, hr, e⟩ := adr_mem hva hq
      rcases List.mem_append.mp hp with hp | hp
      · exact fun e2 => hnf r hr (by rw [e, ← e2]; exact hown p hp)
      · exact e ▸ hsep p hp r hr
    · rcases List.mem_append.mp hp with hp | hp
      · exact List.mem_append_right _ (List.mem_append_left _ hp)
      · rcases List.mem_append.mp hp with hp | hp
        · exact List.mem_append_left _ hp
        · exact List.mem_append_right _ (List.mem_append_right _ hp)
    · have fin : (∃ h' tk' m' var', s' = { s₂ with heap := h', toks := tk' } ∧ Fr h₀ env.locals h' m' ∧ News h₀ env.locals h' (var' ++ (own ++ kept)) ∧ var'.map (·.1) = var.map (·.1) ∧ J (i + 1) m' var') →
          ∃ h' tk' m' ns', s' = { s₂ with heap := h', toks := tk' } ∧ Fr h₀ env.locals h' m' ∧ News h₀ env.locals h' (own ++ ns') ∧ ns'.map (·.1) = (var ++ kept).map (·.1) ∧ ∃ var, ns' = var ++ kept ∧ J (i + 1) m' var := by
        rintro ⟨h', tk', m', var', e, F', N', hv', hJ'⟩
        refine ⟨h', tk', m', var' ++ kept, e, F', fun p hp => N' p ?_, by rw [List.map_append, List.map_append, hv'], var', rfl, hJ'⟩
        rcases List.mem_append.mp hp with hp | hp
        · exact List.mem_append_right _ (List.mem_append_left _ hp)
        · rcases List.mem_append.mp hp with hp | hp
          · exact List.mem_append_left _ hp
          · exact List.mem_append_right _ (List.mem_append_right _ hp)
      cases f with
      | ret v => exact hf
      | brk => exact hf
      | next => exact ⟨rfl, fin hf⟩
      | cont => exact ⟨rfl, fin hf⟩
  · rintro h' tk m' ns F' N' ha ⟨var, rfl, hJ'⟩
    exact done m' var h' tk hJ' (hout rfl ha) F' N'
theorem iter_zip2 {l1 l2 : Addr} {xs ys : List Value} (hh : A.handled = none) (hl1 : s.heap.IsList l1 xs.toArray) (hl2 : s.heap.IsList l2 ys.toArray) (hL1 : l1 ≠ env.locals) (hL2 : l2 ≠ env.locals)
    (F : Fr h₀ env.locals s.heap m) (N : News h₀ env.locals s.heap (news ++ kept)) (hsep : ∀ p ∈ kept, ∀ q ∈ news, p.1 ≠ q.1) (hn1 : ∀ q ∈ news, q.1 ≠ l1) (hn2 : ∀ q ∈ news, q.1 ≠ l2)
    (J : Nat → (Str → Option Value) → List (Addr × Obj) → Prop) (hJ : J 0 m news)
    (turn : ∀ i v0 v1 m₁ var h tk own, xs[i]? = some v0 → ys[i]? = some v1 → J i m₁ var → var.map (·.1) = news.map (·.1) → (∀ p ∈ kept, p ∈ own) → (∀ p ∈ own, ∀ q ∈ var, p.1 ≠ q.1) → Fr h₀ env.locals h (fun y => if y = xc then some v1 else if y = xi then some v0 else m₁ y) → News h₀ env.locals h (var ++ own) →
      wpAny (model prog w) A (execs body env) (PairEnd h₀ env.locals s own var (J (i + 1)) Q) E { s with heap := h, toks := tk })
    (done : ∀ m₁ var h tk, J (min xs.length ys.length) m₁ var → var.map (·.1) = news.map (·.1) → Fr h₀ env.locals h m₁ → News h₀ env.locals h (var ++ kept) → Q .next { s with heap := h, toks := tk }) :
    wpAny (model prog w) A (call (.type "zip") [.ref l1, .ref l2]) (fun xv s₁ => wpAny (model prog w) A (pyIter xv) (fun it s₂ => PairAt3 prog w A h₀ env xi xc body Q E it s₂) E s₁) E s := by
  refine call_zip_2 hl1 hl2 fun h' hz hTI hTO hi1 hi2 hsz hk => ?_
  obtain ⟨o1, e1, _⟩ := id hl1
  obtain ⟨o2, e2, _⟩ := id hl2
  have lt1 := ltN (Heap.lt_size e1)
  have lt2 := ltN (Heap.lt_size e2)
  refine wpAny_pyIter_zip hz ?_
  have D : ZipApart (s.heap.objs.size + 4) (s.heap.objs.size + 2) (s.heap.objs.size + 3) s.heap.objs.size (s.heap.objs.size + 1) l1 l2 := by
    constructor <;> refine neN ?_ <;> omega
  have W := WalksT.zip2 (prog := prog) (w := w) hh _ _ _ _ _ l1 l2 D xs.toArray ys.toArray
  have hlt : ∀ q ∈ news ++ kept, @LT.lt Nat _ q.1 s.heap.objs.size := fun q hq => Heap.lt_size (N q hq).1
  have hLlt := ltN F.ns.lt
  have hnone : ∀ b : Nat, s.heap.objs.size ≤ b → h₀.get? b = none := fun b hb => by
    cases q : h₀.get? b with
    | none => rfl
    | some o => have := ltN (Heap.lt_size (F.keep _ _ q)); omega
  refine pair_walks (kept := kept) (news := news) (m := m) (P2 := fun i v0 v1 => xs[i]? = some v0 ∧ ys[i]? = some v1) W ?_ ?_ ?_ ⟨hz, hTI, ⟨_, _, hTO⟩, hi1, hi2, hl1.at fun o e => hk _ o e, hl2.at fun o e => hk _ o e⟩ ⟨F.ns.at' fun o e => hk _ o e, fun b o e => hk b o (F.keep b o e), F.above⟩ (fun p hp => ⟨hk _ _ (N p hp).1, (N p hp).2⟩) hsep ?_ ?_ J hJ ?_ ?_
  · rintro i vals ⟨x, y, hx, hy, rfl⟩
    exact ⟨x, y, rfl, by simpa using hx, by simpa using hy⟩
  · intro hm
    simp only [List.mem_cons, List.not_mem_nil, or_false] at hm
    rcases hm with e | e | e | e | e | e | e
    · have := eqN e; omega
    · have := eqN e; omega
    · have := eqN e; omega
    · have := eqN e; omega
    · have := eqN e; omega
    · exact hL1 e.symm
    · exact hL2 e.symm
  · intro b hb
    simp only [List.mem_cons, List.not_mem_nil, or_false] at hb
    rcases hb with rfl | rfl | rfl | rfl <;> exact hnone _ (by omega)
  · intro q hq hm
    have := hlt q (List.mem_append_left _ hq)
    simp only [List.mem_cons, List.not_mem_nil, or_false] at hm
    rcases hm with e | e | e | e | e | e | e
    · have := eqN e; omega
    · have := eqN e; omega
    · have := eqN e; omega
    · have := eqN e; omega
    · have := eqN e; omega
    · exact hn1 q hq e
    · exact hn2 q hq e
  · intro q hq hm
    have := hlt q (List.mem_append_right _ hq)
    simp only [List.mem_cons, List.not_mem_nil, or_false] at hm
    rcases hm with e | e | e | e <;> (have := eqN e; omega)
  · intro i v0 v1 m₁ var h tk own hi hP hJ' ha h1 h2 F' N'
    exact turn i v0 v1 m₁ var h tk own hP.1 hP.2 hJ' ha h1 h2 F' N'
  · intro m₁ var h tk hJ' ha F' N'
    exact done m₁ var h tk (by simpa using hJ') ha F' N'
end
/-- the row with the line's items laid at the way's places -/
def lay : List Value → List Nat → List Value → List Value
  | vs, p :: ps, x :: xs => lay (vs.set p x) ps xs
  | vs, _, _ => vs
theorem lay_nil {vs : List Value} {w : List Nat} : lay vs w [] = vs := by cases w <;> rfl
theorem lay_nil' {vs l : List Value} : lay vs [] l = vs := by cases l <;> rfl
theorem lay_len : ∀ (w : List Nat) (vs l : List Value), (lay vs w l).length = vs.length := by
  intro w
  induction w with
  | nil => intro vs l; rw [lay_nil']
  | cons p ps ih =>
    intro vs l
    cases l with
    | nil => rfl
    | cons x xs => rw [lay, ih, List.length_set]
theorem lay_comm : ∀ (w : List Nat) (vs l : List Value) (q : Nat) (y : Value), q ∉ w → (lay vs w l).set q y = lay (vs.set q y) w l := by
  intro w
  induction w with
  | nil => intro vs l q y _; rw [lay_nil', lay_nil']
  | cons p ps ih =>
    intro vs l q y hq
    cases l with
    | nil => rfl
    | cons x xs =>
      simp only [List.mem_cons, not_or] at hq
      rw [lay, lay, ih _ _ _ _ hq.2, List.set_comm _ _ (fun e => hq.1 e.symm)]
theorem lay_set : ∀ (w : List Nat) (vs l : List Value) (i : Nat) (y : Value), w.Pairwise (· < ·) → i < w.length → i < l.length → (lay vs w l).set (w.getD i 0) y = lay vs w (l.set i y) := by
  intro w
  induction w with
  | nil => intro vs l i y _ h; simp at h
  | cons p ps ih =>
    intro vs l i y hw hi hl
    cases l with
    | nil => simp at hl
    | cons x xs =>
      rw [List.pairwise_cons] at hw
      cases i with
      | zero =>
        rw [List.getD_cons_zero, List.set_cons_zero, lay, lay, lay_comm _ _ _ _ _ (fun h => Nat.lt_irrefl _ (hw.1 p h)), List.set_set]
      | succ i =>
        rw [List.getD_cons_succ, List.set_cons_succ, lay, lay]
        exact ih _ _ _ _ hw.2 (by simpa using hi) (by simpa using hl)
theorem lay_away : ∀ (w : List Nat) (vs l : List Value) (q : Nat), q ∉ w → (lay vs w l).getD q .none = vs.getD q .none := by
  intro w
  induction w with
  | nil => intro vs l q _; rw [lay_nil']
  | cons p ps ih =>
    intro vs l q hq
    cases l with
    | nil => rfl
    | cons x xs =>
      simp only [List.mem_cons, not_or] at hq
      rw [lay, ih _ _ _ hq.2]
      simp only [List.getD]
      rw [List.getElem?_set_ne (fun e => hq.1 e.symm)]
theorem lay_at : ∀ (w : List Nat) (vs l : List Value) (i : Nat), w.Pairwise (· < ·) → (∀ q ∈ w, q < vs.length) → i < w.length → i < l.length → (lay vs w l).getD (w.getD i 0) .none = l.getD i .none := by
  intro w
  induction w with
  | nil => intro vs l i _ _ h; simp at h
  | cons p ps ih =>
    intro vs l i hw hb hi hl
    cases l with
    | nil => simp at hl
    | cons x xs =>
      rw [List.pairwise_cons] at hw
      cases i with
      | zero =>
        rw [List.getD_cons_zero, List.getD_cons_zero, lay, lay_away _ _ _ _ (fun h => Nat.lt_irrefl _ (hw.1 p h)), getD_set (hb p (.head _)), if_pos rfl]
      | succ i =>
        rw [List.getD_cons_succ, List.getD_cons_succ, lay]
        exact ih _ _ _ hw.2 (fun q hq => by rw [List.length_set]; exact hb q (.tail _ hq)) (by simpa using hi) (by simpa using hl)
theorem lay_id : ∀ (w : List Nat) (vs : List Value), (∀ q ∈ w, q < vs.length) → lay vs w (w.map (vs.getD · .none)) = vs := by
  intro w
  induction w with
  | nil => intro vs _; rfl
  | cons p ps ih =>
    intro vs hb
    rw [List.map_cons, lay, set_self (hb p (.head _))]
    exact ih _ fun q hq => hb q (.tail _ hq)

/-- a way from place to place, each the parent of the next -/
structure Way (w : List Nat) : Prop where
  up : w.Pairwise (· < ·)
  par : ∀ i, i + 1 < w.length → (w.getD (i + 1) 0 - 1) / 2 = w.getD i 0

theorem getD_mem0 {w : List Nat} {k : Nat} (h : k < w.length) : w.getD k 0 ∈ w := by
  simp [List.getD, List.getElem?_eq_getElem h]
theorem way_lt {w : List Nat} (h : w.Pairwise (· < ·)) {i j : Nat} (hij : i < j) (hj : j < w.length) : w.getD i 0 < w.getD j 0 := by
  have := List.pairwise_iff_getElem.mp h i j (by omega) hj hij
  simpa [List.getD, hj, show i < w.length by omega] using this

theorem sd_hole {lt : Value → Value → Bool} {s : Nat} {x y : Value} {p : Nat} {vs : List Value} : sd lt s x p (vs.set p y) = sd lt s x p vs := by
  rw [sd, sd.eq_def lt s x p vs]
  split
  · rename_i h
    have e : (vs.set p y).getD ((p - 1) / 2) .none = vs.getD ((p - 1) / 2) .none := by
      simp only [List.getD]; rw [List.getElem?_set_ne (by omega)]
    rw [e, List.set_set, List.set_set]
  · rw [List.set_set]

theorem insAt_getD_lt {l : List Value} {j i : Nat} {x : Value} (h : i < j) (hj : j ≤ l.length) : (insAt l j x).getD i .none = l.getD i .none := by
  simp only [insAt, List.getD]
  rw [List.getElem?_append_left (by simp; omega), List.getElem?_take_of_lt h]
theorem insAt_set {l : List Value} {j : Nat} {x : Value} (hj : j ≤ l.length) : (insAt l j x).set j x = insAt l j x := by
  have hl : (l.take j).length = j := by simp; omega
  rw [insAt, List.set_append_right _ _ (by omega), hl, Nat.sub_self, List.set_cons_zero]
theorem insAt_step {l : List Value} {j : Nat} {x : Value} (hj : j + 1 ≤ l.length) : ((insAt l (j + 1) x).set (j + 1) (l.getD j .none)).set j x = insAt l j x := by
  have hl : (l.take (j + 1)).length = j + 1 := by simp; omega
  have hl' : (l.take j).length = j := by simp; omega
  rw [insAt, List.set_append_right _ _ (by omega), hl, Nat.sub_self, List.set_cons_zero, insAt]
  have e1 : l.take (j + 1) = l.take j ++ [l.getD j .none] := by
    rw [List.take_succ_eq_append_getElem (by omega)]; simp [List.getD, show j < l.length by omega]
  have e2 : l.drop j = l.getD j .none :: l.drop (j + 1) := by
    rw [List.drop_eq_getElem_cons (by omega)]; simp [List.getD, show j < l.length by omega]
  rw [e1, List.append_assoc, List.set_append_right _ _ (by omega), hl', Nat.sub_self, e2]
  rfl

theorem scan {lt : Value → Value → Bool} {s : Nat} {x : Value} {V : List Value} {w : List Nat} (hw : Way w) (hs : w.getD 0 0 = s) (hb : ∀ q ∈ w, q < V.length) {l : List Value} (hl : w.length = l.length + 1)
    {b : Nat} (hb1 : ∀ i, i < b → i < l.length → lt x (l.getD i .none) = false) (hb2 : ∀ i, b ≤ i → i < l.length → lt x (l.getD i .none) = true) (hbl : b ≤ l.length) :
    ∀ j, b ≤ j → j ≤ l.length → sd lt s x (w.getD j 0) (lay V w (insAt l j x)) = lay V w (insAt l b x) := by
  intro j
  induction j with
  | zero =>
    intro h1 h2
    obtain rfl : b = 0 := by omega
    rw [sd, hs, dif_neg (Nat.lt_irrefl _), ← hs, lay_set _ _ _ _ _ hw.up (by omega) (by rw [insAt_length h2]; omega), insAt_set h2]
  | succ j ih =>
    intro h1 h2
    have hp := hw.par j (by omega)
    have hlt := way_lt hw.up (i := j) (j := j + 1) (by omega) (by omega)
    have hge : s ≤ w.getD j 0 := by
      rw [← hs]
      by_cases h0 : j = 0
      · subst h0; exact Nat.le_refl _
      · exact Nat.le_of_lt (way_lt hw.up (by omega) (by omega))
    have hlen := insAt_length (x := x) h2
    rw [sd, dif_pos (by omega), hp, lay_at _ _ _ _ hw.up hb (by omega) (by omega), insAt_getD_lt (by omega) h2]
    by_cases e : b = j + 1
    · rw [hb1 j (by omega) (by omega)]
      rw [if_neg (by decide), lay_set _ _ _ _ _ hw.up (by omega) (by omega), insAt_set h2, e]
    · rw [hb2 j (by omega) (by omega), if_pos rfl, ← ih (by omega) (by omega), lay_set _ _ _ _ _ hw.up (by omega) (by omega), ← sd_hole (y := x), lay_set _ _ _ _ _ hw.up (by omega) (by rw [List.length_set]; omega), insAt_step h2]

theorem insAt_end {l : List Value} {x : Value} : insAt l l.length x = l ++ [x] := by simp [insAt]
theorem scanR {lt : Value → Value → Bool} (o : WO lt) {s : Nat} {x : Value} {V : List Value} {w : List Nat} (hw : Way w) (hs : w.getD 0 0 = s) (hb : ∀ q ∈ w, q < V.length) {l : List Value} (hl : w.length = l.length + 1) (hr : Rising lt l) :
    sd lt s x (w.getD l.length 0) (lay V w (l ++ [x])) = lay V w (insR lt l x) := by
  obtain ⟨_, hbl, h1, h2⟩ := bisR_spec (rising_monoR o hr x) 0 l.length (Nat.zero_le _) (Nat.le_refl _) (fun i h => absurd h (Nat.not_lt_zero _)) (fun i h h' => absurd h' (by omega))
  rw [← insAt_end]
  exact scan hw hs hb hl (fun i h _ => h1 i h) h2 hbl _ hbl (Nat.le_refl _)

/-- the way down, always to the lesser of the two below, the right one of equals -/
def downP (lt : Value → Value → Bool) (vs : List Value) (p : Nat) : List Nat :=
  if h : 2 * p + 1 < vs.length then
    if 2 * p + 1 + 1 < vs.length ∧ lt (vs.getD (2 * p + 1) .none) (vs.getD (2 * p + 1 + 1) .none) = false then p :: downP lt vs (2 * p + 1 + 1) else p :: downP lt vs (2 * p + 1)
  else [p]
termination_by vs.length - p
decreasing_by all_goals omega
/-- the place below that the way takes -/
def kid (lt : Value → Value → Bool) (vs : List Value) (p : Nat) : Nat :=
  if 2 * p + 1 + 1 < vs.length ∧ lt (vs.getD (2 * p + 1) .none) (vs.getD (2 * p + 1 + 1) .none) = false then 2 * p + 1 + 1 else 2 * p + 1
theorem kid_cases {lt : Value → Value → Bool} {vs : List Value} {p : Nat} : kid lt vs p = 2 * p + 1 ∨ kid lt vs p = 2 * p + 1 + 1 := by
  rw [kid]; split <;> simp
theorem kid_lt {lt : Value → Value → Bool} {vs : List Value} {p : Nat} (h : 2 * p + 1 < vs.length) : kid lt vs p < vs.length := by
  rw [kid]; split
  · rename_i h; exact h.1
  · exact h
theorem downP_in {lt : Value → Value → Bool} {vs : List Value} {p : Nat} (h : 2 * p + 1 < vs.length) : downP lt vs p = p :: downP lt vs (kid lt vs p) := by
  rw [downP, dif_pos h, kid]
  split <;> rfl
theorem downP_end {lt : Value → Value → Bool} {vs : List Value} {p : Nat} (h : ¬ 2 * p + 1 < vs.length) : downP lt vs p = [p] := by
  rw [downP, dif_neg h]
theorem su_in {lt : Value → Value → Bool} {vs : List Value} {p : Nat} (h : 2 * p + 1 < vs.length) : su lt p vs = su lt (kid lt vs p) (vs.set p (vs.getD (kid lt vs p) .none)) := by
  rw [su, dif_pos h, kid]
  split <;> rfl
theorem su_end {lt : Value → Value → Bool} {vs : List Value} {p : Nat} (h : ¬ 2 * p + 1 < vs.length) : su lt p vs = (p, vs) := by
  rw [su, dif_neg h]
theorem down_ind {vs : List Value} {P : Nat → Prop} (h : ∀ p, (∀ q, p < q → q < vs.length → P q) → P p) : ∀ p, P p := by
  intro p
  induction hk : vs.length - p using Nat.strongRecOn generalizing p with
  | _ k ih => exact h p fun q h1 h2 => ih (vs.length - q) (by omega) q rfl
theorem downP_head {lt : Value → Value → Bool} {vs : List Value} {p : Nat} : ∃ r, downP lt vs p = p :: r := by
  by_cases h : 2 * p + 1 < vs.length
  · exact ⟨_, downP_in h⟩
  · exact ⟨_, downP_end h⟩
theorem getD_set_ne {vs : List Value} {i j : Nat} {x : Value} (h : i ≠ j) : (vs.set j x).getD i .none = vs.getD i .none := by
  simp only [List.getD]; rw [List.getElem?_set_ne (fun e => h e.symm)]
theorem kid_set {lt : Value → Value → Bool} {vs : List Value} {p q : Nat} {y : Value} (h : q ≤ p) : kid lt (vs.set q y) p = kid lt vs p := by
  rw [kid, kid, List.length_set, getD_set_ne (by omega), getD_set_ne (by omega)]
theorem downP_set {lt : Value → Value → Bool} {vs : List Value} {q : Nat} {y : Value} : ∀ p, q ≤ p → downP lt (vs.set q y) p = downP lt vs p := by
  refine down_ind (vs := vs) fun p ih hq => ?_
  by_cases h : 2 * p + 1 < vs.length
  · have hk := kid_cases (lt := lt) (vs := vs) (p := p)
    rw [downP_in h, downP_in (by rw [List.length_set]; exact h), kid_set hq, ih _ (by omega) (kid_lt h) (by omega)]
  · rw [downP_end h, downP_end (by rw [List.length_set]; exact h)]
theorem downP_ge {lt : Value → Value → Bool} {vs : List Value} : ∀ p, ∀ q ∈ downP lt vs p, p ≤ q := by
  refine down_ind (vs := vs) fun p ih => ?_
  intro q hq
  by_cases h : 2 * p + 1 < vs.length
  · have hk := kid_cases (lt := lt) (vs := vs) (p := p)
    rw [downP_in h] at hq
    rcases List.mem_cons.mp hq with rfl | hq
    · exact Nat.le_refl _
    · have := ih _ (by omega) (kid_lt h) q hq; omega
  · rw [downP_end h] at hq
    simp at hq; omega
theorem downP_lt {lt : Value → Value → Bool} {vs : List Value} : ∀ p, p < vs.length → ∀ q ∈ downP lt vs p, q < vs.length := by
  refine down_ind (vs := vs) fun p ih => ?_
  intro hp q hq
  by_cases h : 2 * p + 1 < vs.length
  · have hk := kid_cases (lt := lt) (vs := vs) (p := p)
    rw [downP_in h] at hq
    rcases List.mem_cons.mp hq with rfl | hq
    · exact hp
    · exact ih _ (by omega) (kid_lt h) (kid_lt h) q hq
  · rw [downP_end h] at hq
    simp at hq; omega
theorem downP_way {lt : Value → Value → Bool} {vs : List Value} : ∀ p, Way (downP lt vs p) := by
  refine down_ind (vs := vs) fun p ih => ?_
  by_cases h : 2 * p + 1 < vs.length
  · have hk := kid_cases (lt := lt) (vs := vs) (p := p)
    have hw := ih (kid lt vs p) (by omega) (kid_lt h)
    rw [downP_in h]
    refine ⟨List.pairwise_cons.mpr ⟨fun q hq => ?_, hw.up⟩, fun i hi => ?_⟩
    · have := downP_ge (lt := lt) (vs := vs) (kid lt vs p) q hq; omega
    · cases i with
      | zero =>
        obtain ⟨r, hr⟩ := downP_head (lt := lt) (vs := vs) (p := kid lt vs p)
        rw [hr, List.getD_cons_succ, List.getD_cons_zero, List.getD_cons_zero]
        omega
      | succ i =>
        rw [List.getD_cons_succ, List.getD_cons_succ]
        exact hw.par i (by simpa using hi)
  · rw [downP_end h]
    exact ⟨List.pairwise_singleton _ _, fun i hi => by simp at hi⟩

/-- the items on the way behind its first place -/
def lineP (vs : List Value) (w : List Nat) : List Value := w.tail.map (vs.getD · .none)
def layAt (lt : Value → Value → Bool) (vs : List Value) (p : Nat) (x : Value) : List Value := lay vs (downP lt vs p) (insR lt (lineP vs (downP lt vs p)) x)
theorem layAt_len {lt : Value → Value → Bool} {vs : List Value} {p : Nat} {x : Value} : (layAt lt vs p x).length = vs.length := lay_len _ _ _
theorem su_lay {lt : Value → Value → Bool} {x : Value} : ∀ (k p : Nat) (vs : List Value), vs.length - p = k → p < vs.length →
    (su lt p vs).2.set (su lt p vs).1 x = lay vs (downP lt vs p) (lineP vs (downP lt vs p) ++ [x]) ∧ (su lt p vs).1 = (downP lt vs p).getD (lineP vs (downP lt vs p)).length 0 := by
  intro k
  induction k using Nat.strongRecOn with
  | _ k ih =>
    intro p vs hk hp
    by_cases h : 2 * p + 1 < vs.length
    · have hc := kid_cases (lt := lt) (vs := vs) (p := p)
      have hl := kid_lt (lt := lt) h
      obtain ⟨h1, h2⟩ := ih (vs.length - kid lt vs p) (by omega) (kid lt vs p) (vs.set p (vs.getD (kid lt vs p) .none)) (by rw [List.length_set]) (by rw [List.length_set]; exact hl)
      obtain ⟨r, hr⟩ := downP_head (lt := lt) (vs := vs) (p := kid lt vs p)
      have hge : ∀ q ∈ r, p ≠ q := fun q hq => by have := downP_ge (lt := lt) (vs := vs) (kid lt vs p) q (by rw [hr]; exact .tail _ hq); omega
      have e : lineP (vs.set p (vs.getD (kid lt vs p) .none)) (kid lt vs p :: r) = r.map (vs.getD · .none) := by
        rw [lineP, List.tail_cons]
        exact List.map_congr_left fun q hq => getD_set_ne (fun e => hge q hq e.symm)
      rw [su_in h, downP_in h]
      rw [downP_set _ (by omega), hr, e] at h1 h2
      rw [h1, h2, hr]
      simp only [lineP, List.tail_cons, List.map_cons, List.cons_append, List.length_cons, List.getD_cons_succ, lay, and_self]
    · rw [su_end h, downP_end h]
      exact ⟨rfl, rfl⟩
theorem lineP_len {vs : List Value} {w : List Nat} (h : w ≠ []) : w.length = (lineP vs w).length + 1 := by
  cases w with
  | nil => exact absurd rfl h
  | cons q r => simp [lineP]
theorem rising_of_chain {lt : Value → Value → Bool} (o : WO lt) {vs : List Value} : ∀ (l : List Value), (∀ i, i + 1 < l.length → lt (l.getD (i + 1) .none) (l.getD i .none) = false) → Rising lt l := by
  intro l h
  have key : ∀ d i, i + d < l.length → lt (l.getD (i + d) .none) (l.getD i .none) = false := by
    intro d
    induction d with
    | zero => intro i _; exact o.irr _
    | succ d ih => intro i hi; exact o.ntr _ _ _ (h (i + d) (by omega)) (ih i (by omega))
  refine List.pairwise_iff_getElem.mpr fun i j hi hj hij => ?_
  have := key (j - i) i (by omega)
  rw [show i + (j - i) = j by omega] at this
  simpa [List.getD, hi, hj] using this
theorem map_getD {vs : List Value} {w : List Nat} {i : Nat} (h : i < w.length) : (w.map (vs.getD · .none)).getD i .none = vs.getD (w.getD i 0) .none := by
  simp [List.getD, h]
theorem line_rising {lt : Value → Value → Bool} (o : WO lt) {vs : List Value} {w : List Nat} (hw : Way w) {s : Nat} (hs : ∀ q ∈ w, s ≤ q) (hb : ∀ q ∈ w, q < vs.length) (h : HeapAt lt s vs) : Rising lt (w.map (vs.getD · .none)) := by
  refine rising_of_chain (vs := vs) o _ fun i hi => ?_
  rw [List.length_map] at hi
  rw [map_getD hi, map_getD (by omega), ← hw.par i hi]
  have h1 := way_lt hw.up (i := i) (j := i + 1) (by omega) hi
  refine h _ (by omega) (hb _ (getD_mem0 hi)) ?_
  rw [hw.par i hi]
  exact hs _ (getD_mem0 (by omega))
theorem way_tail {q : Nat} {r : List Nat} (h : Way (q :: r)) : Way r :=
  ⟨(List.pairwise_cons.mp h.up).2, fun i hi => by have := h.par (i + 1) (by simpa using hi); simpa using this⟩
theorem heap_set {lt : Value → Value → Bool} {s : Nat} {vs : List Value} {x : Value} (h : HeapAt lt (s + 1) vs) : HeapAt lt (s + 1) (vs.set s x) := by
  intro i h0 hi hsi
  rw [List.length_set] at hi
  rw [getD_set_ne (by omega), getD_set_ne (by omega)]
  exact h i h0 hi hsi
theorem sup_layAt {lt : Value → Value → Bool} (o : WO lt) {s : Nat} {vs : List Value} {x : Value} (hs : s < vs.length) (h : HeapAt lt (s + 1) vs) : sup lt s (vs.set s x) = layAt lt vs s x := by
  obtain ⟨h1, h2⟩ := su_lay (lt := lt) (x := x) _ s (vs.set s x) rfl (by rw [List.length_set]; exact hs)
  rw [sup, show (vs.set s x).getD s .none = x by rw [getD_set hs, if_pos rfl], h1, h2, downP_set _ (Nat.le_refl _)]
  obtain ⟨r, hr⟩ := downP_head (lt := lt) (vs := vs) (p := s)
  have hw := downP_way (lt := lt) (vs := vs) s
  have hlt := downP_lt (lt := lt) s hs
  rw [layAt]
  rw [hr] at hw hlt ⊢
  have hgt := (List.pairwise_cons.mp hw.up).1
  have e : lineP (vs.set s x) (s :: r) = lineP vs (s :: r) := by
    rw [lineP, lineP, List.tail_cons]
    exact List.map_congr_left fun q hq => getD_set_ne (by have := hgt q hq; omega)
  rw [e, scanR (s := s) o hw rfl (fun q hq => by rw [List.length_set]; exact hlt q hq) (lineP_len (by simp)) (line_rising o (way_tail hw) (s := s + 1) (fun q hq => hgt q hq) (fun q hq => hlt q (.tail _ hq)) h)]
  generalize hg : insR lt (lineP vs (s :: r)) x = l
  cases l with
  | nil => exact absurd (congrArg List.length hg) (by rw [insR, insAt_length (bisR_le (Nat.zero_le _))]; simp)
  | cons y ys => rw [lay, lay, List.set_set]

/-- the row's way of heapify -/
def rowFrom (lt : Value → Value → Bool) : Nat → List Value → List Value
  | 0, vs => vs
  | k + 1, vs => rowFrom lt k (layAt lt vs k (vs.getD k .none))
theorem layAt_leaf {lt : Value → Value → Bool} {vs : List Value} {k : Nat} (hk : k < vs.length) (h : ¬ 2 * k + 1 < vs.length) : layAt lt vs k (vs.getD k .none) = vs := by
  rw [layAt, downP_end h]
  have e : insR lt (lineP vs [k]) (vs.getD k .none) = [vs.getD k .none] := by
    rw [show lineP vs [k] = [] from rfl, insR]; simp [insAt]
  rw [e, lay, lay_nil', set_self hk]
theorem rowFrom_leaf {lt : Value → Value → Bool} {vs : List Value} : ∀ k, k ≤ vs.length → vs.length / 2 ≤ k → rowFrom lt k vs = rowFrom lt (vs.length / 2) vs := by
  intro k
  induction k with
  | zero => intro _ h; rw [show vs.length / 2 = 0 by omega]
  | succ k ih =>
    intro h1 h2
    by_cases e : vs.length / 2 = k + 1
    · rw [e]
    · rw [rowFrom, layAt_leaf (by omega) (by omega)]
      exact ih (by omega) (by omega)
theorem rowFrom_hfy {lt : Value → Value → Bool} (o : WO lt) : ∀ k (vs : List Value), k ≤ vs.length → HeapAt lt k vs → rowFrom lt k vs = hfyFrom lt k vs ∧ HeapAt lt 0 (hfyFrom lt k vs) := by
  intro k
  induction k with
  | zero => intro vs _ h; exact ⟨rfl, h⟩
  | succ k ih =>
    intro vs hk h
    have e := sup_layAt o (x := vs.getD k .none) (show k < vs.length by omega) h
    rw [set_self (by omega)] at e
    rw [rowFrom, hfyFrom, ← e]
    have hp := (sup_perm (lt := lt) (pos := k) (vs := vs) (by omega)).length_eq
    exact ih _ (by omega) (sup_heap o (by omega) h)
theorem hfy_row {lt : Value → Value → Bool} (o : WO lt) {vs : List Value} : rowFrom lt vs.length vs = hfy lt vs ∧ HeapAt lt 0 (hfy lt vs) := by
  rw [rowFrom_leaf _ (Nat.le_refl _) (by omega), hfy]
  exact rowFrom_hfy o _ _ (by omega) (fun i h0 hi h => by omega)

/-- the way from the top to a place -/
def upP (p : Nat) : List Nat := if h : 0 < p then upP ((p - 1) / 2) ++ [p] else [p]
termination_by p
decreasing_by omega
theorem upP_zero : upP 0 = [0] := by rw [upP]; simp
theorem upP_pos {p : Nat} (h : 0 < p) : upP p = upP ((p - 1) / 2) ++ [p] := by rw [upP, dif_pos h]
theorem upP_le : ∀ p, ∀ q ∈ upP p, q ≤ p := by
  intro p
  induction p using Nat.strongRecOn with
  | _ p ih =>
    intro q hq
    by_cases h : 0 < p
    · rw [upP_pos h] at hq
      rcases List.mem_append.mp hq with hq | hq
      · have := ih _ (by omega) q hq; omega
      · simp at hq; omega
    · obtain rfl : p = 0 := by omega
      rw [upP_zero] at hq; simp at hq; omega
theorem upP_last : ∀ p, ∃ r, upP p = r ++ [p] ∧ ∀ q ∈ r, q < p := by
  intro p
  by_cases h : 0 < p
  · exact ⟨_, upP_pos h, fun q hq => by have := upP_le _ q hq; omega⟩
  · obtain rfl : p = 0 := by omega
    exact ⟨[], upP_zero, fun q hq => by cases hq⟩
theorem upP_way : ∀ p, Way (upP p) ∧ (upP p).getD 0 0 = 0 := by
  intro p
  induction p using Nat.strongRecOn with
  | _ p ih =>
    by_cases h : 0 < p
    · obtain ⟨hw, h0⟩ := ih ((p - 1) / 2) (by omega)
      obtain ⟨r, hr, _⟩ := upP_last ((p - 1) / 2)
      rw [upP_pos h]
      have hne : 0 < (upP ((p - 1) / 2)).length := by rw [hr]; simp
      refine ⟨⟨List.pairwise_append.mpr ⟨hw.up, List.pairwise_singleton _ _, fun a ha b hb => ?_⟩, fun i hi => ?_⟩, ?_⟩
      · have := upP_le _ a ha; simp at hb; omega
      · rw [List.length_append, List.length_singleton] at hi
        by_cases e : i + 1 < (upP ((p - 1) / 2)).length
        · have := hw.par i e
          simp only [List.getD] at this ⊢
          rw [List.getElem?_append_left e, List.getElem?_append_left (by omega)]
          exact this
        · have ei : i + 1 = (upP ((p - 1) / 2)).length := by omega
          have el : i = r.length := by rw [hr] at ei; simp at ei; omega
          simp only [List.getD]
          rw [List.getElem?_append_right (by omega), List.getElem?_append_left (by omega), ei, Nat.sub_self, hr, el, List.getElem?_append_right (Nat.le_refl _), Nat.sub_self]
          rfl
      · simp only [List.getD] at h0 ⊢
        rw [List.getElem?_append_left hne]; exact h0
    · obtain rfl : p = 0 := by omega
      rw [upP_zero]
      exact ⟨⟨List.pairwise_singleton _ _, fun i hi => by simp at hi⟩, rfl⟩
/-- the items on the way ahead of its last place -/
def lineU (vs : List Value) (w : List Nat) : List Value := w.dropLast.map (vs.getD · .none)
def layUp (lt : Value → Value → Bool) (vs : List Value) (x : Value) : List Value := lay (vs ++ [x]) (upP vs.length) (insR lt (lineU vs (upP vs.length)) x)
theorem hpush_layUp {lt : Value → Value → Bool} (o : WO lt) {vs : List Value} {x : Value} (h : HeapAt lt 0 vs) : hpush lt vs x = layUp lt vs x := by
  obtain ⟨hw, h0⟩ := upP_way vs.length
  obtain ⟨r, hr, hlt⟩ := upP_last vs.length
  rw [hpush, layUp]
  have hle := upP_le vs.length
  have el : lineU vs (upP vs.length) = r.map (vs.getD · .none) := by rw [lineU, hr, List.dropLast_concat]
  have hg : ∀ q, q < vs.length → (vs ++ [x]).getD q .none = vs.getD q .none := fun q hq => by simp only [List.getD]; rw [List.getElem?_append_left hq]
  have hgx : (vs ++ [x]).getD vs.length .none = x := by simp [List.getD]
  have hb : ∀ q ∈ upP vs.length, q < (vs ++ [x]).length := fun q hq => by have := hle q hq; simp; omega
  have hwr : Way r := by
    rw [hr] at hw
    refine ⟨(List.pairwise_append.mp hw.up).1, fun i hi => ?_⟩
    have := hw.par i (by simp; omega)
    simp only [List.getD] at this ⊢
    rw [List.getElem?_append_left hi, List.getElem?_append_left (by omega)] at this
    exact this
  have hL : (lineU vs (upP vs.length)).length = r.length := by rw [el, List.length_map]
  have := scanR o (x := x) (V := vs ++ [x]) hw h0 hb (l := lineU vs (upP vs.length)) (by rw [hL, hr]; simp) (by rw [el]; exact line_rising o hwr (s := 0) (fun q _ => Nat.zero_le q) hlt h)
  rw [← this, hL]
  have e1 : (upP vs.length).getD r.length 0 = vs.length := by rw [hr]; simp [List.getD]
  have e2 : lineU vs (upP vs.length) ++ [x] = (upP vs.length).map ((vs ++ [x]).getD · .none) := by
    rw [el, hr, List.map_append, List.map_cons, List.map_nil, hgx]
    congr 1
    exact List.map_congr_left fun q hq => (hg q (hlt q hq)).symm
  rw [e1, e2, lay_id _ _ hb]
/-- the least of a row by «less», the first of equals -/
def minTo (lt : Value → Value → Bool) (vs : List Value) : Nat → Value
  | 0 => vs.getD 0 .none
  | k + 1 => if lt (vs.getD (k + 1) .none) (minTo lt vs k) then vs.getD (k + 1) .none else minTo lt vs k
section
variable {prog : Program} {w : World} {A : Around} {R : Result → Shared → Prop} {I : Addr} {fp wr : List Addr} {n : Nat} {P : Nat → Value → Prop} {St : Nat → Heap → Prop} {g : Heap} {S : Value → Prop} {lt : Value → Value → Bool} {vs : List Value}
theorem minTo_S (hS : ∀ v ∈ vs, S v) : ∀ j, j < vs.length → S (minTo lt vs j)
  | 0, h => hS _ (getD_mem h)
  | k + 1, h => by
    rw [minTo]
    split
    · exact hS _ (getD_mem h)
    · exact minTo_S hS k (by omega)
theorem min_loop (W : Walks prog w A.in1 I fp wr vs.length P St) (hP : ∀ i v, P i v → v = vs.getD i .none) (hc : Cmp prog w g S lt) (hu : A.in1.units + 8 < cLine) (hSv : ∀ v ∈ vs, S v) (T : Addr) (hTf : T ∉ fp) (hgw : ∀ b o, g.get? b = some o → b ∉ wr) (hgT : g.get? T = none) :
    ∀ (k j : Nat) (s : Shared) (c : Nat), vs.length - (j + 1) = k → j + 1 ≤ vs.length → St (j + 1) s.heap → (∀ b o, g.get? b = some o → s.heap.get? b = some o) →
    s.heap.get? T = some { cls := .type "list", dict := none, data := .seq #[minTo lt vs j, minTo lt vs j] c, slots := #[] } →
    (∀ h' tk, (∀ b o, b ∉ wr → b ≠ T → s.heap.get? b = some o → h'.get? b = some o) → R (.ok (.ret (minTo lt vs (vs.length - 1)))) { s with heap := h', toks := tk }) →
    codeAny (model prog w) A (.builtin "min.loop" ⟨[.ref I, .none, .ref T], []⟩) R s := by
  have hTw : T ∉ wr := fun h => hTf (W.sub _ h)
  have hname : (toString "min" ++ toString ".loop" : String) = "min.loop" := by decide
  intro k
  induction k with
  | zero =>
    intro j s c hk hj hst hg hS hR
    have hin : j + 1 = vs.length := by omega
    refine codeAny_builtin F.entry_min_loop ?_
    rw [Around.under_plainId F.plain_min_loop _]
    show wpAny _ A.in1 (seqItems? (.ref T) >>= _) _ _ s
    refine wpAny_bind (wpAny_seqItems hS rfl ?_)
    show wpAny _ A.in1 (tryCatch (pyNext (.ref I)) _ >>= _) _ _ s
    refine wpAny_bind (wpAny_tryCatch (W.done s _ _ (hin ▸ hst) fun h' tk hk' => ?_))
    have hS' := hk' T _ hTw hS
    show wpAny _ A.in1 (updateSeq T (fun _ => #[]) >>= _) _ _ _
    refine wpAny_bind ?_
    refine wpAny_updateSeq hS' rfl (wpAny_bind (wpAny_letGo (wpAny_pure ?_)))
    rw [← hin] at hR
    exact hR _ tk fun b o hbw hbS e => (Heap.get?_update_other _ _ (Ne.symm hbS)).trans (hk' b o hbw e)
  | succ k ih =>
    intro j s c hk hj hst hg hS hR
    have hlt : j + 1 < vs.length := by omega
    refine codeAny_builtin F.entry_min_loop ?_
    rw [Around.under_plainId F.plain_min_loop _]
    show wpAny _ A.in1 (seqItems? (.ref T) >>= _) _ _ s
    refine wpAny_bind (wpAny_seqItems hS rfl ?_)
    show wpAny _ A.in1 (tryCatch (pyNext (.ref I)) _ >>= _) _ _ s
    refine wpAny_bind (wpAny_tryCatch (W.item (j + 1) s _ _ hlt hst fun v h' tk hv hst' hk' => ?_))
    obtain rfl := hP _ _ hv
    have hS' := hk' T _ hTw hS
    have hg' : ∀ b o, g.get? b = some o → h'.get? b = some o := fun b o e => hk' b o (hgw b o e) (hg b o e)
    show wpAny _ A.in1 (tryCatch (holding [vs.getD (j + 1) .none, vs.getD (j + 1) .none] (richCompare .Lt (vs.getD (j + 1) .none) (minTo lt vs j) >>= _)) _ >>= _) _ _ _
    refine wpAny_bind (wpAny_tryCatch (wpAny_holding (wpAny_bind (hc _ _ (hSv _ (getD_mem hlt)) (minTo_S hSv j (by omega)) A.in1 _ _ _ hu hg' fun tk2 => ?_))))
    refine wpAny_bind (wpAny_holding (wpAny_truthy_bool ?_))
    refine wpAny_bind (wpAny_letGo (wpAny_pure ?_))
    cases hb : lt (vs.getD (j + 1) .none) (minTo lt vs j) with
    | true =>
      simp only [if_true]
      refine wpAny_bind ?_
      refine wpAny_updateSeq hS' rfl (wpAny_bind (wpAny_letGo ?_))
      rw [hname]
      refine wpAny_pure ⟨plainId_quiet F.plain_min_loop _, ih (j + 1) _ _ (by omega) hlt (W.frame _ _ _ hst' fun b hbf o e => ?_) (fun b o e => ?_) (by rw [minTo, hb, if_pos rfl]; exact Heap.get?_update_self _ hS' rfl)
        fun h'' tk'' hk'' => ?_⟩
      · exact (Heap.get?_update_other _ _ (fun h : T = b => hTf (by rw [h]; exact hbf))).trans e
      · exact (Heap.get?_update_other _ _ (fun h : T = b => by rw [← h, hgT] at e; cases e)).trans (hg' b o e)
      · exact hR h'' tk'' fun b o hbw hbS e => hk'' b o hbw hbS ((Heap.get?_update_other _ _ (Ne.symm hbS)).trans (hk' b o hbw e))
    | false =>
      simp only [Bool.false_eq_true, if_false]
      refine wpAny_bind (wpAny_letGo ?_)
      rw [hname]
      refine wpAny_pure ⟨plainId_quiet F.plain_min_loop _, ih (j + 1) _ c (by omega) hlt hst' hg' (by rw [minTo, hb, if_neg (by decide)]; exact hS') fun h'' tk'' hk'' => ?_⟩
      exact hR h'' tk'' fun b o hbw hbS e => hk'' b o hbw hbS (hk' b o hbw e)
end
theorem min_list {prog : Program} {w : World} {A : Around} {E : Value → Shared → Prop} {s : Shared} {Q : Value → Shared → Prop} {g : Heap} {S : Value → Prop} {lt : Value → Value → Bool} {vs : List Value} {l : Addr} (hh : A.handled = none) (hl : s.heap.IsList l vs.toArray) (hne : 0 < vs.length)
    (hc : Cmp prog w g S lt) (hu : A.units + 9 < cLine) (hS : ∀ v ∈ vs, S v) (hg : ∀ b o, g.get? b = some o → s.heap.get? b = some o)
    (h : ∀ h' tk, (∀ b o, s.heap.get? b = some o → h'.get? b = some o) → Q (minTo lt vs (vs.length - 1)) { s with heap := h', toks := tk }) : wpAny (model prog w) A (call (.builtin "min") [.ref l]) Q E s := by
  have hname : (toString "min" ++ toString ".loop" : String) = "min.loop" := by decide
  have hltl : l < s.heap.objs.size := by obtain ⟨_, e, _⟩ := hl; exact Heap.lt_size e
  refine call_function_tree F.kind_min F.plain_min F.entry_min (F.args_min1 _) ?_
  show wpAny _ A.in1 (Builtin.Builtins.bindParams "min" ["key", "default"] 0 ⟨[], []⟩ >>= _) _ _ s
  refine wpAny_bind (wpAny_of_eq (show Builtin.Builtins.bindParams "min" ["key", "default"] 0 ⟨[], []⟩ = pure [none, none] from rfl) ?_)
  refine wpAny_bind (wpAny_pure ?_)
  refine wpAny_bind (wpAny_pyIter_list hl ?_)
  have W := Walks.list (prog := prog) (w := w) (A := A.in1) hh s.heap.objs.size l (Nat.ne_of_lt hltl) vs.toArray
  have hsz : vs.toArray.size = vs.length := List.size_toArray
  rw [hsz] at W
  have hP : ∀ (i : Nat) v, vs.toArray[i]? = some v → v = vs.getD i .none := fun i v e => by simp [List.getD] at e ⊢; simp [e]
  have hst : ((s.heap.push { cls := .type "list_iterator", data := .fields #[.ref l, .int 0 0] }).IsListIter s.heap.objs.size l 0 ∧ (s.heap.push { cls := .type "list_iterator", data := .fields #[.ref l, .int 0 0] }).IsList l vs.toArray) := ⟨⟨_, Heap.get?_push_size _ rfl, rfl, rfl⟩, hl.at fun o e => Heap.get?_push_of_some _ e⟩
  refine wpAny_bind (wpAny_newObj_type ?_)
  rw [hname]
  refine wpAny_pure ⟨plainId_quiet F.plain_min_loop _, ?_⟩
  generalize hh1 : s.heap.push { cls := .type "list_iterator", data := .fields #[.ref l, .int 0 0] } = h1 at hst ⊢
  have hsize : h1.objs.size = s.heap.objs.size + 1 := by rw [← hh1]; exact Heap.size_push _ _
  have hup : ∀ b o, s.heap.get? b = some o → h1.get? b = some o := fun b o e => by rw [← hh1]; exact Heap.get?_push_of_some _ e
  have hTf : h1.objs.size ∉ [s.heap.objs.size, l] := by
    intro hm
    simp only [List.mem_cons, List.not_mem_nil, or_false] at hm
    rcases hm with e | e
    · rw [hsize] at e; exact absurd e (by omega)
    · rw [hsize] at e; have : l < s.heap.objs.size := hltl; have e' := eqN e; have := ltN this; omega
  have hTw : h1.objs.size ∉ [s.heap.objs.size] := fun hm => hTf (List.mem_cons.mpr (.inl (List.mem_singleton.mp hm)))
  have hgT : g.get? h1.objs.size = none := by
    cases e : g.get? h1.objs.size with
    | none => rfl
    | some o => have := Heap.lt_size (hg _ _ e); rw [hsize] at this; exact absurd this (Nat.not_lt_of_le (Nat.le_succ _))
  have hgw : ∀ b o, g.get? b = some o → b ∉ [s.heap.objs.size] := fun b o e hm => by
    have := Heap.lt_size (hg _ _ e); rw [List.mem_singleton.mp hm] at this; exact Nat.lt_irrefl _ this
  refine codeAny_builtin F.entry_min_loop ?_
  rw [Around.under_plainId F.plain_min_loop _]
  show wpAny _ A.in1 (seqItems? (.ref h1.objs.size) >>= _) _ _ _
  have hT : (h1.push { cls := .type "list", data := .seq #[] }).get? h1.objs.size = some { cls := .type "list", dict := none, data := .seq #[] 0, slots := #[] } := Heap.get?_push_size _ rfl
  refine wpAny_bind (wpAny_seqItems hT rfl ?_)
  show wpAny _ A.in1 (tryCatch (pyNext (.ref s.heap.objs.size)) _ >>= _) _ _ _
  refine wpAny_bind (wpAny_tryCatch (W.item 0 _ _ _ hne (W.frame _ _ _ hst fun b _ o e => Heap.get?_push_of_some _ e) fun v h' tk hv hst' hk' => ?_))
  obtain rfl := hP _ _ hv
  have hS' := hk' _ _ hTw hT
  show wpAny _ A.in1 (updateSeq h1.objs.size (fun _ => #[vs.getD 0 .none, vs.getD 0 .none]) >>= _) _ _ _
  refine wpAny_bind ?_
  refine wpAny_updateSeq hS' rfl ?_
  rw [hname]
  refine wpAny_pure ⟨plainId_quiet F.plain_min_loop _, min_loop (g := g) (S := S) (lt := lt) W hP hc ?_ hS h1.objs.size hTf hgw hgT _ 0 _ _ rfl hne (W.frame _ _ _ hst' fun b hbf o e => ?_) (fun b o e => ?_) (Heap.get?_update_self _ hS' rfl) fun h'' tk'' hk'' => ?_⟩
  · show A.units + 1 + 8 < _; omega
  · exact (Heap.get?_update_other _ _ (fun h : h1.objs.size = b => hTf (by rw [h]; exact hbf))).trans e
  · exact (Heap.get?_update_other _ _ (fun h : h1.objs.size = b => by rw [← h, hgT] at e; cases e)).trans (hk' b o (hgw b o e) (Heap.get?_push_of_some _ (hup _ _ (hg b o e))))
  · refine h h'' tk'' fun b o e => ?_
    have hb : b < s.heap.objs.size := Heap.lt_size e
    have hb1 : b ≠ h1.objs.size := by rw [hsize]; exact Nat.ne_of_lt (Nat.lt_succ_of_lt hb)
    have hb2 : b ∉ [s.heap.objs.size] := fun hm => Nat.ne_of_lt hb (List.mem_singleton.mp hm)
    exact hk'' b o hb2 hb1 ((Heap.get?_update_other _ _ (Ne.symm hb1)).trans (hk' b o hb2 (Heap.get?_push_of_some _ (hup _ _ e))))
section
variable {prog : Program} {w : World} {A : Around} {E : Value → Shared → Prop} {s : Shared} {h₀ : Heap} {L : Addr} {m : Str → Option Value} {news news' : List (Addr × Obj)} {D : Addr} {vs : List Value} {n : Nat} {u : Tok} {v : Value}
theorem last_gen {value slice : Expr} {Q : Value → Shared → Prop} (N : News h₀ L s.heap news) (hm : (D, listOf vs.toArray n) ∈ news) (hk : 0 < vs.length)
    (h : Q (vs.getD (vs.length - 1) .none) s)
    (hs : subscripted slice false (.ref D) (.int (-1) u) = operate [.ref D, .int (-1) u] (getItem (.ref D) (.int (-1) u)) := by with_unfolding_all rfl) :
    wpAny (model prog w) A (subscriptTail value slice (.ref D) (.int (-1) u)) Q E s := by
  refine kde_neg (j := vs.length - 1) (v := vs.getD (vs.length - 1) .none) (N.isList hm) (by decide) (by decide) ?_ (getElem?_getD (by omega)) h hs
  unfold seqIndex?
  have e : (-1 : Int) + (vs.length : Int) = ((vs.length - 1 : Nat) : Int) := by omega
  simp only [show (-1 : Int) < 0 by decide, if_true, e]
  rw [if_pos (by simp; omega), Int.toNat_natCast]
theorem getD_snoc {ws : List Value} {y : Value} : (ws ++ [y]).getD ((ws ++ [y]).length - 1) .none = y := by simp [List.getD]
theorem pick_run2 (k j : Nat) : (slicePick vs.toArray (some (k : Int)) (some (j : Int)) none).toList = (vs.drop k).take (j - k) := by
  rw [slicePick_plain]
  simp only [Option.elim, clipAt_nat, List.size_toArray]
  rcases Nat.le_total k vs.length with h | h
  · rw [Nat.min_eq_left h]
    rcases Nat.le_total j vs.length with h' | h'
    · rw [Nat.min_eq_left h']
    · rw [Nat.min_eq_right h', List.take_of_length_le (by simp), List.take_of_length_le (by simp; omega)]
  · rw [Nat.min_eq_right h, List.drop_of_length_le (by simp), List.drop_of_length_le h]; simp
theorem drop_two {k : Nat} (h : k + 1 < vs.length) : (vs.drop k).take 2 = [vs.getD k .none, vs.getD (k + 1) .none] := by
  have h' : k < vs.length := by omega
  rw [List.drop_eq_getElem_cons h', List.drop_eq_getElem_cons h]
  simp only [List.take_succ_cons, List.take_zero, List.getD, List.getElem?_eq_getElem h, List.getElem?_eq_getElem h', Option.getD_some]
theorem drop_one {k : Nat} (h : k + 1 = vs.length) : (vs.drop k).take 2 = [vs.getD k .none] := by
  rw [List.drop_eq_getElem_cons (by omega), List.drop_of_length_le (by omega)]
  simp [List.getD, show k < vs.length by omega]
theorem pick_two {k : Nat} {x₀ x : Int} (e₀ : x₀ = (k : Int)) (e : x = (k : Int) + 2) (h : k + 1 < vs.length) : (slicePick vs.toArray (some x₀) (some x) none).toList = [vs.getD k .none, vs.getD (k + 1) .none] := by
  have e2 : x = ((k + 2 : Nat) : Int) := by omega
  rw [e₀, e2, pick_run2, show k + 2 - k = 2 by omega, drop_two h]
theorem pick_one {k : Nat} {x₀ x : Int} (e₀ : x₀ = (k : Int)) (e : x = (k : Int) + 2) (h : k + 1 = vs.length) : (slicePick vs.toArray (some x₀) (some x) none).toList = [vs.getD k .none] := by
  have e2 : x = ((k + 2 : Nat) : Int) := by omega
  rw [e₀, e2, pick_run2, show k + 2 - k = 2 by omega, drop_one h]
end
theorem eq_two {lt : Value → Value → Bool} (o : WO lt) {x y : Value} : (!lt x (if lt x y = true then x else y) && !lt (if lt x y = true then x else y) x) = !lt y x := by
  cases h : lt x y with
  | true => rw [if_pos rfl, o.irr, o.asym _ _ h]; rfl
  | false => rw [if_neg (by decide), h]; rfl
theorem eq_one {lt : Value → Value → Bool} (o : WO lt) {x : Value} : (!lt x x && !lt x x) = true := by rw [o.irr]; rfl
theorem lay_snoc : ∀ (w : List Nat) (vs l : List Value) (q : Nat) (y : Value), w.length = l.length → lay vs (w ++ [q]) (l ++ [y]) = (lay vs w l).set q y := by
  intro w
  induction w with
  | nil =>
    intro vs l q y h
    obtain rfl : l = [] := List.length_eq_zero_iff.mp h.symm
    rfl
  | cons p ps ih =>
    intro vs l q y h
    cases l with
    | nil => simp at h
    | cons x xs => exact ih _ xs q y (by simpa using h)
theorem lay_succ {w : List Nat} {vs l : List Value} {i : Nat} (hw : i < w.length) (hl : i < l.length) : lay vs (w.take (i + 1)) (l.take (i + 1)) = (lay vs (w.take i) (l.take i)).set (w.getD i 0) (l.getD i .none) := by
  have e1 : w.take (i + 1) = w.take i ++ [w.getD i 0] := by
    rw [List.take_succ_eq_append_getElem hw]; simp [List.getD, hw]
  have e2 : l.take (i + 1) = l.take i ++ [l.getD i .none] := by
    rw [List.take_succ_eq_append_getElem hl]; simp [List.getD, hl]
  rw [e1, e2, lay_snoc _ _ _ _ _ (by simp; omega)]
theorem lay_min : ∀ (w : List Nat) (vs l : List Value), lay vs (w.take (min w.length l.length)) (l.take (min w.length l.length)) = lay vs w l := by
  intro w
  induction w with
  | nil => intro vs l; simp [lay_nil', lay_nil]
  | cons p ps ih =>
    intro vs l
    cases l with
    | nil => simp [lay_nil]
    | cons x xs =>
      rw [List.length_cons, List.length_cons, show min (ps.length + 1) (xs.length + 1) = min ps.length xs.length + 1 by omega, List.take_succ_cons, List.take_succ_cons, lay, lay]
      exact ih _ xs
theorem ints_at {ws : List Value} {ns : List Nat} (h : IntsAre ws (ns.map Int.ofNat)) {i : Nat} {v : Value} (hv : ws[i]? = some v) : i < ns.length ∧ ∃ t, v = .int (ns.getD i 0 : Nat) t := by
  induction ns generalizing ws i with
  | nil => cases h; simp at hv
  | cons n ns ih =>
    cases h with
    | cons j t h' =>
      cases i with
      | zero => simp at hv; exact ⟨by simp, t, hv.symm⟩
      | succ i =>
        rw [List.getElem?_cons_succ] at hv
        obtain ⟨h1, t, e⟩ := ih h' hv
        exact ⟨by simp; exact h1, t, by rw [List.getD_cons_succ]; exact e⟩
theorem insR_mem {lt : Value → Value → Bool} {S : Value → Prop} {ls : List Value} {x : Value} (hS : ∀ v ∈ ls, S v) (hx : S x) : ∀ v ∈ insR lt ls x, S v := fun v hv => by
  rcases insAt_mem hv with rfl | h
  · exact hx
  · exact hS v h
theorem lay_mem {S : Value → Prop} : ∀ (w : List Nat) (vs l : List Value), (∀ v ∈ vs, S v) → (∀ v ∈ l, S v) → ∀ v ∈ lay vs w l, S v := by
  intro w
  induction w with
  | nil => intro vs l h _; rw [lay_nil']; exact h
  | cons p ps ih =>
    intro vs l h1 h2
    cases l with
    | nil => rw [lay_nil]; exact h1
    | cons x xs => exact ih _ _ (all_set h1 (h2 _ (.head _))) fun v hv => h2 v (.tail _ hv)
theorem way_short {w : List Nat} (hw : Way w) {n : Nat} (hb : ∀ q ∈ w, q < n) : w.length ≤ n := by
  have key : ∀ i, i < w.length → i ≤ w.getD i 0 := by
    intro i
    induction i with
    | zero => intro _; exact Nat.zero_le _
    | succ i ih =>
      intro hi
      have h1 := ih (by omega)
      have h2 := way_lt hw.up (i := i) (j := i + 1) (by omega) hi
      omega
  by_cases h0 : w.length = 0
  · omega
  · have h1 := key (w.length - 1) (by omega)
    have h2 := hb _ (getD_mem0 (w := w) (k := w.length - 1) (by omega))
    omega
theorem ints_split {ns : List Int} {k : Int} : ∀ {ws : List Value}, IntsAre ws (ns ++ [k]) → ∃ ws' t, ws = ws' ++ [.int k t] ∧ IntsAre ws' ns := by
  induction ns with
  | nil =>
    intro ws h
    cases h with
    | cons j t h' => cases h'; exact ⟨[], t, rfl, .nil⟩
  | cons n ns ih =>
    intro ws h
    cases h with
    | cons j t h' =>
      obtain ⟨ws', t', rfl, h2⟩ := ih h'
      exact ⟨_ :: ws', t', rfl, .cons _ _ h2⟩
theorem neN' {a b : Nat} (h : a ≠ b) : a ≠ b := h
section
variable {prog : Program} {w : World} {A : Around} {s : Shared} {h₀ : Heap} {L : Addr} {m : Str → Option Value} {own rest : List (Addr × Obj)} {K : Frag}
  {p : Program} {loose : List Str} {mean : ExcName → Option Value} {mg mb : Str → Option Value} {d : Nat} {Q : Value → Shared → Prop} {E : Value → Shared → Prop}
  {name qual : Str} {params : Arguments} {body : List Stmt} {scope : Scope} {dV kV doc pm cdv ct oc : Value} {an od : Option Addr} {osl : Array (Option Value)} {f : Addr} {args : List Value} {kw : List (Str × Value)} {binds : List (Str × Value)}
/-- call_at for a def with cells -/
theorem call_atC (C : At K p loose mean mg mb A h₀ L (d + 1)) (F : Fr h₀ L s.heap m) (N : News h₀ L s.heap (own ++ rest)) (hsep : ∀ p ∈ own, ∀ q ∈ rest, p.1 ≠ q.1)
    (ho : K.lookup f = some ⟨oc, od, .func (fnOf name qual params body scope dV kV doc pm an cdv ct), osl⟩) (hcd : codeIn K cdv qual = true)
    (hbind : BindsTo s (fnOf name qual params body scope dV kV doc pm an cdv ct) ⟨args, kw⟩ binds) (hkind : (binds.all fun y => scope.names.lookup y.1 == some .local || scope.names.lookup y.1 == some .cell) = true)
    (hnd : ((cellsFrom 0 scope.names []).map (·.1)).Nodup)
    (h : ∀ g L' h₁ tk cells, At K p loose mean mg mb (A.deeper (envOfC qual scope L' f cdv)) g L' d → Fr g L' h₁ (bindL (envOfC qual scope L' f cdv).kindOf binds fun _ => none) → News g L' h₁ (cells ++ own) →
      CellsAre (bindC (envOfC qual scope L' f cdv).kindOf binds fun _ => none) (cellsFrom (L' + 1) scope.names []) cells → (∀ q ∈ rest, g.get? q.1 = some q.2) → h₀.StaysIn g → (∀ p ∈ own, @LT.lt Nat _ p.1 L') →
      wpAny (model prog w) (A.deeper (envOfC qual scope L' f cdv)) (execs body (envOfC qual scope L' f cdv))
        (fun fl s' => LeaveF h₀ L m g rest (fun r s' => match r with | .ok (.ret v) => Q v s' | .ok _ => False | .error e => E e s') (match fl with | .ret v => v | _ => .none) s')
        (fun e s' => wpAny (model prog w) (A.deeper (envOfC qual scope L' f cdv)) (leaving (envOfC qual scope L' f cdv) e) (fun _ s'' => E e s'') (fun e' s'' => E e' s'') s')
        { s with heap := h₁, toks := tk })
    (hco : scope.isCoroutine = false) (hgen : scope.isGenerator = false) (hk : scope.kind = .function) : wpAny (model prog w) A (call (.ref f) args kw) Q E s := by
  obtain ⟨⟨A₀, base, outer, env, B, hA, hf, hke⟩, X, T, hd, hu, hh⟩ := C
  have N' : News h₀ L s.heap own := fun q hq => N q (List.mem_append_left _ hq)
  refine wpAny_call ?_
  obtain ⟨FG, BG, st, lv⟩ := groundX (R := fun r s' => match r with | .ok (.ret v) => Q v s' | .ok _ => False | .error e => E e s') B F N' hA hf hke
  have hrest : ∀ q ∈ rest, (hideAll s.heap (own.map (·.1))).get? q.1 = some q.2 := fun q hq =>
    hideAll_get _ (N q (List.mem_append_right _ hq)).1 fun hm => by
      obtain ⟨p, hp, e⟩ := List.mem_map.mp hm
      exact hsep p hp q hq e
  refine codeAny_call_function (by omega) ((X.keeps F.keep) _ _ ho) rfl hco hgen rfl (codeRec_of (X.keeps F.keep) hcd) (hbind _ _ _ _ ?_)
  refine wpAny_newFunctionEnv_cells hk (kindsX hkind _) fun env' he s' x => ?_
  subst he
  refine ⟨(T.nolimit.keeps F.keep).keeps x.toInCall.keep, codeAny_func ?_⟩
  obtain ⟨h₁, tk, rfl, _⟩ := x.done
  have hk₁ := x.toInCall.keep
  obtain ⟨cells, NC, Y⟩ := Cl.news (h₀ := s.heap) (Nat.le_refl _) fun n c hm => ⟨x.cell n c (lookup_of_mem_nodup (cellsFrom_names scope.names 0 (s.heap.objs.size + 1) [] [] rfl ▸ hnd) hm), x.above n c hm⟩
  refine wpAny_mono (h (hideAll s.heap (own.map (·.1))) s.heap.objs.size h₁ tk cells ?_ ⟨x.toInCall.ns, fun b o e => hk₁ b o (of_hideAll _ e), Nat.le_of_eq (hideAll_size _ _)⟩ (fun p hp => ?_) Y hrest st (fun p hp => Heap.lt_size (N' p hp).1)) (fun fl s' hl => ?_) fun _ _ y => y
  · refine ⟨⟨A, base, env :: outer, envOfC qual scope s.heap.objs.size f cdv, BG, ?_, rfl, hk⟩, X.keeps st, T.keeps st, ?_, ?_, hh⟩
    · show Option.map _ A.frames = _
      rw [hA]; rfl
    · show A.depth + 1 + d < _
      omega
    · show A.units + 3 + 16 * d + 16 < _
      omega
  · rcases List.mem_append.mp hp with hp | hp
    · refine ⟨(NC p hp).1, (NC p hp).2.1, ?_⟩
      cases q : (hideAll s.heap (own.map (·.1))).get? p.1 with
      | none => rfl
      | some o => have := of_hideAll _ q; rw [(NC p hp).2.2] at this; cases this
    · exact ⟨hk₁ _ _ (N' p hp).1, Nat.ne_of_lt (Heap.lt_size (N' p hp).1), hideAll_none _ (List.mem_map_of_mem hp)⟩
  · obtain ⟨L', m', own', F', N'', k⟩ := hl
    refine lv _ _ ⟨L', m', own', F', N'', fun kF kN => k kF (fun q hq => ?_) fun q hq r hr e => ?_⟩
    · rcases List.mem_append.mp hq with hq | hq
      · exact kN q hq
      · exact ⟨F'.keep _ _ (hrest q hq), (N q (List.mem_append_right _ hq)).2⟩
    · have h1 := (N'' q hq).2.2
      rw [e, hrest r hr] at h1
      cases h1
end
theorem eq_nil {prog : Program} {w : World} {A : Around} {E : Value → Shared → Prop} {s : Shared} {Q : Value → Shared → Prop} {a b : Addr} {vs : List Value} (hl : s.heap.IsList a vs.toArray) (hb : s.heap.IsList b ([] : List Value).toArray) (hu : A.units < cLine)
    (h : Q (.bool (decide (vs = []))) s) : wpAny (model prog w) A (compareOp .Eq (.ref a) (.ref b)) Q E s := by
  refine cmp_ofEq ?_
  cases vs with
  | nil => exact PySem.SeqAt.RcAt.lists (e := fun _ => true) hl hb rfl hu (fun j h1 _ => absurd h1 (by simp)) prog w E Q (by simpa using h)
  | cons x r => exact PySem.SeqAt.RcAt.lists_lengths hl hb (by simp) hu prog w E Q (by simpa using h)
/-- what the row's side tells, and the row then -/
def dueR (lt : Value → Value → Bool) (vs : List Value) (k : Nat) (x : Value) : List Value × List Value :=
  if k < 2 then ([.none], layUp lt vs x)
  else if k = 3 ∧ (vs = [] ∨ lt (vs.getD 0 .none) x = false) then ([x], vs)
  else if vs = [] then ([], [])
  else if k = 2 then
    if vs.dropLast = [] then ([vs.getD (vs.length - 1) .none], []) else ([vs.dropLast.getD 0 .none], layAt lt vs.dropLast 0 (vs.getD (vs.length - 1) .none))
  else ([vs.getD 0 .none], layAt lt vs 0 x)
/-- what the heap's side tells, and the heap then -/
def toldR (lt : Value → Value → Bool) (vs : List Value) (k : Nat) (x : Value) : List Value × List Value :=
  if k < 2 then ([.none], hpush lt vs x)
  else if k = 2 then
    if vs = [] then ([], []) else ([(hpop lt vs.dropLast (vs.getD (vs.length - 1) .none)).1], (hpop lt vs.dropLast (vs.getD (vs.length - 1) .none)).2)
  else if k = 3 then ([(hppop lt vs x).1], (hppop lt vs x).2)
  else if vs = [] then ([], []) else ([(hrep lt vs x).1], (hrep lt vs x).2)
theorem dropLast_last {vs : List Value} (h : vs ≠ []) : vs = vs.dropLast ++ [vs.getD (vs.length - 1) .none] := by
  have h0 : 0 < vs.length := List.length_pos_iff.mpr h
  have e := List.dropLast_concat_getLast h
  rw [List.getLast_eq_getElem] at e
  have e2 : vs.getD (vs.length - 1) .none = vs[vs.length - 1] := by simp only [List.getD]; rw [List.getElem?_eq_getElem (by omega)]; rfl
  rw [e2]; exact e.symm
section
variable {lt : Value → Value → Bool} {vs : List Value} {k : Nat} {x : Value}
theorem toldR_push (hk : k < 2) : toldR lt vs k x = ([.none], hpush lt vs x) := by simp [toldR, hk]
theorem toldR_pop0 (hk : k = 2) (hv : vs = []) : toldR lt vs k x = ([], []) := by simp [toldR, hk, hv]
theorem toldR_pop (hk : k = 2) (hv : vs ≠ []) : toldR lt vs k x = ([(hpop lt vs.dropLast (vs.getD (vs.length - 1) .none)).1], (hpop lt vs.dropLast (vs.getD (vs.length - 1) .none)).2) := by simp [toldR, hk, hv]
theorem toldR_pp (hk : k = 3) : toldR lt vs k x = ([(hppop lt vs x).1], (hppop lt vs x).2) := by simp [toldR, hk]
theorem toldR_rep0 (hk : 3 < k) (hv : vs = []) : toldR lt vs k x = ([], []) := by simp [toldR, show ¬ k < 2 by omega, show ¬ k = 2 by omega, show ¬ k = 3 by omega, hv]
theorem toldR_rep (hk : 3 < k) (hv : vs ≠ []) : toldR lt vs k x = ([(hrep lt vs x).1], (hrep lt vs x).2) := by simp [toldR, show ¬ k < 2 by omega, show ¬ k = 2 by omega, show ¬ k = 3 by omega, hv]
theorem dueR_push (hk : k < 2) : dueR lt vs k x = ([.none], layUp lt vs x) := by simp [dueR, hk]
theorem dueR_nil (hk : 2 ≤ k) (h3 : k ≠ 3) (hv : vs = []) : dueR lt vs k x = ([], []) := by simp [dueR, show ¬ k < 2 by omega, h3, hv]
theorem dueR_pass (hk : k = 3) (hv : vs = [] ∨ lt (vs.getD 0 .none) x = false) : dueR lt vs k x = ([x], vs) := by
  rw [dueR, if_neg (by omega), if_pos ⟨hk, hv⟩]
theorem dueR_pop1 (hk : k = 2) (hv : vs ≠ []) (hd : vs.dropLast = []) : dueR lt vs k x = ([vs.getD (vs.length - 1) .none], []) := by
  rw [dueR, if_neg (by omega), if_neg (by omega), if_neg hv, if_pos hk, if_pos hd]
theorem dueR_pop (hk : k = 2) (hv : vs ≠ []) (hd : vs.dropLast ≠ []) : dueR lt vs k x = ([vs.dropLast.getD 0 .none], layAt lt vs.dropLast 0 (vs.getD (vs.length - 1) .none)) := by
  rw [dueR, if_neg (by omega), if_neg (by omega), if_neg hv, if_pos hk, if_neg hd]
theorem dueR_lay (hk : 2 < k) (hv : vs ≠ []) (h3 : k = 3 → lt (vs.getD 0 .none) x = true) : dueR lt vs k x = ([vs.getD 0 .none], layAt lt vs 0 x) := by
  rw [dueR, if_neg (by omega), if_neg ?_, if_neg hv, if_neg (by omega)]
  rintro ⟨e, h | h⟩
  · exact hv h
  · rw [h3 e] at h; cases h
theorem told_due (o : WO lt) (h : HeapAt lt 0 vs) (k : Nat) (x : Value) : dueR lt vs k x = toldR lt vs k x ∧ HeapAt lt 0 (toldR lt vs k x).2 := by
  have h1 : ∀ ws : List Value, HeapAt lt 0 ws → HeapAt lt (0 + 1) ws := fun ws h i a b c => h i a b (by omega)
  have h0 : HeapAt lt 0 [] := fun i _ hi => by simp at hi
  by_cases hk : k < 2
  · rw [toldR_push hk, dueR_push hk, ← hpush_layUp o h]
    exact ⟨rfl, hpush_heap o h⟩
  by_cases h2 : k = 2
  · by_cases hv : vs = []
    · rw [toldR_pop0 h2 hv, dueR_nil (by omega) (by omega) hv]
      exact ⟨rfl, h0⟩
    · have e := dropLast_last hv
      rw [toldR_pop h2 hv]
      refine ⟨?_, ?_⟩
      · by_cases hd : vs.dropLast = []
        · rw [dueR_pop1 h2 hv hd, hpop, if_pos hd]
        · have hh : HeapAt lt 0 vs.dropLast := by rw [e] at h; exact heap_append h
          rw [dueR_pop h2 hv hd, hpop, if_neg hd, sup_layAt o (List.length_pos_iff.mpr hd) (h1 _ hh)]
      · refine hpop_heap o ?_
        rw [← e]; exact h
  by_cases h3 : k = 3
  · rw [toldR_pp h3]
    refine ⟨?_, hppop_heap o h⟩
    rw [hppop]
    by_cases hc : vs ≠ [] ∧ lt (vs.getD 0 .none) x = true
    · rw [dueR_lay (by omega) hc.1 (fun _ => hc.2), if_pos hc, sup_layAt o (List.length_pos_iff.mpr hc.1) (h1 _ h)]
    · rw [if_neg hc, dueR_pass h3]
      by_cases hv : vs = []
      · exact .inl hv
      · refine .inr ?_
        cases h6 : lt (vs.getD 0 .none) x with
        | false => rfl
        | true => exact absurd ⟨hv, h6⟩ hc
  by_cases hv : vs = []
  · rw [toldR_rep0 (by omega) hv, dueR_nil (by omega) h3 hv]
    exact ⟨rfl, h0⟩
  · rw [toldR_rep (by omega) hv, dueR_lay (by omega) hv (fun e => absurd e h3), hrep, sup_layAt o (List.length_pos_iff.mpr hv) (h1 _ h)]
    refine ⟨rfl, ?_⟩
    rw [← sup_layAt o (List.length_pos_iff.mpr hv) (h1 _ h)]
    exact sup_heap o (by rw [List.length_set]; exact List.length_pos_iff.mpr hv) (heap_set0 h)
end
section
variable {prog : Program} {w : World} {A : Around} {h₀ : Heap} {L : Addr} {m : Str → Option Value} {env : Env} {ct elt : Expr} {x : Str} {scope : Scope} {cl : List (Str × Addr)} {s : Shared} {S : List (Addr × Obj) → Prop} {P : Nat → Value → Prop} {Fin : List Value → List (Addr × Obj) → Prop}
/-- a comprehension with a test, by an invariant -/
theorem comp_restT {n : Nat} {news₀ : List (Addr × Obj)} (J : Nat → List Value → List (Addr × Obj) → Prop) (hJ : J 0 [] news₀)
    (turn : ∀ i v I oI C oC D m₂ ys news h tk (E' : Value → Shared → Prop), i < n → P i v → J i ys news → LCg.NsObj oC m₂ → m₂ x = some v → Fr h₀ L h m → News h₀ L h ((I, oI) :: (C, oC) :: (D, LCg.lst ys) :: news) → LCg.Off3 I C D news → ((@Ne Nat I C) ∧ (@Ne Nat I D) ∧ (@Ne Nat C D)) →
      wpAny (model prog w) A (PySem.isTrue ct (compEnvC scope cl C env) (eval ct (compEnvC scope cl C env))) (fun ok s' => if ok = true then
        wpAny (model prog w) A (eval elt (compEnvC scope cl C env)) (LCg.CompEnd h₀ L m { s with heap := h, toks := tk } I oI C oC D (LCg.lst ys) S (fun y news' => J (i + 1) (ys ++ [y]) news')) E' s'
        else LCg.CompEnd h₀ L m { s with heap := h, toks := tk } I oI C oC D (LCg.lst ys) S (fun _ news' => J (i + 1) ys news') Value.none s') E' { s with heap := h, toks := tk })
    (fin : ∀ ys news, J n ys news → Fin ys news) : LCt.CompRestT prog w A h₀ L m env ct elt x scope cl s S P Fin n 0 [] news₀ := by
  have key : ∀ (j i : Nat) (ys : List Value) (news : List (Addr × Obj)), i + j = n → J i ys news → LCt.CompRestT prog w A h₀ L m env ct elt x scope cl s S P Fin j i ys news := by
    intro j
    induction j with
    | zero =>
      intro i ys news hi hj
      obtain rfl : i = n := by omega
      exact LCt.CompRestT.zero (fin ys news hj)
    | succ j ih =>
      intro i ys news hi hj
      refine LCt.CompRestT.succ ?_
      intro v I oI C oC D m₂ h tk E' hv hC hx F N off ne
      refine wpAny_mono (turn i v I oI C oC D m₂ ys news h tk E' (by omega) hv hj hC hx F N off ne) (fun ok s₂ hq => ?_) fun _ _ e => e
      cases ok with
      | true =>
        rw [if_pos rfl] at hq ⊢
        refine wpAny_mono hq (fun y s₃ hq => ?_) fun _ _ e => e
        obtain ⟨h', tk', nw, e, F', N', off', hS, hn⟩ := hq
        exact ⟨h', tk', nw, e, F', N', off', hS, ih (i + 1) _ _ (by omega) hn⟩
      | false =>
        rw [if_neg (by decide)] at hq ⊢
        obtain ⟨h', tk', nw, e, F', N', off', hS, hn⟩ := hq
        exact ⟨h', tk', nw, e, F', N', off', hS, ih (i + 1) _ _ (by omega) hn⟩
  exact key n 0 [] news₀ (by omega) hJ
end
def IsPlain (v : Value) : Prop := v = .none ∨ ∃ a, v = .ref a
theorem isnot_same {M : Model} {A : Around} {E : Value → Shared → Prop} {s : Shared} {Q : Value → Shared → Prop} {v : Value} (hv : IsPlain v) (h : Q (.bool false) s) : wpAny M A (compareOp .IsNot v v) Q E s := by
  rcases hv with rfl | ⟨a, rfl⟩
  · exact isnot_none_none h
  · exact isnot_ref_same h
section
variable {prog : Program} {w : World} {A A₀ : Around} {s : Shared} {base h₀ : Heap} {outer : List Env} {env : Env} {L : Addr} {m : Str → Option Value} {own rest : List (Addr × Obj)} {K : Frag}
  {p : Program} {loose : List Str} {mean : ExcName → Option Value} {mg mb : Str → Option Value} {d : Nat} {Q : Value → Shared → Prop} {E : Value → Shared → Prop}
  {name qual : Str} {params : Arguments} {body : List Stmt} {scope : Scope} {dV kV doc pm cdv ct oc : Value} {an od : Option Addr} {osl : Array (Option Value)} {f : Addr} {args : List Value} {kw : List (Str × Value)} {binds : List (Str × Value)}

/-- call_at, for a callee that raises: its ground, and what lies below -/
theorem call_atB (C : At K p loose mean mg mb A h₀ L (d + 1)) (B : Below A₀ base outer h₀) (hA : A.frames = some (env :: outer)) (hf : env.frame = some L) (hke : env.scope.kind = .function) (F : Fr h₀ L s.heap m) (N : News h₀ L s.heap (own ++ rest)) (hsep : ∀ p ∈ own, ∀ q ∈ rest, p.1 ≠ q.1)
    (ho : K.lookup f = some ⟨oc, od, .func (fnOf name qual params body scope dV kV doc pm an cdv ct), osl⟩) (hcd : codeIn K cdv qual = true)
    (hbind : BindsTo s (fnOf name qual params body scope dV kV doc pm an cdv ct) ⟨args, kw⟩ binds) (hloc : ∀ y ∈ binds, scope.names.lookup y.1 = some .local)
    (h : ∀ g L' h₁, At K p loose mean mg mb (A.deeper (envOf qual scope L' f cdv)) g L' d → Fr h₀ L g m → Below A base (env :: outer) g → Fr g L' h₁ (fun y => binds.reverse.lookup y) → News g L' h₁ own → (∀ q ∈ rest, g.get? q.1 = some q.2) → h₀.StaysIn g →
      wpAny (model prog w) (A.deeper (envOf qual scope L' f cdv)) (execs body (envOf qual scope L' f cdv))
        (fun fl s' => LeaveF h₀ L m g rest (fun r s' => match r with | .ok (.ret v) => Q v s' | .ok _ => False | .error e => E e s') (match fl with | .ret v => v | _ => .none) s')
        (fun e s' => wpAny (model prog w) (A.deeper (envOf qual scope L' f cdv)) (leaving (envOf qual scope L' f cdv) e) (fun _ s'' => E e s'') (fun e' s'' => E e' s'') s')
        { s with heap := h₁, toks := s.toks + binds.length })
    (hco : scope.isCoroutine = false) (hgen : scope.isGenerator = false) (hk : scope.kind = .function)
    (hcell : ∀ x ∈ scope.names, x.2 ≠ .cell) : wpAny (model prog w) A (call (.ref f) args kw) Q E s := by
  obtain ⟨_, X, T, hd, hu, hh⟩ := C
  have N' : News h₀ L s.heap own := fun q hq => N q (List.mem_append_left _ hq)
  refine wpAny_call ?_
  obtain ⟨FG, BG, st, lv⟩ := groundX (R := fun r s' => match r with | .ok (.ret v) => Q v s' | .ok _ => False | .error e => E e s') B F N' hA hf hke
  have hrest : ∀ q ∈ rest, (hideAll s.heap (own.map (·.1))).get? q.1 = some q.2 := fun q hq =>
    hideAll_get _ (N q (List.mem_append_right _ hq)).1 fun hm => by
      obtain ⟨p, hp, e⟩ := List.mem_map.mp hm
      exact hsep p hp q hq e
  refine codeAny_call_def (fd := fnOf name qual params body scope dV kV doc pm an cdv ct) (body := body) (binds := binds) (by omega) ((X.keeps F.keep) _ _ ho) rfl (T.nolimit.keeps F.keep) (codeRec_of (X.keeps F.keep) hcd) rfl hbind hcell hloc (fun h₁ hns hk₁ => ?_) hco hgen hk
  refine wpAny_mono (h (hideAll s.heap (own.map (·.1))) s.heap.objs.size h₁ ?_ FG BG ⟨hns, fun b o e => hk₁ b o (of_hideAll _ e), Nat.le_of_eq (hideAll_size _ _)⟩
    (fun p hp => ⟨hk₁ _ _ (N' p hp).1, Nat.ne_of_lt (Heap.lt_size (N' p hp).1), hideAll_none _ (List.mem_map_of_mem hp)⟩) hrest st) (fun fl s' hl => ?_) fun _ _ y => y
  · refine ⟨⟨A, base, env :: outer, envOf qual scope s.heap.objs.size f cdv, BG, ?_, rfl, hk⟩, X.keeps st, T.keeps st, ?_, ?_, hh⟩
    · show Option.map _ A.frames = _
      rw [hA]; rfl
    · show A.depth + 1 + d < _
      omega
    · show A.units + 3 + 16 * d + 16 < _
      omega
  · obtain ⟨L', m', own', F', N'', k⟩ := hl
    refine lv _ _ ⟨L', m', own', F', N'', fun kF kN => k kF (fun q hq => ?_) fun q hq r hr e => ?_⟩
    · rcases List.mem_append.mp hq with hq | hq
      · exact kN q hq
      · exact ⟨F'.keep _ _ (hrest q hq), (N q (List.mem_append_right _ hq)).2⟩
    · have h1 := (N'' q hq).2.2
      rw [e, hrest r hr] at h1
      cases h1

/-- the end of a def with a try, called from a frame with none below -/
def LeaveT (fs : List Addr) (h₀ : Heap) (L : Addr) (m : Str → Option Value) (g : Heap) (rest : List (Addr × Obj)) (R : Result → Shared → Prop) (v : Value) (s' : Shared) : Prop :=
  ∃ g' L' m' own', KtsTurn fs g g' ∧ Fr g' L' s'.heap m' ∧ News g' L' s'.heap own' ∧
    (Fr h₀ L s'.heap m → News h₀ L s'.heap (own' ++ rest) → (∀ p ∈ own', ∀ q ∈ rest, p.1 ≠ q.1) → R (.ok (.ret v)) s')

theorem call_atT (C : At K p loose mean mg mb A h₀ L (d + 1)) (B : Below A₀ base [] h₀) (hA : A.frames = some [env]) (hf : env.frame = some L) (hke : env.scope.kind = .function) (F : Fr h₀ L s.heap m) (N : News h₀ L s.heap (own ++ rest)) (hsep : ∀ p ∈ own, ∀ q ∈ rest, p.1 ≠ q.1)
    (ho : K.lookup f = some ⟨oc, od, .func (fnOf name qual params body scope dV kV doc pm an cdv ct), osl⟩) (hcd : codeIn K cdv qual = true)
    (hbind : BindsTo s (fnOf name qual params body scope dV kV doc pm an cdv ct) ⟨args, kw⟩ binds) (hloc : ∀ y ∈ binds, scope.names.lookup y.1 = some .local)
    (h : ∀ g L' h₁, At K p loose mean mg mb (A.deeper (envOf qual scope L' f cdv)) g L' d → Below A base [env] g → KtsDicts ([env].filterMap (·.frame)) g → Fr g L' h₁ (fun y => binds.reverse.lookup y) → News g L' h₁ own → (∀ q ∈ rest, g.get? q.1 = some q.2) → h₀.StaysIn g →
      wpAny (model prog w) (A.deeper (envOf qual scope L' f cdv)) (execs body (envOf qual scope L' f cdv))
        (fun fl s' => LeaveT ([env].filterMap (·.frame)) h₀ L m g rest (fun r s' => match r with | .ok (.ret v) => Q v s' | .ok _ => False | .error e => E e s') (match fl with | .ret v => v | _ => .none) s')
        (fun e s' => wpAny (model prog w) (A.deeper (envOf qual scope L' f cdv)) (leaving (envOf qual scope L' f cdv) e) (fun _ s'' => E e s'') (fun e' s'' => E e' s'') s')
        { s with heap := h₁, toks := s.toks + binds.length })
    (hco : scope.isCoroutine = false) (hgen : scope.isGenerator = false) (hk : scope.kind = .function)
    (hcell : ∀ x ∈ scope.names, x.2 ≠ .cell) : wpAny (model prog w) A (call (.ref f) args kw) Q E s := by
  obtain ⟨_, X, T, hd, hu, hh⟩ := C
  have N' : News h₀ L s.heap own := fun q hq => N q (List.mem_append_left _ hq)
  have hfs : [env].filterMap (·.frame) = [L] := by simp [hf]
  refine wpAny_call ?_
  obtain ⟨FG, BG, st, lv⟩ := groundX (R := fun r s' => match r with | .ok (.ret v) => Q v s' | .ok _ => False | .error e => E e s') B F N' hA hf hke
  have hrest : ∀ q ∈ rest, (hideAll s.heap (own.map (·.1))).get? q.1 = some q.2 := fun q hq =>
    hideAll_get _ (N q (List.mem_append_right _ hq)).1 fun hm => by
      obtain ⟨p, hp, e⟩ := List.mem_map.mp hm
      exact hsep p hp q hq e
  obtain ⟨oL, es, ep, hLg, hLd, hLk, hLf⟩ := id FG.ns
  refine codeAny_call_def (fd := fnOf name qual params body scope dV kV doc pm an cdv ct) (body := body) (binds := binds) (by omega) ((X.keeps F.keep) _ _ ho) rfl (T.nolimit.keeps F.keep) (codeRec_of (X.keeps F.keep) hcd) rfl hbind hcell hloc (fun h₁ hns hk₁ => ?_) hco hgen hk
  refine wpAny_mono (h (hideAll s.heap (own.map (·.1))) s.heap.objs.size h₁ ?_ BG (fun b hb => ?_) ⟨hns, fun b o e => hk₁ b o (of_hideAll _ e), Nat.le_of_eq (hideAll_size _ _)⟩
    (fun p hp => ⟨hk₁ _ _ (N' p hp).1, Nat.ne_of_lt (Heap.lt_size (N' p hp).1), hideAll_none _ (List.mem_map_of_mem hp)⟩) hrest st) (fun fl s' hl => ?_) fun _ _ y => y
  · refine ⟨⟨A, base, [env], envOf qual scope s.heap.objs.size f cdv, BG, ?_, rfl, hk⟩, X.keeps st, T.keeps st, ?_, ?_, hh⟩
    · show Option.map _ A.frames = _
      rw [hA]; rfl
    · show A.depth + 1 + d < _
      omega
    · show A.units + 3 + 16 * d + 16 < _
      omega
  · rw [hfs] at hb
    obtain rfl := List.mem_singleton.mp hb
    exact ⟨oL, es, ep, hLg, hLd⟩
  · obtain ⟨g', L', m', own', T', F', N'', k⟩ := hl
    rw [hfs] at T'
    have nL₀ : h₀.get? L = none := kts_self F
    obtain ⟨sl, hs⟩ := T'.up hLg
    have hrest' : ∀ q ∈ rest, g'.get? q.1 = some q.2 := fun q hq => T'.other _ _ (hrest q hq) (fun hm => (N q (List.mem_append_right _ hq)).2.1 (List.mem_singleton.mp hm))
    refine k ⟨⟨_, es, ep, F'.keep _ _ hs, hLd, hLk, hLf⟩, fun b o e => F'.keep b o (T'.other b o (st b o e) (fun q => ?_)), F.above⟩ (fun q hq => ?_) fun q hq r hr e => ?_
    · rw [List.mem_singleton.mp q, nL₀] at e; cases e
    · rcases List.mem_append.mp hq with hq | hq
      · refine ⟨(N'' q hq).1, fun z => ?_, ?_⟩
        · have := (N'' q hq).2.2; rw [z, hs] at this; cases this
        · cases z : h₀.get? q.1 with
          | none => rfl
          | some o =>
            obtain ⟨sl', hs'⟩ := T'.up (st _ _ z)
            have := (N'' q hq).2.2
            rw [hs'] at this
            cases this
      · exact ⟨F'.keep _ _ (hrest' q hq), (N q (List.mem_append_right _ hq)).2⟩
    · have h1 := (N'' q hq).2.2
      rw [e, hrest' r hr] at h1
      cases h1
end
/-- list.pop of nothing -/
theorem pop_empty {prog : Program} {w : World} {A : Around} {E : Value → Shared → Prop} {s : Shared} {Q : Value → Shared → Prop} {a : Addr} {n : Nat} (hh : A.handled = none) (ha : s.heap.get? a = some (listOf ([] : List Value).toArray n))
    (hE : ∀ h' tk e, Heap.NewExc s.heap h' e "IndexError" → E (.ref e) { s with heap := h', toks := tk }) : wpAny (model prog w) A (call (.builtin "list.pop") [.ref a]) Q E s := by
  refine call_meets PySem.F.slot_list_pop ⟨_, ha, rfl⟩ PySem.F.entry_list_pop (PySem.F.args_list_pop_1 _) (PySem.AutoListH.list_pop_list_0 a #[] n rfl) ⟨ha, hh, fun h' tk e hx => hE h' tk e hx⟩
local macro_rules | `(tactic| walk_at "exec While") => `(tactic| refine Stop.mk ?_)
local macro_rules | `(tactic| walk_at "exec While Compare") => `(tactic| refine Stop.mk ?_)
local macro_rules | `(tactic| walk_at "call ref") => `(tactic| refine Stop.mk ?_)
local macro_rules | `(tactic| walk_at "compareOp Lt") => `(tactic| refine Stop.mk ?_)
local macro_rules | `(tactic| walk_at "binaryOp RShift int int") => `(tactic| (with_reducible refine shr_half ?_ ?_; (case refine_1 => omega)))
local macro_rules | `(tactic| walk_at "call builtin:len") => `(tactic| (k_here; (with_reducible show wpAny _ _ (call (Value.builtin _) [Value.ref _]) _ _ _); k_dflt (refine' len_gen ?k1 ?k2 ?k3 ?_; (case k1 => k_asm); (case k2 => k_mem); (case k3 => ((try simp only [List.length_set, List.length_append, List.length_cons, List.length_nil]); omega)); k_whole)))
local macro_rules | `(tactic| walk_at "subscriptTail") => `(tactic| (k_here; (with_reducible show wpAny _ _ (subscriptTail _ _ (Value.ref _) (Value.int _ _)) _ _ _); k_dflt (refine' item_gen ?k1 ?k2 ?k3 ?k4 ?k5 ?_ ?k6 ?k7; (case k1 => k_asm); (case k2 => k_mem); (case k3 => omega); (case k4 => ((try simp only [List.length_set, List.length_append, List.length_cons, List.length_nil]); omega)); (case k5 => ((try simp only [List.length_set, List.length_append, List.length_cons, List.length_nil]); omega)); (case k6 => with_unfolding_all rfl); (case k7 => (intro _; with_unfolding_all rfl)); k_whole); (try simp only [Int.toNat_natCast, toNat_succ, toNat_oa, toNat_oas])))
local macro_rules | `(tactic| walk_at "setItem") => `(tactic| (k_here; (with_reducible show wpAny _ _ (setItem (Value.ref _) (Value.int _ _) _) _ _ _); k_dflt (refine' set_gen ?k1 ?k2 ?k3 ?k4 ?k5 ?k6 ?_; (case k1 => k_asm); (case k2 => k_asm); (case k3 => k_upd); (case k4 => omega); (case k5 => ((try simp only [List.length_set, List.length_append, List.length_cons, List.length_nil]); omega)); (case k6 => ((try simp only [List.length_set, List.length_append, List.length_cons, List.length_nil]); omega)); k_whole); intro h' F' N'; (try simp only [Int.toNat_natCast, toNat_succ, toNat_oa, toNat_oas] at N'); (try k_sweep)))
local macro_rules | `(tactic| walk_at "call builtin:list.append") => `(tactic| (k_here; (with_reducible show wpAny _ _ (call (Value.builtin _) [Value.ref _, _]) _ _ _); k_dflt (refine' append_gen ?k1 ?k2 ?k3 ?k4 ?_; (case k1 => k_asm); (case k2 => k_asm); (case k3 => k_upd); (case k4 => ((try simp only [List.length_set, List.length_append, List.length_cons, List.length_nil]); omega)); k_whole); intro h' F' N'; (try k_sweep)))
local macro_rules | `(tactic| walk_at "truthy ref") => `(tactic| (k_here; (with_reducible show wpAny _ _ (truthy (Value.ref _)) _ _ _); k_dflt (refine' truthy_gen ?k1 ?k2 ?k3 ?_; (case k1 => k_asm); (case k2 => k_mem); (case k3 => ((try simp only [List.length_set, List.length_append, List.length_cons, List.length_nil]); omega)); k_whole)))
local macro_rules | `(tactic| walk_at "call builtin:list.pop") => `(tactic| (k_here; (with_reducible show wpAny _ _ (call (Value.builtin _) [Value.ref _]) _ _ _); refine Stop.mk ?_))
local macro_rules | `(tactic| walk_at "binaryOp FloorDiv int int") => `(tactic| first | (with_reducible refine half_int ?_) | (with_reducible refine half1_int ?_) | (with_reducible refine sub1_half ?_ ?_; (case refine_1 => omega)))
local macro_rules | `(tactic| walk_at "call builtin:list.insert") => `(tactic| (k_here; (with_reducible show wpAny _ _ (call (Value.builtin _) [Value.ref _, Value.int _ _, _]) _ _ _); k_dflt (refine' insert_gen ?k1 ?k2 ?k3 ?k4 ?k5 ?k6 ?_; (case k1 => k_asm); (case k2 => k_asm); (case k5 => k_upd); (case k3 => omega); (case k4 => omega); (case k6 => omega); k_whole); intro h' F' N'; (try simp only [Int.toNat_natCast, toNat_succ, toNat_oa, toNat_oas] at N'); (try k_sweep)))
local macro_rules | `(tactic| k_all) => `(tactic| assumption)
local macro_rules | `(tactic| walk_at "exec For") => `(tactic| refine Stop.mk ?_)
local macro_rules | `(tactic| walk_at "exec For Name Name cons nil") => `(tactic| refine Stop.mk ?_)
local macro_rules | `(tactic| walk_at "exec For Name Call cons nil") => `(tactic| refine Stop.mk ?_)
local macro_rules | `(tactic| walk_at "pyIter ref") => `(tactic| refine Stop.mk ?_)
local macro_rules | `(tactic| walk_at "compareOp NotEq ref ref") => `(tactic| (k_here; (with_reducible show wpAny _ _ (compareOp CmpOp.NotEq (Value.ref _) (Value.ref _)) _ _ _); (refine' ne_intsK ?k1 ?k2 ?k3 ?k4 ?k5 ?_; (case k1 => first | is_list | exact News.isList (by k_asm) (by k_mem)); (case k2 => first | assumption | exact IntsAre.nil); (case k3 => first | is_list | exact News.isList (by k_asm) (by k_mem)); (case k4 => first | assumption | exact IntsAre.nil); (case k5 => first | omega | units_room); k_whole)))
local macro_rules | `(tactic| walk_at "exec Assign cons ListComp") => `(tactic| refine Stop.mk ?_)
local macro_rules | `(tactic| walk_at "eval ListComp") => `(tactic| refine Stop.mk ?_)
local macro_rules | `(tactic| walk_at "CompSrc") => `(tactic| refine Stop.mk ?_)
local macro_rules | `(tactic| walk_at "subscriptTail Call Name cons nil Slice ref ref") => `(tactic| refine Stop.mk ?_)
local macro_rules | `(tactic| walk_at "call builtin:list.extend") => `(tactic| refine Stop.mk ?_)
local macro_rules | `(tactic| walk_at "compareOp Eq ref ref") => `(tactic| (k_here; (with_reducible show wpAny _ _ (compareOp CmpOp.Eq (Value.ref _) (Value.ref _)) _ _ _); (refine' eq_intsK ?k1 ?k2 ?k3 ?k4 ?k5 ?_; (case k1 => first | is_list | exact News.isList (by k_asm) (by k_mem)); (case k2 => first | assumption | exact IntsAre.nil); (case k3 => first | is_list | exact News.isList (by k_asm) (by k_mem)); (case k4 => first | assumption | exact IntsAre.nil); (case k5 => first | omega | units_room); k_whole)))
theorem siftdown_spec {prog : Program} {w : World} {A : Around} {s : Shared} {h₀ : Heap} {L : Addr} {m : Str → Option Value} {rest : List (Addr × Obj)}
    {p : Program} {loose : List Str} {mean : ExcName → Option Value} {mg mb : Str → Option Value} {d : Nat} {Q : Value → Shared → Prop} {E : Value → Shared → Prop}
    {S : Value → Prop} {lt : Value → Value → Bool} {a : Addr} {vs : List Value} {n : Nat} {start pos : Nat} {ist ips : Int} {t1 t2 : Tok} (hst : ist = start) (hps : ips = pos)
    (C : At (hd09.heap_39 w.params) p loose mean mg mb A h₀ L (d + 1)) (F : Fr h₀ L s.heap m) (N : News h₀ L s.heap ((a, listOf vs.toArray n) :: rest)) (hsep : ∀ q ∈ rest, q.1 ≠ a)
    (hpos : pos < vs.length) (hlen : vs.length < 1000) (hS : ∀ v ∈ vs, S v) (hcmp : ∀ g : Heap, (∀ q ∈ rest, g.get? q.1 = some q.2) → h₀.StaysIn g → Cmp prog w g S lt)
    (hQ : ∀ h' tk, Fr h₀ L h' m → News h₀ L h' ((a, listOf (sd lt start (vs.getD pos .none) pos vs).toArray n) :: rest) → Q .none { s with heap := h', toks := tk }) :
    wpAny (model prog w) A (call (.ref 56) [.ref a, .int ist t1, .int ips t2]) Q E s := by
  subst hst hps
  w_top off
  refine' call_at (own := [(a, listOf vs.toArray n)]) (rest := rest) (binds := [(Str.ofString "heap", .ref a), (Str.ofString "startpos", .int start t1), (Str.ofString "pos", .int pos t2)]) C F N (fun p hp q hq e => ?hs) ?ho ?hcd ?hb ?hl ?_ ?h1 ?h2 ?h3 ?h4
  case ho => k_is
  case hcd => k_is
  case hb => exact BindsTo.of_eq rfl
  case hl => exact locs rfl
  case h1 => rfl
  case h2 => rfl
  case h3 => rfl
  case h4 => decide
  case hs =>
    obtain rfl := List.mem_singleton.mp hp
    exact hsep q hq e.symm
  intro g L' h₁ C' F' N' hr hst
  have hc := hcmp g hr hst
  have hx : S (vs.getD pos .none) := hS _ (getD_mem hpos)
  clear hcmp hsep F N hr hst
  obtain ⟨⟨A₀, base, outer, env, B', hA', hf', hk'⟩, X', T', hd', hu', hh'⟩ := C'
  repeat' (first | walk1 | (dsimp only; walk1))
  unfold Stop
  refine While_inv2 (fun n₁ m₁ news₁ => ∃ (p : Nat) (ws : List Value) (tp : Tok) (u : Str → Option Value),
      m₁ = kstB u [(Str.ofString "heap", .ref a), (Str.ofString "startpos", .int start t1), (Str.ofString "newitem", vs.getD pos .none), (Str.ofString "pos", .int p tp)] ∧
      news₁ = [(a, listOf ws.toArray n)] ∧ p < ws.length ∧ ws.length < 1000 ∧ (∀ v ∈ ws, S v) ∧ sd lt start (vs.getD pos .none) p ws = sd lt start (vs.getD pos .none) pos vs ∧ n₁ = p) (n₀ := pos) (by assumption) (by assumption) ?_ ?_
  · exact ⟨pos, vs, t2, _, kst_self (by kst_all), rfl, hpos, hlen, hS, rfl, rfl⟩
  · rintro n₁ m₁ news₁ h₂ tk₁ F₂ N₂ ⟨p, ws, tp, u, rfl, rfl, hp, hlen', hS', htgt, rfl⟩
    dsimp only [kstB] at F₂
    rw [sd] at htgt
    generalize vs.getD pos .none = x at *
    repeat' (first | walk1 | (dsimp only; walk1))
    · -- the test holds
      rename_i hlt _ _ _
      rw [dif_pos (by omega)] at htgt
      refine hc _ _ hx (hS' _ (getD_mem (by omega))) _ _ _ _ (by omega) (Fr.keep (by assumption)) ?_
      intro tk₂
      repeat' (first | walk1 | (dsimp only; walk1))
      · rename_i hl _ _ _ _
        rw [if_pos hl] at htgt
        dsimp only
        exact ⟨_, _, _, _, _, rfl, by assumption, by assumption, by omega, _, _, _, _, kst_self (by kst_all), rfl, by simp only [List.length_set]; omega, by simp only [List.length_set]; omega, all_set hS' (hS' _ (getD_mem (by omega))), htgt, rfl⟩
      · rename_i hl
        rw [if_neg (by rw [hl]; decide)] at htgt
        dsimp only [WhileStep2]
        repeat' (first | walk1 | (dsimp only; walk1))
        refine ⟨_, _, _, by assumption, by assumption, fun kF kN _ => ?_⟩
        rw [htgt] at kN
        exact hQ _ _ kF kN
    · rename_i hlt _ _ _
      rw [dif_neg (by omega)] at htgt
      refine ⟨_, _, _, by assumption, by assumption, fun kF kN _ => ?_⟩
      rw [htgt] at kN
      exact hQ _ _ kF kN

theorem siftup_spec {prog : Program} {w : World} {A : Around} {s : Shared} {h₀ : Heap} {L : Addr} {m : Str → Option Value} {rest : List (Addr × Obj)}
    {p : Program} {loose : List Str} {mean : ExcName → Option Value} {mg mb : Str → Option Value} {d : Nat} {Q : Value → Shared → Prop} {E : Value → Shared → Prop}
    {S : Value → Prop} {lt : Value → Value → Bool} {a : Addr} {vs : List Value} {n : Nat} {pos : Nat} {ips : Int} {t2 : Tok} (hps : ips = pos)
    (C : At (hd09.heap_39 w.params) p loose mean mg mb A h₀ L (d + 2)) (F : Fr h₀ L s.heap m) (N : News h₀ L s.heap ((a, listOf vs.toArray n) :: rest)) (hsep : ∀ q ∈ rest, q.1 ≠ a)
    (hpos : pos < vs.length) (hlen : vs.length < 1000) (hS : ∀ v ∈ vs, S v) (hcmp : ∀ g : Heap, (∀ q ∈ rest, g.get? q.1 = some q.2) → h₀.StaysIn g → Cmp prog w g S lt)
    (hQ : ∀ h' tk, Fr h₀ L h' m → News h₀ L h' ((a, listOf (sup lt pos vs).toArray n) :: rest) → Q .none { s with heap := h', toks := tk }) :
    wpAny (model prog w) A (call (.ref 63) [.ref a, .int ips t2]) Q E s := by
  subst hps
  w_top off
  refine' call_at (own := [(a, listOf vs.toArray n)]) (rest := rest) (binds := [(Str.ofString "heap", .ref a), (Str.ofString "pos", .int pos t2)]) C F N (fun p hp q hq e => ?hs) ?ho ?hcd ?hb ?hl ?_ ?h1 ?h2 ?h3 ?h4
  case ho => k_is
  case hcd => k_is
  case hb => exact BindsTo.of_eq rfl
  case hl => exact locs rfl
  case h1 => rfl
  case h2 => rfl
  case h3 => rfl
  case h4 => decide
  case hs =>
    obtain rfl := List.mem_singleton.mp hp
    exact hsep q hq e.symm
  intro g L' h₁ C' F' N' hr hst
  have hc := hcmp g hr hst
  have hx : S (vs.getD pos .none) := hS _ (getD_mem hpos)
  clear hcmp hsep F N hr hst
  have C1 := C'
  obtain ⟨⟨A₀, base, outer, env, B', hA', hf', hk'⟩, X', T', hd', hu', hh'⟩ := C1
  repeat' (first | walk1 | (dsimp only; walk1))
  unfold Stop
  refine While_inv2 (fun n₁ m₁ news₁ => ∃ (p : Nat) (ws : List Value) (tp t3 t4 t5 : Tok) (u : Str → Option Value),
      m₁ = kstB u [(Str.ofString "heap", .ref a), (Str.ofString "startpos", .int pos t3), (Str.ofString "endpos", .int vs.length t4), (Str.ofString "newitem", vs.getD pos .none), (Str.ofString "pos", .int p tp), (Str.ofString "childpos", .int ((2 * p + 1 : Nat) : Int) t5)] ∧
      news₁ = [(a, listOf ws.toArray n)] ∧ p < ws.length ∧ ws.length = vs.length ∧ (∀ v ∈ ws, S v) ∧ su lt p ws = su lt pos vs ∧ n₁ = vs.length - p) (n₀ := vs.length - pos) (by assumption) (by assumption) ?_ ?_
  · exact ⟨pos, vs, _, _, _, _, _, kst_self (by kst_all), rfl, hpos, rfl, hS, rfl, rfl⟩
  · rintro n₁ m₁ news₁ h₂ tk₁ F₂ N₂ ⟨p, ws, tp, t3, t4, t5, u, rfl, rfl, hp, hlen', hS', htgt, rfl⟩
    dsimp only [kstB] at F₂
    rw [su] at htgt
    repeat' (first | walk1 | (dsimp only; walk1))
    · rename_i h1 _ _ _ h2
      rw [dif_pos (by omega)] at htgt
      refine hc _ _ (hS' _ (getD_mem (by omega))) (hS' _ (getD_mem (by omega))) _ _ _ _ (by omega) (Fr.keep (by assumption)) ?_
      intro tk₂
      repeat' (first | walk1 | (dsimp only; walk1))
      · rename lt _ _ = true => h3
        rw [dif_neg (by rw [h3]; simp)] at htgt
        exact ⟨_, _, _, _, _, rfl, by assumption, by assumption, by omega, _, _, _, _, _, _, _, kst_self (by kst_all), rfl, by simp only [List.length_set]; omega, by simp only [List.length_set]; omega, all_set hS' (hS' _ (getD_mem (by omega))), htgt, rfl⟩
      · rename lt _ _ = false => h3
        rw [dif_pos ⟨by omega, h3⟩] at htgt
        exact ⟨_, _, _, _, _, rfl, by assumption, by assumption, by omega, _, _, _, _, _, _, _, kst_self (by kst_all), rfl, by simp only [List.length_set]; omega, by simp only [List.length_set]; omega, all_set hS' (hS' _ (getD_mem (by omega))), htgt, rfl⟩
    · rename_i h1 _ h2 _ _ _ _ _ _ _
      rw [dif_pos (by omega), dif_neg (by omega)] at htgt
      exact ⟨_, _, _, _, _, rfl, by assumption, by assumption, by omega, _, _, _, _, _, _, _, kst_self (by kst_all), rfl, by simp only [List.length_set]; omega, by simp only [List.length_set]; omega, all_set hS' (hS' _ (getD_mem (by omega))), htgt, rfl⟩
    · rename_i h1 _ _ _
      rw [dif_neg (by omega)] at htgt
      refine siftdown_spec (S := S) (lt := lt) (rest := []) rfl rfl C' (by assumption) (by assumption) (fun q hq => nomatch hq) (by simp only [List.length_set]; omega) (by simp only [List.length_set]; omega) (all_set hS' hx) (fun g' _ hs => hc.mono hs) ?_
      intro h' tk kF kN
      repeat' (first | walk1 | (dsimp only; walk1))
      refine ⟨_, _, _, kF, kN, fun kF kN _ => ?_⟩
      have e : (ws.set p (vs.getD pos Value.none)).getD p Value.none = vs.getD pos .none := by
        simp [List.getD, hp]
      rw [e] at kN
      have e2 : sd lt pos (vs.getD pos Value.none) p (ws.set p (vs.getD pos Value.none)) = sup lt pos vs := by
        rw [sup, ← htgt]
      rw [e2] at kN
      exact hQ _ _ kF kN

theorem heapreplace_spec {prog : Program} {w : World} {A : Around} {s : Shared} {h₀ : Heap} {L : Addr} {m : Str → Option Value} {rest : List (Addr × Obj)} {p : Program} {loose : List Str} {mean : ExcName → Option Value} {mg mb : Str → Option Value} {d : Nat} {Q : Value → Shared → Prop} {E : Value → Shared → Prop} {S : Value → Prop} {lt : Value → Value → Bool} {a : Addr} {vs : List Value} {n : Nat} {x : Value}
    (C : At (hd09.heap_39 w.params) p loose mean mg mb A h₀ L (d + 3)) (F : Fr h₀ L s.heap m) (N : News h₀ L s.heap ((a, listOf vs.toArray n) :: rest)) (hsep : ∀ q ∈ rest, q.1 ≠ a)
    (hlen : vs.length < 990) (hne : 0 < vs.length) (hS : ∀ v ∈ vs, S v) (hx : S x) (hcmp : ∀ g : Heap, (∀ q ∈ rest, g.get? q.1 = some q.2) → h₀.StaysIn g → Cmp prog w g S lt)
    (hQ : ∀ h' tk, Fr h₀ L h' m → News h₀ L h' ((a, listOf (hrep lt vs x).2.toArray n) :: rest) → Q (hrep lt vs x).1 { s with heap := h', toks := tk }) :
    wpAny (model prog w) A (call (.ref 35) [.ref a, x]) Q E s := by
  obtain ⟨hnd, dp, fr0, gd0, un0⟩ := A
  obtain rfl : hnd = none := C.hh
  obtain ⟨A₁, base₁, outer₁, env₁, B₁, hA₁, hf₁, hk₁⟩ := C.ex
  obtain rfl : fr0 = _ := hA₁
  w_top off
  refine' call_at (own := [(a, listOf vs.toArray n)]) (rest := rest) (binds := [(Str.ofString "heap", .ref a), (Str.ofString "item", x)]) C F N (fun p hp q hq e => ?hs) ?ho ?hcd ?hb ?hl ?_ ?h1 ?h2 ?h3 ?h4
  case ho => k_is
  case hcd => k_is
  case hb => exact BindsTo.of_eq rfl
  case hl => exact locs rfl
  case h1 => rfl
  case h2 => rfl
  case h3 => rfl
  case h4 => decide
  case hs =>
    obtain rfl := List.mem_singleton.mp hp
    exact hsep q hq e.symm
  intro g L' h₁ C' F' N' hr hst
  have C1 := C'
  obtain ⟨⟨A₀, base, outer, env, B', hA', hf', hk'⟩, X', T', hd', hu', hh'⟩ := C1
  have hc := hcmp g hr hst
  clear hcmp hsep F N hr hst
  repeat' (first | walk1 | (dsimp only; walk1))
  unfold Stop
  refine siftup_spec (S := S) (lt := lt) (rest := []) (pos := 0) rfl C' (by assumption) (by assumption) (fun q hq => nomatch hq) (by simp only [List.length_set]; omega) (by simp only [List.length_set]; omega) (all_set hS hx) (fun g' _ hs => hc.mono hs) ?_
  intro h' tk kF kN
  repeat' (first | walk1 | (dsimp only; walk1))
  dsimp only
  exact ⟨_, _, _, kF, kN, fun kF kN _ => hQ _ _ kF kN⟩

theorem hfyFrom_len {lt : Value → Value → Bool} : ∀ (k : Nat) (vs : List Value), k ≤ vs.length → (hfyFrom lt k vs).length = vs.length
  | 0, _, _ => rfl
  | k + 1, vs, h => by
    rw [hfyFrom]
    have e := (sup_perm (lt := lt) (pos := k) (vs := vs) (by omega)).length_eq
    rw [hfyFrom_len k _ (by omega), e]
theorem heapify_spec {prog : Program} {w : World} {A : Around} {s : Shared} {h₀ : Heap} {L : Addr} {m : Str → Option Value} {rest : List (Addr × Obj)} {p : Program} {loose : List Str} {mean : ExcName → Option Value} {mg mb : Str → Option Value} {d : Nat} {Q : Value → Shared → Prop} {E : Value → Shared → Prop} {S : Value → Prop} {lt : Value → Value → Bool} {a : Addr} {vs : List Value} {n : Nat}
    (C : At (hd09.heap_39 w.params) p loose mean mg mb A h₀ L (d + 3)) (F : Fr h₀ L s.heap m) (N : News h₀ L s.heap ((a, listOf vs.toArray n) :: rest)) (hsep : ∀ q ∈ rest, q.1 ≠ a)
    (hlen : vs.length < 990) (hS : ∀ v ∈ vs, S v) (hcmp : ∀ g : Heap, (∀ q ∈ rest, g.get? q.1 = some q.2) → h₀.StaysIn g → Cmp prog w g S lt)
    (hQ : ∀ h' tk, Fr h₀ L h' m → News h₀ L h' ((a, listOf (hfy lt vs).toArray n) :: rest) → Q .none { s with heap := h', toks := tk }) :
    wpAny (model prog w) A (call (.ref 49) [.ref a]) Q E s := by
  obtain ⟨hnd, dp, fr0, gd0, un0⟩ := A
  obtain rfl : hnd = none := C.hh
  obtain ⟨A₁, base₁, outer₁, env₁, B₁, hA₁, hf₁, hk₁⟩ := C.ex
  obtain rfl : fr0 = _ := hA₁
  w_top off
  refine' call_at (own := [(a, listOf vs.toArray n)]) (rest := rest) (binds := [(Str.ofString "x", .ref a)]) C F N (fun p hp q hq e => ?hs) ?ho ?hcd ?hb ?hl ?_ ?h1 ?h2 ?h3 ?h4
  case ho => k_is
  case hcd => k_is
  case hb => exact BindsTo.of_eq rfl
  case hl => exact locs rfl
  case h1 => rfl
  case h2 => rfl
  case h3 => rfl
  case h4 => decide
  case hs =>
    obtain rfl := List.mem_singleton.mp hp
    exact hsep q hq e.symm
  intro g L' h₁ C' F' N' hr hst
  have C1 := C'
  obtain ⟨⟨A₀, base, outer, env, B', hA', hf', hk'⟩, X', T', hd', hu', hh'⟩ := C1
  have hc := hcmp g hr hst
  clear hcmp hsep F N hr hst
  repeat' (first | walk1 | (dsimp only; walk1))
  unfold Stop
  refine For_invV g rfl rfl ?_
  repeat' (first | walk1 | (dsimp only; walk1))
  rename IsRange _ _ _ _ _ _ _ _ => hR
  rename Fr g L' _ _ => F3
  rename News g L' _ _ => N3
  refine call_reversed_range hR (by omega) ?_
  repeat' (first | walk1 | (dsimp only; walk1))
  unfold Stop
  refine iter_ri_down (vs.length / 2) (kept := []) (news := [(a, listOf vs.toArray n)]) rfl (Heap.get?_push_size _ rfl) (next_is_new F3) (Ne.symm (Nat.ne_of_lt F3.ns.lt)) (F3.push _) (N3.grown fun _ _ e => Heap.get?_push_of_some _ e) (fun _ hp => nomatch hp) (fun q hq => Nat.ne_of_lt (Heap.lt_size (N3 q hq).1))
    (fun i m₁ var => ∃ ws u, m₁ = kstB u [(Str.ofString "x", .ref a)] ∧ var = [(a, listOf ws.toArray n)] ∧ ws.length = vs.length ∧ (∀ v ∈ ws, S v) ∧ hfyFrom lt (vs.length / 2 - i) ws = hfy lt vs) ?_ ?_ ?_
  · exact ⟨_, _, kst_self (by kst_all), rfl, rfl, hS, rfl⟩
  · rintro i t m₁ var h tk own hi ⟨ws, u, rfl, rfl, hwl, hwS, hw⟩ _ hso F₁ N₁
    have hok : ∀ p ∈ own, p.1 ≠ a := fun p hp => hso p hp (a, _) (.head _)
    dsimp only [kstB] at F₁
    simp only [List.cons_append, List.nil_append] at N₁
    change Fr g L' _ _ at F₁
    change News g L' _ _ at N₁
    repeat' (first | walk1 | (dsimp only; walk1))
    unfold Stop
    have hk : vs.length / 2 - i = (vs.length / 2 - (i + 1)) + 1 := by omega
    rw [hk, hfyFrom] at hw
    have hsp := sup_perm (lt := lt) (pos := vs.length / 2 - (i + 1)) (vs := ws) (by omega)
    refine siftup_spec (d := 0) (S := S) (lt := lt) (pos := vs.length / 2 - (i + 1)) (by omega) (C'.less (by omega)) F₁ N₁ hok (by omega) (by omega) hwS (fun g' _ hs => hc.mono hs) ?_
    intro h' tk kF kN
    repeat' (first | walk1 | (dsimp only; walk1))
    exact ⟨_, _, _, [_], rfl, kF, kN, fun p hp q hq => (List.mem_singleton.mp hq) ▸ hok p hp, _, _, kst_self (by kst_all), rfl, by rw [hsp.length_eq]; exact hwl, fun v hv => hwS v (hsp.mem_iff.mp hv), hw⟩
  · rintro m₁ var h tk ⟨ws, u, rfl, rfl, hwl, hwS, hw⟩ _ F₁ N₁
    rw [Nat.sub_self, hfyFrom] at hw
    subst hw
    change Fr g L' _ _ at F₁
    change News g L' _ _ at N₁
    dsimp only
    repeat' (first | walk1 | (dsimp only; walk1))
    exact ⟨_, _, _, F₁, N₁, fun kF kN _ => hQ _ _ kF kN⟩
theorem heappush_spec {prog : Program} {w : World} {A : Around} {s : Shared} {h₀ : Heap} {L : Addr} {m : Str → Option Value} {rest : List (Addr × Obj)} {p : Program} {loose : List Str} {mean : ExcName → Option Value} {mg mb : Str → Option Value} {d : Nat} {Q : Value → Shared → Prop} {E : Value → Shared → Prop} {S : Value → Prop} {lt : Value → Value → Bool} {a : Addr} {vs : List Value} {n : Nat} {x : Value}
    (C : At (hd09.heap_39 w.params) p loose mean mg mb A h₀ L (d + 2)) (F : Fr h₀ L s.heap m) (N : News h₀ L s.heap ((a, listOf vs.toArray n) :: rest)) (hsep : ∀ q ∈ rest, q.1 ≠ a)
    (hlen : vs.length < 990) (hS : ∀ v ∈ vs, S v) (hx : S x) (hcmp : ∀ g : Heap, (∀ q ∈ rest, g.get? q.1 = some q.2) → h₀.StaysIn g → Cmp prog w g S lt)
    (hQ : ∀ h' tk, Fr h₀ L h' m → News h₀ L h' ((a, listOf (hpush lt vs x).toArray (n + 1)) :: rest) → Q .none { s with heap := h', toks := tk }) :
    wpAny (model prog w) A (call (.ref 21) [.ref a, x]) Q E s := by
  obtain ⟨hnd, dp, fr0, gd0, un0⟩ := A
  obtain rfl : hnd = none := C.hh
  obtain ⟨A₁, base₁, outer₁, env₁, B₁, hA₁, hf₁, hk₁⟩ := C.ex
  obtain rfl : fr0 = _ := hA₁
  w_top off
  refine' call_at (own := [(a, listOf vs.toArray n)]) (rest := rest) (binds := [(Str.ofString "heap", .ref a), (Str.ofString "item", x)]) C F N (fun p hp q hq e => ?hs) ?ho ?hcd ?hb ?hl ?_ ?h1 ?h2 ?h3 ?h4
  case ho => k_is
  case hcd => k_is
  case hb => exact BindsTo.of_eq rfl
  case hl => exact locs rfl
  case h1 => rfl
  case h2 => rfl
  case h3 => rfl
  case h4 => decide
  case hs =>
    obtain rfl := List.mem_singleton.mp hp
    exact hsep q hq e.symm
  intro g L' h₁ C' F' N' hr hst
  have C1 := C'
  obtain ⟨⟨A₀, base, outer, env, B', hA', hf', hk'⟩, X', T', hd', hu', hh'⟩ := C1
  have hc := hcmp g hr hst
  clear hcmp hsep F N hr hst
  repeat' (first | walk1 | (dsimp only; walk1))
  unfold Stop
  refine siftdown_spec (S := S) (lt := lt) (rest := []) (start := 0) (pos := vs.length) rfl (by simp) C' (by assumption) (by assumption) (fun q hq => nomatch hq) (by simp) (by simp; omega) (fun v hv => ?_) (fun g' _ hs => hc.mono hs) ?_
  · rcases List.mem_append.mp hv with h | h
    · exact hS v h
    · exact (List.mem_singleton.mp h) ▸ hx
  intro h' tk kF kN
  repeat' (first | walk1 | (dsimp only; walk1))
  have e : (vs ++ [x]).getD vs.length .none = x := by simp [List.getD]
  rw [e] at kN
  exact ⟨_, _, _, kF, kN, fun kF kN _ => hQ _ _ kF kN⟩

theorem heappop_spec {prog : Program} {w : World} {A : Around} {s : Shared} {h₀ : Heap} {L : Addr} {m : Str → Option Value} {rest : List (Addr × Obj)} {p : Program} {loose : List Str} {mean : ExcName → Option Value} {mg mb : Str → Option Value} {d : Nat} {Q : Value → Shared → Prop} {E : Value → Shared → Prop} {S : Value → Prop} {lt : Value → Value → Bool} {a : Addr} {vs : List Value} {n : Nat} {ws : List Value} {y : Value} (hvs : vs = ws ++ [y])
    (C : At (hd09.heap_39 w.params) p loose mean mg mb A h₀ L (d + 3)) (F : Fr h₀ L s.heap m) (N : News h₀ L s.heap ((a, listOf vs.toArray n) :: rest)) (hsep : ∀ q ∈ rest, q.1 ≠ a)
    (hlen : vs.length < 990) (hS : ∀ v ∈ vs, S v) (hcmp : ∀ g : Heap, (∀ q ∈ rest, g.get? q.1 = some q.2) → h₀.StaysIn g → Cmp prog w g S lt)
    (hQ : ∀ h' tk, Fr h₀ L h' m → News h₀ L h' ((a, listOf (hpop lt ws y).2.toArray (n + 1)) :: rest) → Q (hpop lt ws y).1 { s with heap := h', toks := tk }) :
    wpAny (model prog w) A (call (.ref 28) [.ref a]) Q E s := by
  obtain ⟨hnd, dp, fr0, gd0, un0⟩ := A
  obtain rfl : hnd = none := C.hh
  obtain ⟨A₁, base₁, outer₁, env₁, B₁, hA₁, hf₁, hk₁⟩ := C.ex
  obtain rfl : fr0 = _ := hA₁
  w_top off
  refine' call_at (own := [(a, listOf vs.toArray n)]) (rest := rest) (binds := [(Str.ofString "heap", .ref a)]) C F N (fun p hp q hq e => ?hs) ?ho ?hcd ?hb ?hl ?_ ?h1 ?h2 ?h3 ?h4
  case ho => k_is
  case hcd => k_is
  case hb => exact BindsTo.of_eq rfl
  case hl => exact locs rfl
  case h1 => rfl
  case h2 => rfl
  case h3 => rfl
  case h4 => decide
  case hs =>
    obtain rfl := List.mem_singleton.mp hp
    exact hsep q hq e.symm
  intro g L' h₁ C' F' N' hr hst
  have C1 := C'
  obtain ⟨⟨A₀, base, outer, env, B', hA', hf', hk'⟩, X', T', hd', hu', hh'⟩ := C1
  have hc := hcmp g hr hst
  have hy : S y := hS y (by rw [hvs]; simp)
  have hlw : ws.length + 1 = vs.length := by rw [hvs]; simp
  have hSw : ∀ v ∈ ws, S v := fun v hv => hS v (by rw [hvs]; simp [hv])
  clear hcmp hsep F N hr hst
  repeat' (first | walk1 | (dsimp only; walk1))
  unfold Stop
  refine pop_gen (by assumption) (by assumption) hvs (by k_upd) (by omega) ?_
  intro h2 F2 N2
  repeat' (first | walk1 | (dsimp only; walk1))
  · rename ws ≠ [] => hne
    have hl0 : 0 < ws.length := List.length_pos_iff.mpr hne
    repeat' (first | walk1 | (dsimp only; walk1))
    unfold Stop
    refine siftup_spec (S := S) (lt := lt) (rest := []) (pos := 0) rfl C' (by assumption) (by assumption) (fun q hq => nomatch hq) (by simp only [List.length_set]; omega) (by simp only [List.length_set]; omega) (all_set hSw hy) (fun g' _ hs => hc.mono hs) ?_
    intro h' tk kF kN
    repeat' (first | walk1 | (dsimp only; walk1))
    dsimp only
    refine ⟨_, _, _, kF, kN, fun kF kN _ => ?_⟩
    have e : hpop lt ws y = (ws.getD 0 .none, sup lt 0 (ws.set 0 y)) := by rw [hpop, if_neg hne]
    rw [e] at hQ
    exact hQ _ _ kF kN
  · rename ¬ ws ≠ [] => hne
    have hne' : ws = [] := by simpa using hne
    subst hne'
    dsimp only
    exact ⟨_, _, _, by assumption, by assumption, fun kF kN _ => hQ _ _ kF kN⟩

theorem heappushpop_spec {prog : Program} {w : World} {A : Around} {s : Shared} {h₀ : Heap} {L : Addr} {m : Str → Option Value} {rest : List (Addr × Obj)} {p : Program} {loose : List Str} {mean : ExcName → Option Value} {mg mb : Str → Option Value} {d : Nat} {Q : Value → Shared → Prop} {E : Value → Shared → Prop} {S : Value → Prop} {lt : Value → Value → Bool} {a : Addr} {vs : List Value} {n : Nat} {x : Value}
    (C : At (hd09.heap_39 w.params) p loose mean mg mb A h₀ L (d + 3)) (F : Fr h₀ L s.heap m) (N : News h₀ L s.heap ((a, listOf vs.toArray n) :: rest)) (hsep : ∀ q ∈ rest, q.1 ≠ a)
    (hlen : vs.length < 990) (hS : ∀ v ∈ vs, S v) (hx : S x) (hcmp : ∀ g : Heap, (∀ q ∈ rest, g.get? q.1 = some q.2) → h₀.StaysIn g → Cmp prog w g S lt)
    (hQ : ∀ h' tk, Fr h₀ L h' m → News h₀ L h' ((a, listOf (hppop lt vs x).2.toArray n) :: rest) → Q (hppop lt vs x).1 { s with heap := h', toks := tk }) :
    wpAny (model prog w) A (call (.ref 42) [.ref a, x]) Q E s := by
  obtain ⟨hnd, dp, fr0, gd0, un0⟩ := A
  obtain rfl : hnd = none := C.hh
  obtain ⟨A₁, base₁, outer₁, env₁, B₁, hA₁, hf₁, hk₁⟩ := C.ex
  obtain rfl : fr0 = _ := hA₁
  w_top off
  refine' call_at (own := [(a, listOf vs.toArray n)]) (rest := rest) (binds := [(Str.ofString "heap", .ref a), (Str.ofString "item", x)]) C F N (fun p hp q hq e => ?hs) ?ho ?hcd ?hb ?hl ?_ ?h1 ?h2 ?h3 ?h4
  case ho => k_is
  case hcd => k_is
  case hb => exact BindsTo.of_eq rfl
  case hl => exact locs rfl
  case h1 => rfl
  case h2 => rfl
  case h3 => rfl
  case h4 => decide
  case hs =>
    obtain rfl := List.mem_singleton.mp hp
    exact hsep q hq e.symm
  intro g L' h₁ C' F' N' hr hst
  have C1 := C'
  obtain ⟨⟨A₀, base, outer, env, B', hA', hf', hk'⟩, X', T', hd', hu', hh'⟩ := C1
  have hc := hcmp g hr hst
  clear hcmp hsep F N hr hst
  repeat' (first | walk1 | (dsimp only; walk1))
  · rename vs ≠ [] => hne
    have hl0 : 0 < vs.length := List.length_pos_iff.mpr hne
    repeat' (first | walk1 | (dsimp only; walk1))
    unfold Stop
    refine hc _ _ (hS _ (getD_mem hl0)) hx _ _ _ _ (by omega) (Fr.keep (by assumption)) ?_
    intro tk₂
    repeat' (first | walk1 | (dsimp only; walk1))
    · rename lt _ _ = true => h3
      rename News g L' _ _ => N9
      unfold Stop
      refine siftup_spec (S := S) (lt := lt) (vs := vs.set 0 x) (n := n) (rest := []) (pos := 0) rfl C' (by assumption) (cb_drop N9 (fun p hp => .tail _ hp)) (fun q hq => nomatch hq) (by simp only [List.length_set]; omega) (by simp only [List.length_set]; omega) (all_set hS hx) (fun g' _ hs => hc.mono hs) ?_
      intro h' tk kF kN
      repeat' (first | walk1 | (dsimp only; walk1))
      dsimp only
      refine ⟨_, _, _, kF, kN, fun kF kN _ => ?_⟩
      have e : hppop lt vs x = (vs.getD 0 .none, sup lt 0 (vs.set 0 x)) := by rw [hppop, if_pos ⟨hne, h3⟩]
      rw [e] at hQ
      exact hQ _ _ kF kN
    · rename lt _ _ = false => h3
      have e : hppop lt vs x = (x, vs) := by rw [hppop, if_neg]; rintro ⟨_, h4⟩; rw [h3] at h4; cases h4
      rw [e] at hQ
      dsimp only
      exact ⟨_, _, _, by assumption, by assumption, fun kF kN _ => hQ _ _ kF kN⟩
  · rename ¬ vs ≠ [] => hne
    have e : hppop lt vs x = (x, vs) := by rw [hppop, if_neg (fun h => hne h.1)]
    rw [e] at hQ
    dsimp only
    exact ⟨_, _, _, by assumption, by assumption, fun kF kN _ => hQ _ _ kF kN⟩

theorem bisect_right_spec {prog : Program} {w : World} {A : Around} {s : Shared} {h₀ : Heap} {L : Addr} {m : Str → Option Value} {rest : List (Addr × Obj)} {p : Program} {loose : List Str} {mean : ExcName → Option Value} {mg mb : Str → Option Value} {d : Nat} {Q : Value → Shared → Prop} {E : Value → Shared → Prop} {S : Value → Prop} {lt : Value → Value → Bool} {a : Addr} {vs : List Value} {n : Nat} {x : Value} {tl : Tok}
    (C : At (hd09.heap_39 w.params) p loose mean mg mb A h₀ L (d + 1)) (F : Fr h₀ L s.heap m) (N : News h₀ L s.heap ((a, listOf vs.toArray n) :: rest)) (hsep : ∀ q ∈ rest, q.1 ≠ a)
    (hlen : vs.length < 990) (hS : ∀ v ∈ vs, S v) (hx : S x) (hcmp : ∀ g : Heap, (∀ q ∈ rest, g.get? q.1 = some q.2) → h₀.StaysIn g → Cmp prog w g S lt)
    (hQ : ∀ h' tk t, Fr h₀ L h' m → News h₀ L h' ((a, listOf vs.toArray n) :: rest) → Q (.int (bisR lt x vs 0 vs.length : Nat) t) { s with heap := h', toks := tk }) :
    wpAny (model prog w) A (call (.ref 81) [.ref a, x, .int 0 tl, .none]) Q E s := by
  obtain ⟨hnd, dp, fr0, gd0, un0⟩ := A
  obtain rfl : hnd = none := C.hh
  obtain ⟨A₁, base₁, outer₁, env₁, B₁, hA₁, hf₁, hk₁⟩ := C.ex
  obtain rfl : fr0 = _ := hA₁
  w_top off
  refine' call_at (own := [(a, listOf vs.toArray n)]) (rest := rest) (binds := [(Str.ofString "a", .ref a), (Str.ofString "x", x), (Str.ofString "lo", .int 0 tl), (Str.ofString "hi", .none), (Str.ofString "key", .none)]) C F N (fun p hp q hq e => ?hs) ?ho ?hcd ?hb ?hl ?_ ?h1 ?h2 ?h3 ?h4
  case ho => k_is
  case hcd => k_is
  case hb => exact kp_binds (C.X.keeps F.keep) (fun _ => rfl)
  case hl => exact locs rfl
  case h1 => rfl
  case h2 => rfl
  case h3 => rfl
  case h4 => decide
  case hs =>
    obtain rfl := List.mem_singleton.mp hp
    exact hsep q hq e.symm
  intro g L' h₁ C' F' N' hr hst
  have C1 := C'
  obtain ⟨⟨A₀, base, outer, env, B', hA', hf', hk'⟩, X', T', hd', hu', hh'⟩ := C1
  have hc := hcmp g hr hst
  clear hcmp hsep F N hr hst
  repeat' (first | walk1 | (dsimp only; walk1))
  unfold Stop
  refine While_inv2 (fun n₁ m₁ news₁ => ∃ (lo hi : Nat) (t1 t2 : Tok) (u : Str → Option Value),
      m₁ = kstB u [(Str.ofString "a", .ref a), (Str.ofString "x", x), (Str.ofString "lo", .int lo t1), (Str.ofString "hi", .int hi t2)] ∧
      news₁ = [(a, listOf vs.toArray n)] ∧ lo ≤ hi ∧ hi ≤ vs.length ∧ bisR lt x vs lo hi = bisR lt x vs 0 vs.length ∧ n₁ = hi - lo) (n₀ := vs.length - 0) (by assumption) (by assumption) ?_ ?_
  · exact ⟨0, vs.length, _, _, _, kst_self (by kst_all), rfl, by omega, by omega, rfl, rfl⟩
  · rintro n₁ m₁ news₁ h₂ tk₁ F₂ N₂ ⟨lo1, hi1, t1, t2, u, rfl, rfl, hlh, hhi, htgt, rfl⟩
    dsimp only [kstB] at F₂
    rw [bisR] at htgt
    repeat' (first | walk1 | (dsimp only; walk1))
    · rename (lo1 : Int) < (hi1 : Int) => h1
      rw [dif_pos (by omega)] at htgt
      refine hc _ _ hx (hS _ (getD_mem (by omega))) _ _ _ _ (by omega) (Fr.keep (by assumption)) ?_
      intro tk₂
      repeat' (first | walk1 | (dsimp only; walk1))
      · rename lt x _ = true => h3
        rw [if_pos h3] at htgt
        exact ⟨_, _, _, _, _, rfl, by assumption, by assumption, by omega, _, _, _, _, _, kst_self (by kst_all), rfl, by omega, by omega, htgt, rfl⟩
      · rename lt x _ = false => h3
        rw [if_neg (by rw [h3]; decide)] at htgt
        exact ⟨_, _, _, _, _, rfl, by assumption, by assumption, by omega, _, _, _, _, _, kst_self (by kst_all), rfl, by omega, by omega, htgt, rfl⟩
    · rename ¬ (lo1 : Int) < (hi1 : Int) => h1
      rw [dif_neg (by omega)] at htgt
      dsimp only
      rw [htgt]
      exact ⟨_, _, _, by assumption, by assumption, fun kF kN _ => hQ _ _ _ kF kN⟩

theorem insort_right_spec {prog : Program} {w : World} {A : Around} {s : Shared} {h₀ : Heap} {L : Addr} {m : Str → Option Value} {rest : List (Addr × Obj)} {p : Program} {loose : List Str} {mean : ExcName → Option Value} {mg mb : Str → Option Value} {d : Nat} {Q : Value → Shared → Prop} {E : Value → Shared → Prop} {S : Value → Prop} {lt : Value → Value → Bool} {a : Addr} {vs : List Value} {n : Nat} {x : Value}
    (C : At (hd09.heap_39 w.params) p loose mean mg mb A h₀ L (d + 2)) (F : Fr h₀ L s.heap m) (N : News h₀ L s.heap ((a, listOf vs.toArray n) :: rest)) (hsep : ∀ q ∈ rest, q.1 ≠ a)
    (hlen : vs.length < 980) (hS : ∀ v ∈ vs, S v) (hx : S x) (hcmp : ∀ g : Heap, (∀ q ∈ rest, g.get? q.1 = some q.2) → h₀.StaysIn g → Cmp prog w g S lt)
    (hQ : ∀ h' tk, Fr h₀ L h' m → News h₀ L h' ((a, listOf (insR lt vs x).toArray (n + 1)) :: rest) → Q .none { s with heap := h', toks := tk }) :
    wpAny (model prog w) A (call (.ref 72) [.ref a, x]) Q E s := by
  obtain ⟨hnd, dp, fr0, gd0, un0⟩ := A
  obtain rfl : hnd = none := C.hh
  obtain ⟨A₁, base₁, outer₁, env₁, B₁, hA₁, hf₁, hk₁⟩ := C.ex
  obtain rfl : fr0 = _ := hA₁
  w_top off
  refine' call_at (own := [(a, listOf vs.toArray n)]) (rest := rest) (binds := [(Str.ofString "a", .ref a), (Str.ofString "x", x), (Str.ofString "lo", .int 0 259), (Str.ofString "hi", .none), (Str.ofString "key", .none)]) C F N (fun p hp q hq e => ?hs) ?ho ?hcd ?hb ?hl ?_ ?h1 ?h2 ?h3 ?h4
  case ho => k_is
  case hcd => k_is
  case hb => exact kp_binds (C.X.keeps F.keep) (fun _ => rfl)
  case hl => exact locs rfl
  case h1 => rfl
  case h2 => rfl
  case h3 => rfl
  case h4 => decide
  case hs =>
    obtain rfl := List.mem_singleton.mp hp
    exact hsep q hq e.symm
  intro g L' h₁ C' F' N' hr hst
  have C1 := C'
  obtain ⟨⟨A₀, base, outer, env, B', hA', hf', hk'⟩, X', T', hd', hu', hh'⟩ := C1
  have hc := hcmp g hr hst
  clear hcmp hsep F N hr hst
  repeat' (first | walk1 | (dsimp only; walk1))
  unfold Stop
  refine bisect_right_spec (S := S) (lt := lt) (rest := []) C' (by assumption) (by assumption) (fun q hq => nomatch hq) (by omega) hS hx (fun g' _ hs => hc.mono hs) ?_
  intro h' tk t kF kN
  have hb := bisR_le (lt := lt) (x := x) (vs := vs) (Nat.zero_le vs.length)
  repeat' (first | walk1 | (dsimp only; walk1))
  exact ⟨_, _, _, by assumption, by assumption, fun kF kN _ => hQ _ _ kF kN⟩
theorem item_spec {prog : Program} {w : World} {A : Around} {s : Shared} {h₀ : Heap} {L : Addr} {m : Str → Option Value} {rest : List (Addr × Obj)} {p : Program} {loose : List Str} {mean : ExcName → Option Value} {mg mb : Str → Option Value} {d : Nat} {Q : Value → Shared → Prop} {E : Value → Shared → Prop} {x wd : Int} {tx tw : Tok}
    (C : At (hd09.heap_39 w.params) p loose mean mg mb A h₀ L (d + 1)) (F : Fr h₀ L s.heap m) (N : News h₀ L s.heap rest) (hwd : 0 ≤ wd)
    (hQ : ∀ h' tk b i t, Fr h₀ L h' m → News h₀ L h' ((b, listOf ([Value.int i t] : List Value).toArray 0) :: rest) → (∀ q ∈ rest, b ≠ q.1) → Q (.ref b) { s with heap := h', toks := tk }) :
    wpAny (model prog w) A (call (.ref 88) [.int x tx, .int wd tw]) Q E s := by
  obtain ⟨hnd, dp, fr0, gd0, un0⟩ := A
  obtain rfl : hnd = none := C.hh
  obtain ⟨A₁, base₁, outer₁, env₁, B₁, hA₁, hf₁, hk₁⟩ := C.ex
  obtain rfl : fr0 = _ := hA₁
  w_top off
  refine' call_at (own := []) (rest := rest) (binds := [(Str.ofString "x", .int x tx), (Str.ofString "width", .int wd tw)]) C F N (fun p hp q hq e => ?hs) ?ho ?hcd ?hb ?hl ?_ ?h1 ?h2 ?h3 ?h4
  case ho => k_is
  case hcd => k_is
  case hb => exact BindsTo.of_eq rfl
  case hl => exact locs rfl
  case h1 => rfl
  case h2 => rfl
  case h3 => rfl
  case h4 => decide
  case hs => cases hp
  intro g L' h₁ C' F' N' hr hst
  have C1 := C'
  obtain ⟨⟨A₀, base, outer, env, B', hA', hf', hk'⟩, X', T', hd', hu', hh'⟩ := C1
  repeat' (first | walk1 | (dsimp only; walk1))
  all_goals exact ⟨_, _, _, by assumption, by assumption, fun kF kN hs => hQ _ _ _ _ _ kF kN (fun q hq => hs _ (.head _) q hq)⟩

theorem up_spec {prog : Program} {w : World} {A : Around} {s : Shared} {h₀ : Heap} {L : Addr} {m : Str → Option Value} {rest : List (Addr × Obj)} {p : Program} {loose : List Str} {mean : ExcName → Option Value} {mg mb : Str → Option Value} {d : Nat} {Q : Value → Shared → Prop} {E : Value → Shared → Prop} {pl : Nat} {tp : Tok}
    (C : At (hd09.heap_39 w.params) p loose mean mg mb A h₀ L (d + 1)) (F : Fr h₀ L s.heap m) (N : News h₀ L s.heap rest) (hpl : pl < 900)
    (hQ : ∀ h' tk b ws k, Fr h₀ L h' m → News h₀ L h' ((b, listOf ws.toArray k) :: rest) → (∀ q ∈ rest, b ≠ q.1) → IntsAre ws ((upP pl).map Int.ofNat) → Q (.ref b) { s with heap := h', toks := tk }) :
    wpAny (model prog w) A (call (.ref 95) [.int pl tp]) Q E s := by
  obtain ⟨hnd, dp, fr0, gd0, un0⟩ := A
  obtain rfl : hnd = none := C.hh
  obtain ⟨A₁, base₁, outer₁, env₁, B₁, hA₁, hf₁, hk₁⟩ := C.ex
  obtain rfl : fr0 = _ := hA₁
  w_top off
  refine' call_at (own := []) (rest := rest) (binds := [(Str.ofString "place", .int pl tp)]) C F N (fun p hp q hq e => ?hs) ?ho ?hcd ?hb ?hl ?_ ?h1 ?h2 ?h3 ?h4
  case ho => k_is
  case hcd => k_is
  case hb => exact BindsTo.of_eq rfl
  case hl => exact locs rfl
  case h1 => rfl
  case h2 => rfl
  case h3 => rfl
  case h4 => decide
  case hs => cases hp
  intro g L' h₁ C' F' N' hr hst
  have C1 := C'
  obtain ⟨⟨A₀, base, outer, env, B', hA', hf', hk'⟩, X', T', hd', hu', hh'⟩ := C1
  repeat' (first | walk1 | (dsimp only; walk1))
  unfold Stop
  rename News g L' _ _ => N3
  rename Fr g L' _ _ => F3
  rename_i wA _ _ _
  refine While_inv2 (fun n₁ m₁ news₁ => ∃ (q : Nat) (r : List Nat) (ws : List Value) (k : Nat) (u : Str → Option Value),
      m₁ = kstB u [(Str.ofString "way", .ref wA)] ∧ news₁ = [(wA, listOf ws.toArray k)] ∧ IntsAre ws (((q :: r).map Int.ofNat)) ∧ upP pl = upP q ++ r ∧ n₁ = q ∧ r.length + q ≤ pl) (n₀ := pl) F3 N3 ?_ ?_
  · exact ⟨pl, [], _, _, _, kst_self (by kst_all), rfl, .cons _ _ .nil, by simp, rfl, by simp⟩
  · rintro n₁ m₁ news₁ h₂ tk₁ F₂ N₂ ⟨q, r, ws, k, u, rfl, rfl, hI, hup, rfl, hle⟩
    dsimp only [kstB] at F₂
    have hlen := hI.length
    simp only [List.length_map, List.length_cons] at hlen
    repeat' (first | walk1 | (dsimp only; walk1))
    · rename 0 < List.getD _ _ _ => h0
      have h0' : 0 < n₁ := by have : (0 : Int) < (n₁ : Int) := h0; omega
      have e : (((List.map Int.ofNat (n₁ :: r)).getD (Int.toNat 0) 0 - 1).fdiv 2) = Int.ofNat ((n₁ - 1) / 2) := by
        show ((n₁ : Int) - 1).fdiv 2 = (((n₁ - 1) / 2 : Nat) : Int)
        rw [Int.fdiv_eq_ediv_of_nonneg _ (by decide)]; omega
      rename News g L' _ _ => N6
      rename Fr g L' _ _ => F6
      rw [e] at N6
      refine ⟨_, _, _, _, _, rfl, F6, N6, ?_, (n₁ - 1) / 2, n₁ :: r, _, _, _, kst_self (by kst_all), rfl, .cons _ _ hI, ?_, rfl, ?_⟩
      · omega
      · rw [hup, upP_pos h0', List.append_assoc]; rfl
      · simp only [List.length_cons]; omega
    · rename ¬ 0 < List.getD _ _ _ => h0
      have h0' : n₁ = 0 := by have : ¬ (0 : Int) < (n₁ : Int) := h0; omega
      subst h0'
      rw [upP_zero] at hup
      refine ⟨_, _, _, by assumption, N₂, fun kF kN hs => hQ _ _ _ _ _ kF kN (fun q hq => hs _ (.head _) q hq) ?_⟩
      rw [hup]; exact hI
local macro_rules | `(tactic| walk_at "subscriptTail Name UnaryOp ref int") => `(tactic| (k_here; (with_reducible show wpAny _ _ (subscriptTail _ _ (Value.ref _) (Value.int (-1) _)) _ _ _); k_dflt (refine' last_gen ?k1 ?k2 ?k3 ?_ ?k6; (case k1 => k_asm); (case k2 => k_mem); (case k3 => ((try simp only [List.length_set, List.length_append, List.length_cons, List.length_nil]); omega)); (case k6 => with_unfolding_all rfl); k_whole); (try simp only [getD_snoc])))
local macro_rules | `(tactic| walk_at "subscriptTail Name Slice ref ref") => `(tactic| refine Stop.mk ?_)
local macro_rules | `(tactic| walk_at "call builtin:min") => `(tactic| refine Stop.mk ?_)
local macro_rules | `(tactic| walk_at "compareOp Eq") => `(tactic| refine Stop.mk ?_)
local macro_rules | `(tactic| walk_at "call type:zip") => `(tactic| refine Stop.mk ?_)
local macro_rules | `(tactic| walk_at "compareOp Eq ref ref") => `(tactic| (k_here; (with_reducible show wpAny _ _ (compareOp CmpOp.Eq (Value.ref _) (Value.ref _)) _ _ _); refine Stop.mk ?_))
local macro_rules | `(tactic| walk_at "CompSrcT") => `(tactic| refine Stop.mk ?_)
local macro_rules | `(tactic| walk_at "compareOp IsNot") => `(tactic| refine Stop.mk ?_)
def EqC (prog : Program) (w : World) (g : Heap) (S : Value → Prop) (lt : Value → Value → Bool) : Prop :=
  ∀ x y, S x → S y → ∀ (A : Around) (s : Shared) (Q : Value → Shared → Prop) (E : Value → Shared → Prop), A.units + 64 < cLine → (∀ b o, g.get? b = some o → s.heap.get? b = some o) →
    (∀ tk, Q (.bool (!lt x y && !lt y x)) { s with toks := tk }) → wpAny (model prog w) A (compareOp .Eq x y) Q E s
theorem down_spec {prog : Program} {w : World} {A : Around} {s : Shared} {h₀ : Heap} {L : Addr} {m : Str → Option Value} {rest : List (Addr × Obj)} {p : Program} {loose : List Str} {mean : ExcName → Option Value} {mg mb : Str → Option Value} {d : Nat} {Q : Value → Shared → Prop} {E : Value → Shared → Prop} {S : Value → Prop} {lt : Value → Value → Bool} {a : Addr} {vs : List Value} {n : Nat} {pl : Nat} {tp : Tok} (o : WO lt)
    (C : At (hd09.heap_39 w.params) p loose mean mg mb A h₀ L (d + 5)) (F : Fr h₀ L s.heap m) (N : News h₀ L s.heap ((a, listOf vs.toArray n) :: rest)) (hsep : ∀ q ∈ rest, q.1 ≠ a) (hlen : vs.length < 900) (hpl : pl < vs.length) (hS : ∀ v ∈ vs, S v) (hcmp : ∀ g : Heap, (∀ q ∈ rest, g.get? q.1 = some q.2) → h₀.StaysIn g → Cmp prog w g S lt)
    (heq : ∀ g : Heap, (∀ q ∈ rest, g.get? q.1 = some q.2) → h₀.StaysIn g → EqC prog w g S lt)
    (hQ : ∀ h' tk b ws k, Fr h₀ L h' m → News h₀ L h' ((b, listOf ws.toArray k) :: (a, listOf vs.toArray n) :: rest) → b ≠ a → (∀ q ∈ rest, b ≠ q.1) → IntsAre ws ((downP lt vs pl).map Int.ofNat) → Q (.ref b) { s with heap := h', toks := tk }) :
    wpAny (model prog w) A (call (.ref 102) [.ref a, .int pl tp]) Q E s := by
  obtain ⟨hnd, dp, fr0, gd0, un0⟩ := A
  obtain rfl : hnd = none := C.hh
  obtain ⟨A₁, base₁, outer₁, env₁, B₁, hA₁, hf₁, hk₁⟩ := C.ex
  obtain rfl : fr0 = _ := hA₁
  w_top off
  refine' call_at (own := [(a, listOf vs.toArray n)]) (rest := rest) (binds := [(Str.ofString "row", .ref a), (Str.ofString "place", .int pl tp)]) C F N (fun p hp q hq e => ?hs) ?ho ?hcd ?hb ?hl ?_ ?h1 ?h2 ?h3 ?h4
  case ho => k_is
  case hcd => k_is
  case hb => exact BindsTo.of_eq rfl
  case hl => exact locs rfl
  case h1 => rfl
  case h2 => rfl
  case h3 => rfl
  case h4 => decide
  case hs =>
    obtain rfl := List.mem_singleton.mp hp
    exact hsep q hq e.symm
  intro g L' h₁ C' F' N' hr hst
  have C1 := C'
  obtain ⟨⟨A₀, base, outer, env, B', hA', hf', hk'⟩, X', T', hd', hu', hh'⟩ := C1
  have hc := hcmp g hr hst
  have he := heq g hr hst
  clear hcmp heq hsep F N hr hst
  repeat' (first | walk1 | (dsimp only; walk1))
  unfold Stop
  rename News g L' _ _ => N3
  rename Fr g L' _ _ => F3
  rename_i wA _ _ _
  refine While_inv2 (fun n₁ m₁ news₁ => ∃ (q : Nat) (r : List Nat) (ws : List Value) (k : Nat) (u : Str → Option Value),
      m₁ = kstB u [(Str.ofString "row", .ref a), (Str.ofString "way", .ref wA)] ∧ news₁ = [(wA, listOf ws.toArray k), (a, listOf vs.toArray n)] ∧ (∃ ws' t, ws = ws' ++ [.int q t] ∧ IntsAre ws' (r.map Int.ofNat)) ∧ downP lt vs pl = r ++ downP lt vs q ∧ n₁ = vs.length - q ∧ q < vs.length ∧ r.length ≤ q) (n₀ := vs.length - pl) F3 N3 ?_ ?_
  · exact ⟨pl, [], _, _, _, kst_self (by kst_all), rfl, ⟨[], _, rfl, .nil⟩, by simp, rfl, hpl, by simp⟩
  · rintro n₁ m₁ news₁ h₂ tk₁ F₂ N₂ ⟨q, r, _, k, u, rfl, rfl, ⟨ws, tq, rfl, hI⟩, hdn, rfl, hql, hrl⟩
    dsimp only [kstB] at F₂
    have hwl := hI.length
    simp only [List.length_map] at hwl
    repeat' (first | walk1 | (dsimp only; walk1))
    · rename 2 * (q : Int) + 1 < (vs.length : Int) => hq1
      have hq2 : 2 * q + 1 < vs.length := by omega
      unfold Stop
      rename News g L' _ _ => N4
      rename Fr g L' _ _ => F4
      rcases Nat.lt_or_ge (2 * q + 1 + 1) vs.length with h2 | h2
      · refine slice_gen (zs := [vs.getD (2 * q + 1) .none, vs.getD (2 * q + 1 + 1) .none]) F4 N4 (PySem.IsL.isList (n := n) (N4 (a, listOf vs.toArray n) (.tail _ (.head _))).1) (.int _ _) (.int _ _) (pick_two (k := 2 * q + 1) (by omega) (by omega) h2) ?_ (by with_unfolding_all rfl) (by simp; omega)
        intro D h' F5 N5 l1
        have hDw := ltN (a := wA) (b := D) (l1 _ (.head _))
        have hDa := ltN (a := a) (b := D) (l1 _ (.tail _ (.head _)))
        clear l1
        have hSz : ∀ v ∈ [vs.getD (2 * q + 1) .none, vs.getD (2 * q + 1 + 1) .none], S v := by
          intro v hv
          simp only [List.mem_cons, List.not_mem_nil, or_false] at hv
          rcases hv with rfl | rfl
          · exact hS _ (getD_mem hq2)
          · exact hS _ (getD_mem h2)
        repeat' (first | walk1 | (dsimp only; walk1))
        unfold Stop
        rename News g L' _ _ => N6
        rename Fr g L' _ _ => F6
        refine min_list (g := g) (S := S) (lt := lt) (vs := [vs.getD (2 * q + 1) .none, vs.getD (2 * q + 1 + 1) .none]) rfl (PySem.IsL.isList (n := 0) (N6 (D, listOf [vs.getD (2 * q + 1) .none, vs.getD (2 * q + 1 + 1) .none].toArray 0) (.head _)).1) (by simp) hc (by have := C'.hu; omega) hSz (fun b o e => F6.keep b o e) ?_
        intro h6 tk6 hk6
        replace F6 := F6.grownK hk6
        replace N6 := N6.grown hk6
        refine he _ _ (hS _ (getD_mem h2)) (minTo_S hSz _ (by simp)) _ _ _ _ (by have := C'.hu; omega) (fun b o e => F6.keep b o e) (fun tk7 => ?_)
        simp only [List.length_cons, List.length_nil, Nat.add_sub_cancel, Nat.zero_add, Nat.sub_self, minTo, List.getD_cons_succ, List.getD_cons_zero]
        rw [eq_two o]
        repeat' (first | walk1 | (dsimp only; walk1))
        · rename News g L' _ _ => N9
          rename Fr g L' _ _ => F9
          have hkd : kid lt vs q = 2 * q + 1 := by rw [kid, if_neg]; rintro ⟨_, hf⟩; rename lt _ _ = true => htr; rw [htr] at hf; cases hf
          have hkl := kid_lt (lt := lt) hq2
          refine ⟨_, _, _, _, _, rfl, F9, drop_hd N9, ?_, kid lt vs q, r ++ [q], _, _, _, kst_self (by kst_all), rfl, ⟨ws ++ [.int q tq], _, congrArg (fun x : Int => ws ++ [Value.int (q : Int) tq] ++ [Value.int x _]) (by rw [hkd]; omega), by rw [List.map_append]; exact ints_append hI (.cons _ _ .nil)⟩, ?_, rfl, hkl, ?_⟩
          · omega
          · rw [hdn, downP_in hq2, List.append_assoc]; rfl
          · simp only [List.length_append, List.length_cons, List.length_nil]; omega
        · rename News g L' _ _ => N9
          rename Fr g L' _ _ => F9
          have hkd : kid lt vs q = 2 * q + 1 + 1 := by rename lt _ _ = false => hfa; rw [kid, if_pos ⟨h2, hfa⟩]
          have hkl := kid_lt (lt := lt) hq2
          refine ⟨_, _, _, _, _, rfl, F9, drop_hd N9, ?_, kid lt vs q, r ++ [q], _, _, _, kst_self (by kst_all), rfl, ⟨ws ++ [.int q tq], _, congrArg (fun x : Int => ws ++ [Value.int (q : Int) tq] ++ [Value.int x _]) (by rw [hkd]; simp only [List.length_cons, List.length_nil]; omega), by rw [List.map_append]; exact ints_append hI (.cons _ _ .nil)⟩, ?_, rfl, hkl, ?_⟩
          · omega
          · rw [hdn, downP_in hq2, List.append_assoc]; rfl
          · simp only [List.length_append, List.length_cons, List.length_nil]; omega
      · refine slice_gen (zs := [vs.getD (2 * q + 1) .none]) F4 N4 (PySem.IsL.isList (n := n) (N4 (a, listOf vs.toArray n) (.tail _ (.head _))).1) (.int _ _) (.int _ _) (pick_one (k := 2 * q + 1) (by omega) (by omega) (by omega)) ?_ (by with_unfolding_all rfl) (by simp; omega)
        intro D h' F5 N5 l1
        have hDw := ltN (a := wA) (b := D) (l1 _ (.head _))
        have hDa := ltN (a := a) (b := D) (l1 _ (.tail _ (.head _)))
        clear l1
        have hSz : ∀ v ∈ [vs.getD (2 * q + 1) .none], S v := by
          intro v hv
          simp only [List.mem_cons, List.not_mem_nil, or_false] at hv
          subst hv
          exact hS _ (getD_mem hq2)
        repeat' (first | walk1 | (dsimp only; walk1))
        unfold Stop
        rename News g L' _ _ => N6
        rename Fr g L' _ _ => F6
        refine min_list (g := g) (S := S) (lt := lt) (vs := [vs.getD (2 * q + 1) .none]) rfl (PySem.IsL.isList (n := 0) (N6 (D, listOf [vs.getD (2 * q + 1) .none].toArray 0) (.head _)).1) (by simp) hc (by have := C'.hu; omega) hSz (fun b o e => F6.keep b o e) ?_
        intro h6 tk6 hk6
        replace F6 := F6.grownK hk6
        replace N6 := N6.grown hk6
        refine he _ _ (hS _ (getD_mem hq2)) (minTo_S hSz _ (by simp)) _ _ _ _ (by have := C'.hu; omega) (fun b o e => F6.keep b o e) (fun tk7 => ?_)
        simp only [List.length_cons, List.length_nil, Nat.add_sub_cancel, Nat.zero_add, Nat.sub_self, minTo, List.getD_cons_succ, List.getD_cons_zero]
        rw [eq_one o]
        repeat' (first | walk1 | (dsimp only; walk1))
        · rename News g L' _ _ => N9
          rename Fr g L' _ _ => F9
          have hkd : kid lt vs q = 2 * q + 1 := by rw [kid, if_neg]; rintro ⟨hf, _⟩; omega
          have hkl := kid_lt (lt := lt) hq2
          refine ⟨_, _, _, _, _, rfl, F9, drop_hd N9, ?_, kid lt vs q, r ++ [q], _, _, _, kst_self (by kst_all), rfl, ⟨ws ++ [.int q tq], _, congrArg (fun x : Int => ws ++ [Value.int (q : Int) tq] ++ [Value.int x _]) (by rw [hkd]; simp only [List.length_cons, List.length_nil]; omega), by rw [List.map_append]; exact ints_append hI (.cons _ _ .nil)⟩, ?_, rfl, hkl, ?_⟩
          · omega
          · rw [hdn, downP_in hq2, List.append_assoc]; rfl
          · simp only [List.length_append, List.length_cons, List.length_nil]; omega
    · rename ¬ 2 * (q : Int) + 1 < (vs.length : Int) => hq1
      have hq2 : ¬ 2 * q + 1 < vs.length := by omega
      rw [downP_end hq2] at hdn
      refine ⟨_, _, _, by assumption, N₂, fun kF kN hs => hQ _ _ _ _ _ kF kN ?_ (fun q hq => hs _ (.head _) q hq) ?_⟩
      · exact neN (by omega)
      · rw [hdn, List.map_append]; exact ints_append hI (.cons _ _ .nil)
theorem lay_spec {prog : Program} {w : World} {A : Around} {s : Shared} {h₀ : Heap} {L : Addr} {m : Str → Option Value} {rest : List (Addr × Obj)} {p : Program} {loose : List Str} {mean : ExcName → Option Value} {mg mb : Str → Option Value} {d : Nat} {Q : Value → Shared → Prop} {E : Value → Shared → Prop} {S : Value → Prop} {lt : Value → Value → Bool} {a : Addr} {vs : List Value} {n : Nat} {b c : Addr} {ws ls : List Value} {way : List Nat} {kb kc : Nat} {x : Value}
    (C : At (hd09.heap_39 w.params) p loose mean mg mb A h₀ L (d + 5)) (F : Fr h₀ L s.heap m) (N : News h₀ L s.heap ((a, listOf vs.toArray n) :: (b, listOf ws.toArray kb) :: (c, listOf ls.toArray kc) :: rest)) (hab : a ≠ b) (hac : a ≠ c) (hbc : b ≠ c) (hsa : ∀ q ∈ rest, q.1 ≠ a) (hsb : ∀ q ∈ rest, q.1 ≠ b) (hsc : ∀ q ∈ rest, q.1 ≠ c)
    (hlen : vs.length < 900) (hll : ls.length < 900) (hI : IntsAre ws (way.map Int.ofNat)) (hway : ∀ q ∈ way, q < vs.length) (hS : ∀ v ∈ ls, S v) (hx : S x) (hcmp : ∀ g : Heap, (∀ q ∈ rest, g.get? q.1 = some q.2) → h₀.StaysIn g → Cmp prog w g S lt)
    (hQ : ∀ h' tk, Fr h₀ L h' m → News h₀ L h' ((a, listOf (lay vs way (insR lt ls x)).toArray n) :: rest) → Q .none { s with heap := h', toks := tk }) :
    wpAny (model prog w) A (call (.ref 109) [.ref a, .ref b, .ref c, x]) Q E s := by
  obtain ⟨hnd, dp, fr0, gd0, un0⟩ := A
  obtain rfl : hnd = none := C.hh
  obtain ⟨A₁, base₁, outer₁, env₁, B₁, hA₁, hf₁, hk₁⟩ := C.ex
  obtain rfl : fr0 = _ := hA₁
  w_top off
  refine' call_at (own := [(a, listOf vs.toArray n), (b, listOf ws.toArray kb), (c, listOf ls.toArray kc)]) (rest := rest) (binds := [(Str.ofString "row", .ref a), (Str.ofString "way", .ref b), (Str.ofString "line", .ref c), (Str.ofString "item", x)]) C F N (fun p hp q hq e => ?hs) ?ho ?hcd ?hb ?hl ?_ ?h1 ?h2 ?h3 ?h4
  case ho => k_is
  case hcd => k_is
  case hb => exact BindsTo.of_eq rfl
  case hl => exact locs rfl
  case h1 => rfl
  case h2 => rfl
  case h3 => rfl
  case h4 => decide
  case hs =>
    simp only [List.mem_cons, List.not_mem_nil, or_false] at hp
    rcases hp with rfl | rfl | rfl
    · exact hsa q hq e.symm
    · exact hsb q hq e.symm
    · exact hsc q hq e.symm
  intro g L' h₁ C' F' N' hr hst
  have C1 := C'
  obtain ⟨⟨A₀, base, outer, env, B', hA', hf', hk'⟩, X', T', hd', hu', hh'⟩ := C1
  have hc := hcmp g hr hst
  clear hcmp hsa hsb hsc F N hr hst
  repeat' (first | walk1 | (dsimp only; walk1))
  unfold Stop
  refine insort_right_spec (S := S) (lt := lt) (a := c) (vs := ls) (n := kc) (rest := [(a, listOf vs.toArray n), (b, listOf ws.toArray kb)]) (d := d + 2) (C'.less (by omega)) (by assumption) (fun p hp => N' p (by simp at hp ⊢; rcases hp with rfl | rfl | rfl <;> simp)) ?_ (by omega) hS hx (fun g' _ hs => hc.mono hs) ?_
  · intro q hq
    simp only [List.mem_cons, List.not_mem_nil, or_false] at hq
    rcases hq with rfl | rfl
    · exact hac
    · exact hbc
  intro h2 tk2 F2 N2
  repeat' (first | walk1 | (dsimp only; walk1))
  unfold Stop
  rename Fr g L' h2 _ => F2
  generalize hzs : insR lt ls x = zs at *
  have hwl := hI.length
  rw [List.length_map] at hwl
  refine iter_zip2 (xs := ws) (ys := zs) (kept := [(b, listOf ws.toArray kb), (c, listOf zs.toArray (kc + 1))]) (news := [(a, listOf vs.toArray n)]) rfl (PySem.IsL.isList (n := kb) (N2 (b, listOf ws.toArray kb) (by simp)).1) (PySem.IsL.isList (n := kc + 1) (N2 (c, listOf zs.toArray (kc + 1)) (by simp)).1) (N2 (b, listOf ws.toArray kb) (by simp)).2.1 (N2 (c, listOf zs.toArray (kc + 1)) (by simp)).2.1 F2 (fun p hp => N2 p (by simp at hp ⊢; rcases hp with rfl | rfl | rfl <;> simp)) ?_ ?_ ?_
    (fun i m₁ var => ∃ u, m₁ = kstB u [(Str.ofString "row", .ref a), (Str.ofString "way", .ref b), (Str.ofString "line", .ref c)] ∧ var = [(a, listOf (lay vs (way.take i) (zs.take i)).toArray n)]) ?_ ?_ ?_
  · intro p hp q hq
    simp only [List.mem_cons, List.not_mem_nil, or_false] at hp hq
    subst hq
    rcases hp with rfl | rfl
    · exact hab.symm
    · exact hac.symm
  · intro q hq
    rw [List.mem_singleton.mp hq]; exact hab
  · intro q hq
    rw [List.mem_singleton.mp hq]; exact hac
  · exact ⟨_, kst_self (by kst_all), by simp [lay]⟩
  · rintro i v0 v1 m₁ var h tk own hv0 hv1 ⟨u, rfl, rfl⟩ hva hkp hso F₁ N₁
    obtain ⟨hiw, t0, rfl⟩ := ints_at hI hv0
    have hil : i < zs.length := (List.getElem?_eq_some_iff.mp hv1).1
    obtain rfl : v1 = zs.getD i .none := by rw [getElem?_getD hil] at hv1; exact (Option.some.inj hv1).symm
    have hok : ∀ p ∈ own, p.1 ≠ a := fun p hp => hso p hp (a, _) (.head _)
    have hpl := hway _ (getD_mem0 hiw)
    have hll2 := lay_len (way.take i) vs (zs.take i)
    have hsucc := lay_succ (vs := vs) hiw hil
    generalize hlv : lay vs (way.take i) (zs.take i) = lv at *
    generalize hgi : way.getD i 0 = gi at *
    dsimp only [kstB] at F₁
    simp only [List.cons_append, List.nil_append] at N₁
    change Fr g L' _ _ at F₁
    change News g L' _ _ at N₁
    repeat' (first | walk1 | (dsimp only; walk1))
    rename News g L' _ _ => N9
    rename Fr g L' _ _ => F9
    rw [hsucc]
    exact ⟨_, _, _, [_], rfl, F9, N9, rfl, _, kst_self (by kst_all), rfl⟩
  · rintro m₁ var h tk ⟨u, rfl, rfl⟩ hva F₁ N₁
    have e : lay vs (way.take (min ws.length zs.length)) (zs.take (min ws.length zs.length)) = lay vs way zs := by rw [hwl]; exact lay_min way vs zs
    rw [e] at N₁
    dsimp only [kstB] at F₁
    simp only [List.cons_append, List.nil_append] at N₁
    change Fr g L' _ _ at F₁
    change News g L' _ _ at N₁
    dsimp only
    repeat' (first | walk1 | (dsimp only; walk1))
    dsimp only
    exact ⟨_, _, [(a, listOf (lay vs way zs).toArray n)], by assumption, cb_drop N₁ (fun p hp => by rw [List.mem_singleton.mp hp]; exact .head _), fun kF kN _ => hQ _ _ kF kN⟩
theorem EqC.mono {prog : Program} {w : World} {g g' : Heap} {S : Value → Prop} {lt : Value → Value → Bool} (h : EqC prog w g S lt) (hs : g.StaysIn g') : EqC prog w g' S lt :=
  fun x y hx hy A s Q E hu hk hq => h x y hx hy A s Q E hu (fun b o e => hk b o (hs b o e)) hq
theorem lay_at_spec {prog : Program} {w : World} {A : Around} {s : Shared} {h₀ : Heap} {L : Addr} {m : Str → Option Value} {rest : List (Addr × Obj)} {p : Program} {loose : List Str} {mean : ExcName → Option Value} {mg mb : Str → Option Value} {d : Nat} {Q : Value → Shared → Prop} {E : Value → Shared → Prop} {S : Value → Prop} {lt : Value → Value → Bool} {a : Addr} {vs : List Value} {n : Nat} {pl : Nat} {tp : Tok} {x : Value} (o : WO lt)
    (C : At (hd09.heap_39 w.params) p loose mean mg mb A h₀ L (d + 8)) (F : Fr h₀ L s.heap m) (N : News h₀ L s.heap ((a, listOf vs.toArray n) :: rest)) (hsep : ∀ q ∈ rest, q.1 ≠ a) (hlen : vs.length < 900) (hpl : pl < vs.length) (hS : ∀ v ∈ vs, S v) (hx : S x) (hcmp : ∀ g : Heap, (∀ q ∈ rest, g.get? q.1 = some q.2) → h₀.StaysIn g → Cmp prog w g S lt)
    (heq : ∀ g : Heap, (∀ q ∈ rest, g.get? q.1 = some q.2) → h₀.StaysIn g → EqC prog w g S lt)
    (hQ : ∀ h' tk, Fr h₀ L h' m → News h₀ L h' ((a, listOf (layAt lt vs pl x).toArray n) :: rest) → Q .none { s with heap := h', toks := tk }) :
    wpAny (model prog w) A (call (.ref 114) [.ref a, .int pl tp, x]) Q E s := by
  obtain ⟨hnd, dp, fr0, gd0, un0⟩ := A
  obtain rfl : hnd = none := C.hh
  obtain ⟨A₁, base₁, outer₁, env₁, B₁, hA₁, hf₁, hk₁⟩ := C.ex
  obtain rfl : fr0 = _ := hA₁
  w_top off
  refine' call_atC (own := [(a, listOf vs.toArray n)]) (rest := rest) (binds := [(Str.ofString "row", .ref a), (Str.ofString "place", .int pl tp), (Str.ofString "item", x)]) C F N (fun p hp q hq e => ?hs) ?ho ?hcd ?hb ?hl ?hn ?_ ?h1 ?h2 ?h3
  case ho => k_is
  case hcd => k_is
  case hb => exact BindsTo.of_eq rfl
  case hl => exact rfl
  case hn => decide +kernel
  case h1 => rfl
  case h2 => rfl
  case h3 => rfl
  case hs =>
    obtain rfl := List.mem_singleton.mp hp
    exact hsep q hq e.symm
  intro g L' h₁ tk cells C' F' N' Y hr hst hlo
  have hc := hcmp g hr hst
  have he := heq g hr hst
  have haL := ltN (a := a) (b := L') (hlo _ (.head _))
  k_cells Y
  simp only [List.cons_append, List.nil_append] at N'
  clear hcmp heq hsep F N hr hst hlo
  have C1 := C'
  obtain ⟨⟨A₀, base, outer, env, B', hA', hf', hk'⟩, X', T', hd', hu', hh'⟩ := C1
  repeat' (first | walk1 | (dsimp only; walk1))
  unfold Stop
  rename_i oC hoC
  have hoC' : oC.data = .cell (some (.ref a)) := hoC
  clear hoC
  refine down_spec (d := d) (S := S) (lt := lt) (a := a) (vs := vs) (n := n) (rest := [(L' + 1, oC)]) o (C'.less (by omega)) F' (fun p hp => N' p (by simp at hp ⊢; rcases hp with rfl | rfl <;> simp)) ?_ hlen hpl hS (fun g' _ hs => hc.mono hs) (fun g' _ hs => he.mono hs) ?_
  · intro q hq
    rw [List.mem_singleton.mp hq]
    exact neN (by dsimp only; omega)
  intro h2 tk2 wA ws kw F2 N2 hwa hwr hI
  have hw1 := hwr _ (.head _)
  dsimp only at hw1
  repeat' (first | walk1 | (dsimp only; walk1))
  unfold Stop
  rename Fr g L' _ _ => F3
  rename News g L' _ _ => N3
  refine LCg.ListComp_U (F₀ := F3) rfl (by decide) rfl (by decide) rfl ?_
  repeat' (first | walk1 | (dsimp only; walk1))
  unfold Stop
  obtain ⟨r, hr⟩ := downP_head (lt := lt) (vs := vs) (p := pl)
  have hrl := downP_lt (lt := lt) pl hpl
  have hrn := lineP_len (vs := vs) (w := downP lt vs pl) (by rw [hr]; simp)
  rw [hr] at hrl
  have hI0 := hI
  rw [hr] at hI0
  obtain ⟨t0, ws', rfl, hI'⟩ : ∃ t0 ws', ws = .int (pl : Int) t0 :: ws' ∧ IntsAre ws' (r.map Int.ofNat) := by
    cases hI0 with
    | cons j t h' => exact ⟨t, _, rfl, h'⟩
  have hwl := hI'.length
  rw [List.length_map] at hwl
  have hr9 : r.length < 900 := by
    have := way_short (downP_way (lt := lt) (vs := vs) pl) (downP_lt (lt := lt) pl hpl)
    rw [hr] at this; simp at this; omega
  refine slice_gen (zs := ws') F3 N3 (PySem.IsL.isList (n := kw) (N3 (wA, listOf (.int (pl : Int) t0 :: ws').toArray kw) (.head _)).1) (IsPart.int _ _) IsPart.none (pick_from _ 1) ?_ (by with_unfolding_all rfl) (by simp; omega)
  intro D1 h4 F4 N4 l4
  have l4a := ltN (l4 _ (.head _))
  have l4b := ltN (l4 _ (.tail _ (.head _)))
  have l4c := ltN (l4 _ (.tail _ (.tail _ (.head _))))
  dsimp only at l4a l4b l4c
  clear l4
  refine LCg.CompSrc.ledger (k := 0) (its := ws'.toArray) rfl F4 N4 (.head _) (by simp [sizeLine]; omega) ?_
  intro g6
  refine comp_rest (fun i ys news => news = [(D1, listOf ws'.toArray 0), (wA, listOf (.int (pl : Int) t0 :: ws').toArray kw), (a, listOf vs.toArray n), (L' + 1, oC)] ∧ ys = (r.take i).map (vs.getD · .none)) ⟨rfl, by simp⟩ ?_ ?_
  · rintro i v I oI C oC' D m₂ ys news h7 tk7 E' hi hv ⟨rfl, rfl⟩ hC hx7 F7 N7 off ne
    have hv2 : ws'[i]? = some v := by simpa using hv
    obtain ⟨hir, tv, rfl⟩ := ints_at hI' hv2
    have hri := hrl _ (.tail _ (getD_mem0 hir))
    have e1 : r.take (i + 1) = r.take i ++ [r.getD i 0] := by
      rw [List.take_succ_eq_append_getElem hir]; simp [List.getD, hir]
    generalize r.getD i 0 = ri at *
    repeat' (first | walk1 | (dsimp only; walk1))
    refine ⟨_, _, _, rfl, F7, N7, off, .inr ⟨_, .head _, rfl, _, rfl⟩, rfl, ?_⟩
    rw [e1, List.map_append]; rfl
  · rintro ys news ⟨rfl, rfl⟩ D h7 tk7 F7 N7 off
    have hoff : ∀ p ∈ [(D1, listOf ws'.toArray 0), (wA, listOf (.int (pl : Int) t0 :: ws').toArray kw), (a, listOf vs.toArray n), (L' + 1, oC)], p.1 ≠ D := by
      simpa [LCg.Off1] using off
    have hline : (r.take ws'.toArray.size).map (vs.getD · .none) = lineP vs (downP lt vs pl) := by
      rw [List.size_toArray, hwl, List.take_length, hr]; rfl
    rw [hline] at N7
    have hD1 := hoff _ (.tail _ (.head _))
    have hD2 := hoff _ (.tail _ (.tail _ (.head _)))
    have hD3 := hoff _ (.tail _ (.tail _ (.tail _ (.head _))))
    dsimp only at hD1 hD2 hD3
    clear hoff off F4 N4 F3 N3
    dsimp only
    repeat' (first | walk1 | (dsimp only; walk1))
    unfold Stop
    have hSl : ∀ v ∈ lineP vs (downP lt vs pl), S v := by
      intro v hv
      rw [lineP] at hv
      obtain ⟨q, hq, rfl⟩ := List.mem_map.mp hv
      exact hS _ (getD_mem (by rw [hr] at hq; exact hrl q (.tail _ hq)))
    refine lay_spec (d := d) (S := S) (lt := lt) (a := a) (b := wA) (c := D) (ws := .int (pl : Int) t0 :: ws') (ls := lineP vs (downP lt vs pl)) (way := downP lt vs pl) (kb := kw) (kc := (lineP vs (downP lt vs pl)).length) (vs := vs) (n := n) (rest := [(L' + 1, oC)]) (C'.less (by omega)) F7 (cb_drop N7 (fun p hp => ?_)) hwa.symm hD2 hD1 ?_ ?_ ?_ hlen ?_ hI (downP_lt pl hpl) hSl hx (fun g' _ hs => hc.mono hs) ?_
    · simp only [List.mem_cons, List.not_mem_nil, or_false] at hp ⊢
      rcases hp with rfl | rfl | rfl | rfl <;> simp [LCg.lst, W.listOf]
    · intro q hq
      rw [List.mem_singleton.mp hq]; exact neN (by dsimp only; omega)
    · intro q hq
      rw [List.mem_singleton.mp hq]; exact hw1.symm
    · intro q hq
      rw [List.mem_singleton.mp hq]; exact hD3
    · rw [hr]; simp only [lineP, List.tail_cons, List.length_map]; exact hr9
    intro h8 tk8 F8 N8
    repeat' (first | walk1 | (dsimp only; walk1))
    exact ⟨_, _, [(a, listOf (layAt lt vs pl x).toArray n)], F8, cb_drop N8 (fun p hp => by rw [List.mem_singleton.mp hp]; exact .head _), fun kF kN _ => hQ _ _ kF kN⟩
theorem due_spec {prog : Program} {w : World} {A : Around} {s : Shared} {h₀ : Heap} {L : Addr} {m : Str → Option Value} {rest : List (Addr × Obj)} {p : Program} {loose : List Str} {mean : ExcName → Option Value} {mg mb : Str → Option Value} {d : Nat} {Q : Value → Shared → Prop} {E : Value → Shared → Prop} {S : Value → Prop} {lt : Value → Value → Bool} {a : Addr} {vs : List Value} {n : Nat} {k : Nat} {tc : Tok} {x : Value} (o : WO lt)
    (C : At (hd09.heap_39 w.params) p loose mean mg mb A h₀ L (d + 12)) (F : Fr h₀ L s.heap m) (N : News h₀ L s.heap ((a, listOf vs.toArray n) :: rest)) (hsep : ∀ q ∈ rest, q.1 ≠ a) (hlen : vs.length < 800) (hk : k < 5) (hS : ∀ v ∈ vs, S v) (hx : S x) (hcmp : ∀ g : Heap, (∀ q ∈ rest, g.get? q.1 = some q.2) → h₀.StaysIn g → Cmp prog w g S lt)
    (heq : ∀ g : Heap, (∀ q ∈ rest, g.get? q.1 = some q.2) → h₀.StaysIn g → EqC prog w g S lt)
    (hQ : ∀ h' tk b n', Fr h₀ L h' m → News h₀ L h' ((b, listOf (dueR lt vs k x).1.toArray 0) :: (a, listOf (dueR lt vs k x).2.toArray n') :: rest) → b ≠ a → (∀ q ∈ rest, b ≠ q.1) → Q (.ref b) { s with heap := h', toks := tk }) :
    wpAny (model prog w) A (call (.ref 119) [.ref a, .int k tc, x]) Q E s := by
  obtain ⟨hnd, dp, fr0, gd0, un0⟩ := A
  obtain rfl : hnd = none := C.hh
  obtain ⟨A₁, base₁, outer₁, env₁, B₁, hA₁, hf₁, hk₁⟩ := C.ex
  obtain rfl : fr0 = _ := hA₁
  w_top off
  refine' call_atC (own := [(a, listOf vs.toArray n)]) (rest := rest) (binds := [(Str.ofString "row", .ref a), (Str.ofString "call", .int k tc), (Str.ofString "item", x)]) C F N (fun p hp q hq e => ?hs) ?ho ?hcd ?hb ?hl ?hn ?_ ?h1 ?h2 ?h3
  case ho => k_is
  case hcd => k_is
  case hb => exact BindsTo.of_eq rfl
  case hl => exact rfl
  case hn => decide +kernel
  case h1 => rfl
  case h2 => rfl
  case h3 => rfl
  case hs =>
    obtain rfl := List.mem_singleton.mp hp
    exact hsep q hq e.symm
  intro g L' h₁ tk cells C' F' N' Y hr hst hlo
  have hc := hcmp g hr hst
  have he := heq g hr hst
  have haL := ltN (a := a) (b := L') (hlo _ (.head _))
  k_cells Y
  simp only [List.cons_append, List.nil_append] at N'
  clear hcmp heq hsep F N hr hst hlo
  have C1 := C'
  obtain ⟨⟨A₀, base, outer, env, B', hA', hf', hk'⟩, X', T', hd', hu', hh'⟩ := C1
  rename_i oC hoC
  have hoC' : oC.data = .cell (some (.ref a)) := hoC
  clear hoC
  by_cases hk2 : k < 2
  · rw [dueR_push hk2] at hQ
    repeat' (first | walk1 | (dsimp only; walk1))
    unfold Stop
    refine up_spec (d := d) (pl := vs.length) (rest := [(L' + 1, oC), (a, listOf vs.toArray n)]) (C'.less (by omega)) F' N' (by omega) ?_
    intro h2 tk2 wA ws kw F2 N2 hwr hI
    have hw1 := hwr _ (.head _)
    have hw2 := hwr _ (.tail _ (.head _))
    dsimp only at hw1 hw2
    clear hwr
    repeat' (first | walk1 | (dsimp only; walk1))
    unfold Stop
    rename Fr g L' _ _ => F3
    rename News g L' _ _ => N3
    refine LCg.Assign_ListComp_U (F₀ := F3) rfl (by with_unfolding_all rfl) rfl (by decide) rfl (by decide) rfl rfl rfl ?_
    repeat' (first | walk1 | (dsimp only; walk1))
    unfold Stop
    obtain ⟨r, hr, hrl⟩ := upP_last vs.length
    have hI0 := hI
    rw [hr, List.map_append] at hI0
    obtain ⟨ws', t0, rfl, hI'⟩ := ints_split hI0
    have hwl := hI'.length
    rw [List.length_map] at hwl
    have hr9 : r.length ≤ vs.length := by
      have := way_short (upP_way vs.length).1 (n := vs.length + 1) (fun q hq => by have := upP_le _ q hq; omega)
      rw [hr] at this; simp at this; omega
    refine slice_gen (zs := ws') F3 N3 (PySem.IsL.isList (n := kw) (N3 (wA, _) (.head _)).1) IsPart.none (IsPart.int _ _) (by rw [pick_butLast, List.dropLast_concat]) ?_ (by with_unfolding_all rfl) (by simp; omega)
    intro D1 h4 F4 N4 l4
    have l4a := ltN (l4 _ (.head _))
    have l4b := ltN (l4 _ (.tail _ (.head _)))
    have l4c := ltN (l4 _ (.tail _ (.tail _ (.head _))))
    dsimp only at l4a l4b l4c
    clear l4
    refine LCg.CompSrc.ledger (k := 0) (its := ws'.toArray) rfl F4 N4 (.head _) (by simp [sizeLine]; omega) ?_
    intro g6
    generalize hwv : ws' ++ [Value.int (Int.ofNat vs.length) t0] = wv at *
    refine comp_rest (fun i ys news => news = [(D1, listOf ws'.toArray 0), (wA, listOf wv.toArray kw), (L' + 1, oC), (a, listOf vs.toArray n)] ∧ ys = (r.take i).map (vs.getD · .none)) ⟨rfl, by simp⟩ ?_ ?_
    · rintro i v I oI C oC' D m₂ ys news h7 tk7 E' hi hv ⟨rfl, rfl⟩ hC hx7 F7 N7 off ne
      have hv2 : ws'[i]? = some v := by simpa using hv
      obtain ⟨hir, tv, rfl⟩ := ints_at hI' hv2
      have hri := hrl _ (getD_mem0 hir)
      have e1 : r.take (i + 1) = r.take i ++ [r.getD i 0] := by
        rw [List.take_succ_eq_append_getElem hir]; simp [List.getD, hir]
      generalize r.getD i 0 = ri at *
      repeat' (first | walk1 | (dsimp only; walk1))
      refine ⟨_, _, _, rfl, F7, N7, off, .inr ⟨_, .head _, rfl, _, rfl⟩, rfl, ?_⟩
      rw [e1, List.map_append]; rfl
    · rintro ys news ⟨rfl, rfl⟩ D h7 tk7 F7 N7 off
      have hoff : ∀ p ∈ [(D1, listOf ws'.toArray 0), (wA, listOf wv.toArray kw), (L' + 1, oC), (a, listOf vs.toArray n)], p.1 ≠ D := by
        simpa [LCg.Off1] using off
      have hline : (r.take ws'.toArray.size).map (vs.getD · .none) = lineU vs (upP vs.length) := by
        rw [List.size_toArray, hwl, List.take_length, hr, lineU, List.dropLast_concat]
      rw [hline] at N7
      have hD1 := hoff _ (.tail _ (.head _))
      have hD2 := hoff _ (.tail _ (.tail _ (.tail _ (.head _))))
      have hD3 := hoff _ (.tail _ (.tail _ (.head _)))
      dsimp only at hD1 hD2 hD3
      clear hoff off F4 N4 F3 N3
      have hSl : ∀ v ∈ lineU vs (upP vs.length), S v := by
        intro v hv
        rw [lineU, hr, List.dropLast_concat] at hv
        obtain ⟨q, hq, rfl⟩ := List.mem_map.mp hv
        exact hS _ (getD_mem (hrl q hq))
      have hll : (lineU vs (upP vs.length)).length ≤ vs.length := by rw [lineU, hr, List.dropLast_concat, List.length_map]; exact hr9
      generalize hlu : lineU vs (upP vs.length) = lu at *
      have N8 : News g L' h7 [(D, listOf lu.toArray lu.length), (wA, listOf wv.toArray kw), (L' + 1, oC), (a, listOf vs.toArray n)] := cb_drop N7 (fun p hp => by
        simp only [List.mem_cons, List.not_mem_nil, or_false] at hp ⊢
        rcases hp with rfl | rfl | rfl | rfl <;> simp [LCg.lst, W.listOf])
      have hq1 := neN' hD1
      have hq2 := neN' hD2
      have hq3 := neN' hD3
      have hq4 := neN' hw1
      have hq5 := neN' hw2
      clear N7
      dsimp only
      repeat' (first | walk1 | (dsimp only; walk1))
      unfold Stop
      rename Fr g L' _ _ => F9
      rename News g L' _ _ => N9
      refine lay_spec (d := d) (S := S) (lt := lt) (a := a) (b := wA) (c := D) (ws := wv) (ls := lu) (way := upP vs.length) (kb := kw) (kc := lu.length) (vs := vs ++ [x]) (n := n + 1) (rest := [(L' + 1, oC)]) (C'.less (by omega)) F9 (cb_drop N9 (fun p hp => ?_)) hw2.symm hD2 hD1 ?_ ?_ ?_ (by simp; omega) (by omega) hI ?_ hSl hx (fun g' _ hs => hc.mono hs) ?_
      · simp only [List.mem_cons, List.not_mem_nil, or_false] at hp ⊢
        rcases hp with rfl | rfl | rfl | rfl <;> simp
      · intro q hq
        rw [List.mem_singleton.mp hq]; exact neN (by dsimp only; omega)
      · intro q hq
        rw [List.mem_singleton.mp hq]; exact hw1.symm
      · intro q hq
        rw [List.mem_singleton.mp hq]; exact hD3
      · intro q hq
        have := upP_le _ q hq
        simp; omega
      intro h8 tk8 F8 N8
      clear N9
      repeat' (first | walk1 | (dsimp only; walk1))
      rename News g L' _ _ => N10
      refine ⟨_, _, _, by assumption, cb_drop (news := [(_, listOf [Value.none].toArray 0), (a, listOf (lay (vs ++ [x]) (upP vs.length) (insR lt lu x)).toArray (n + 1))]) N10 (fun p hp => ?_), fun kF kN hs => hQ _ _ _ (n + 1) kF ?_ ?_ (fun q hq => hs _ (.head _) q hq)⟩
      · simp only [List.mem_cons, List.not_mem_nil, or_false] at hp ⊢
        rcases hp with rfl | rfl <;> simp
      · rw [layUp, hlu]; exact kN
      · exact neN (by omega)
  · by_cases hk3 : k = 3
    · by_cases hv : vs = []
      · repeat' (first | walk1 | (dsimp only; walk1))
        · unfold Stop
          rename News g L' _ _ => N1
          refine eq_nil (vs := vs) (PySem.IsL.isList (n := n) (N1 (a, listOf vs.toArray n) (by simp)).1) (PySem.IsL.isList (n := 0) (N1 (_, listOf ([] : List Value).toArray 0) (.head _)).1) (by have := C'.hu; omega) ?_
          rw [decide_eq_true hv]
          repeat' (first | walk1 | (dsimp only; walk1))
          rw [dueR_pass hk3 (.inl hv)] at hQ
          rename News g L' _ _ => N10
          refine ⟨_, _, _, by assumption, cb_drop (news := [(_, listOf [x].toArray 0), (a, listOf vs.toArray n)]) N10 (fun p hp => ?_), fun kF kN hs => hQ _ _ _ n kF kN ?_ (fun q hq => hs _ (.head _) q hq)⟩
          · simp only [List.mem_cons, List.not_mem_nil, or_false] at hp ⊢
            rcases hp with rfl | rfl <;> simp
          · exact neN (by omega)
        · exfalso; omega
      · have hl0 : 0 < vs.length := List.length_pos_iff.mpr hv
        repeat' (first | walk1 | (dsimp only; walk1))
        · unfold Stop
          rename News g L' _ _ => N1
          refine eq_nil (vs := vs) (PySem.IsL.isList (n := n) (N1 (a, listOf vs.toArray n) (by simp)).1) (PySem.IsL.isList (n := 0) (N1 (_, listOf ([] : List Value).toArray 0) (.head _)).1) (by have := C'.hu; omega) ?_
          rw [decide_eq_false hv]
          repeat' (first | walk1 | (dsimp only; walk1))
          unfold Stop
          rename Fr g L' _ _ => F5
          refine hc _ _ (hS _ (getD_mem hl0)) hx _ _ _ _ (by have := C'.hu; omega) (fun b o e => F5.keep b o e) (fun tk5 => ?_)
          cases hlx : lt (vs.getD 0 .none) x with
          | false =>
            repeat' (first | walk1 | (dsimp only; walk1))
            rw [dueR_pass hk3 (.inr hlx)] at hQ
            rename News g L' _ _ => N10
            refine ⟨_, _, _, by assumption, cb_drop (news := [(_, listOf [x].toArray 0), (a, listOf vs.toArray n)]) N10 (fun p hp => ?_), fun kF kN hs => hQ _ _ _ n kF kN ?_ (fun q hq => hs _ (.head _) q hq)⟩
            · simp only [List.mem_cons, List.not_mem_nil, or_false] at hp ⊢
              rcases hp with rfl | rfl <;> simp
            · exact neN (by omega)
          | true =>
            repeat' (first | walk1 | (dsimp only; walk1))
            unfold Stop
            rename News g L' _ _ => N1
            refine eq_nil (vs := vs) (PySem.IsL.isList (n := n) (N1 (a, listOf vs.toArray n) (by simp)).1) (PySem.IsL.isList (n := 0) (N1 (_, listOf ([] : List Value).toArray 0) (.head _)).1) (by have := C'.hu; omega) ?_
            rw [decide_eq_false hv]
            repeat' (first | walk1 | (dsimp only; walk1))
            · exfalso; omega
            · unfold Stop
              rename News g L' _ _ => N2
              rename Fr g L' _ _ => F2
              show wpAny _ _ (call (.ref 114) [.ref a, .int ((0 : Nat) : Int) _, _]) _ _ _
              refine lay_at_spec (d := d) (S := S) (lt := lt) (a := a) (vs := vs) (n := n) (pl := 0) (x := x) (rest := [(L' + 1, oC)]) o (C'.less (by omega)) F2 (cb_drop N2 (fun p hp => ?_)) ?_ ?_ (List.length_pos_iff.mpr hv) hS hx (fun g' _ hs => hc.mono hs) (fun g' _ hs => he.mono hs) ?_
              · simp only [List.mem_cons, List.not_mem_nil, or_false] at hp ⊢
                rcases hp with rfl | rfl <;> simp
              · intro q hq
                rw [List.mem_singleton.mp hq]; exact neN (by dsimp only; omega)
              · omega
              intro h8 tk8 F8 N8
              clear N2 F2
              repeat' (first | walk1 | (dsimp only; walk1))
              rw [dueR_lay (by omega) hv (fun _ => hlx)] at hQ
              rename News g L' _ _ => N10
              refine ⟨_, _, _, by assumption, cb_drop (news := [(_, listOf [vs.getD 0 .none].toArray 0), (a, listOf (layAt lt vs 0 x).toArray n)]) N10 (fun p hp => ?_), fun kF kN hs => hQ _ _ _ n kF kN ?_ (fun q hq => hs _ (.head _) q hq)⟩
              · simp only [List.mem_cons, List.not_mem_nil, or_false] at hp ⊢
                rcases hp with rfl | rfl <;> simp
              · exact neN (by omega)
        · exfalso; omega
    · by_cases hv : vs = []
      · subst hv
        repeat' (first | walk1 | (dsimp only; walk1))
        · exfalso; omega
        · unfold Stop
          rename News g L' _ _ => N1
          refine eq_nil (vs := ([] : List Value)) (PySem.IsL.isList (n := n) (N1 (a, listOf ([] : List Value).toArray n) (by simp)).1) (PySem.IsL.isList (n := 0) (N1 (_, listOf ([] : List Value).toArray 0) (.head _)).1) (by have := C'.hu; omega) ?_
          rw [decide_eq_true rfl]
          repeat' (first | walk1 | (dsimp only; walk1))
          rw [dueR_nil (by omega) hk3 rfl] at hQ
          rename News g L' _ _ => N10
          refine ⟨_, _, _, by assumption, cb_drop (news := [(_, listOf ([] : List Value).toArray 0), (a, listOf ([] : List Value).toArray n)]) N10 (fun p hp => ?_), fun kF kN hs => hQ _ _ _ n kF kN ?_ (fun q hq => hs _ (.head _) q hq)⟩
          · simp only [List.mem_cons, List.not_mem_nil, or_false] at hp ⊢
            rcases hp with rfl | rfl <;> simp
          · exact neN (by omega)
      · have hl0 : 0 < vs.length := List.length_pos_iff.mpr hv
        repeat' (first | walk1 | (dsimp only; walk1))
        · exfalso; omega
        · unfold Stop
          rename News g L' _ _ => N1
          refine eq_nil (vs := vs) (PySem.IsL.isList (n := n) (N1 (a, listOf vs.toArray n) (by simp)).1) (PySem.IsL.isList (n := 0) (N1 (_, listOf ([] : List Value).toArray 0) (.head _)).1) (by have := C'.hu; omega) ?_
          rw [decide_eq_false hv]
          repeat' (first | walk1 | (dsimp only; walk1))
          · rename (k : Int) = 2 => hki
            have hk2' : k = 2 := by omega
            unfold Stop
            rename News g L' _ _ => N3
            rename Fr g L' _ _ => F3
            have hdl : vs.dropLast.length = vs.length - 1 := List.length_dropLast
            refine pop_gen (D := a) (news' := [(a, listOf vs.dropLast.toArray (n + 1)), (L' + 1, oC)]) (ws := vs.dropLast) (y := vs.getD (vs.length - 1) .none) (n := n) F3 (cb_drop (news := [(a, listOf vs.toArray n), (L' + 1, oC)]) N3 (fun p hp => ?_)) (dropLast_last hv) ?k3 (by omega) ?_
            · simp only [List.mem_cons, List.not_mem_nil, or_false] at hp ⊢
              rcases hp with rfl | rfl <;> simp
            case k3 => k_upd
            intro h6 F6 N6
            have hSd : ∀ v ∈ vs.dropLast, S v := fun v hv => hS v (List.dropLast_subset _ hv)
            have hSy : S (vs.getD (vs.length - 1) .none) := hS _ (getD_mem (by omega))
            have hq1 := dueR_pop1 (lt := lt) (x := x) hk2' hv
            have hq2 := dueR_pop (lt := lt) (x := x) hk2' hv
            generalize hy : vs.getD (vs.length - 1) .none = y at *
            generalize hdv : vs.dropLast = dv at *
            clear N3 F3
            by_cases hd0 : dv = []
            · subst hd0
              repeat' (first | walk1 | (dsimp only; walk1))
              unfold Stop
              rename News g L' _ _ => N1
              refine eq_nil (vs := ([] : List Value)) (PySem.IsL.isList (n := (n + 1)) (N1 (a, listOf ([] : List Value).toArray (n + 1)) (by simp)).1) (PySem.IsL.isList (n := 0) (N1 (_, listOf ([] : List Value).toArray 0) (.head _)).1) (by have := C'.hu; omega) ?_
              rw [decide_eq_true rfl]
              repeat' (first | walk1 | (dsimp only; walk1))
              rw [hq1 rfl] at hQ
              rename News g L' _ _ => N10
              refine ⟨_, _, _, by assumption, cb_drop (news := [(_, listOf [y].toArray 0), (a, listOf ([] : List Value).toArray (n + 1))]) N10 (fun p hp => ?_), fun kF kN hs => hQ _ _ _ (n + 1) kF kN ?_ (fun q hq => hs _ (.head _) q hq)⟩
              · simp only [List.mem_cons, List.not_mem_nil, or_false] at hp ⊢
                rcases hp with rfl | rfl <;> simp
              · exact neN (by omega)
            · have hd1 : 0 < dv.length := List.length_pos_iff.mpr hd0
              repeat' (first | walk1 | (dsimp only; walk1))
              unfold Stop
              rename News g L' _ _ => N1
              refine eq_nil (vs := dv) (PySem.IsL.isList (n := (n + 1)) (N1 (a, listOf dv.toArray (n + 1)) (by simp)).1) (PySem.IsL.isList (n := 0) (N1 (_, listOf ([] : List Value).toArray 0) (.head _)).1) (by have := C'.hu; omega) ?_
              rw [decide_eq_false hd0]
              repeat' (first | walk1 | (dsimp only; walk1))
              unfold Stop
              rename News g L' _ _ => N2
              rename Fr g L' _ _ => F2
              show wpAny _ _ (call (.ref 114) [.ref a, .int ((0 : Nat) : Int) _, _]) _ _ _
              refine lay_at_spec (d := d) (S := S) (lt := lt) (a := a) (vs := dv) (n := (n + 1)) (pl := 0) (x := y) (rest := [(L' + 1, oC)]) o (C'.less (by omega)) F2 (cb_drop N2 (fun p hp => ?_)) ?_ ?_ (List.length_pos_iff.mpr hd0) hSd hSy (fun g' _ hs => hc.mono hs) (fun g' _ hs => he.mono hs) ?_
              · simp only [List.mem_cons, List.not_mem_nil, or_false] at hp ⊢
                rcases hp with rfl | rfl <;> simp
              · intro q hq
                rw [List.mem_singleton.mp hq]; exact neN (by dsimp only; omega)
              · omega
              intro h8 tk8 F8 N8
              clear N2 F2
              repeat' (first | walk1 | (dsimp only; walk1))
              rw [hq2 hd0] at hQ
              rename News g L' _ _ => N10
              refine ⟨_, _, _, by assumption, cb_drop (news := [(_, listOf [dv.getD 0 .none].toArray 0), (a, listOf (layAt lt dv 0 y).toArray (n + 1))]) N10 (fun p hp => ?_), fun kF kN hs => hQ _ _ _ (n + 1) kF kN ?_ (fun q hq => hs _ (.head _) q hq)⟩
              · simp only [List.mem_cons, List.not_mem_nil, or_false] at hp ⊢
                rcases hp with rfl | rfl <;> simp
              · exact neN (by omega)
          · rename (k : Int) ≠ 2 => hki
            unfold Stop
            rename News g L' _ _ => N2
            rename Fr g L' _ _ => F2
            show wpAny _ _ (call (.ref 114) [.ref a, .int ((0 : Nat) : Int) _, _]) _ _ _
            refine lay_at_spec (d := d) (S := S) (lt := lt) (a := a) (vs := vs) (n := n) (pl := 0) (x := x) (rest := [(L' + 1, oC)]) o (C'.less (by omega)) F2 (cb_drop N2 (fun p hp => ?_)) ?_ ?_ (List.length_pos_iff.mpr hv) hS hx (fun g' _ hs => hc.mono hs) (fun g' _ hs => he.mono hs) ?_
            · simp only [List.mem_cons, List.not_mem_nil, or_false] at hp ⊢
              rcases hp with rfl | rfl <;> simp
            · intro q hq
              rw [List.mem_singleton.mp hq]; exact neN (by dsimp only; omega)
            · omega
            intro h8 tk8 F8 N8
            clear N2 F2
            repeat' (first | walk1 | (dsimp only; walk1))
            rw [dueR_lay (by omega) hv (fun e => absurd e hk3)] at hQ
            rename News g L' _ _ => N10
            refine ⟨_, _, _, by assumption, cb_drop (news := [(_, listOf [vs.getD 0 .none].toArray 0), (a, listOf (layAt lt vs 0 x).toArray n)]) N10 (fun p hp => ?_), fun kF kN hs => hQ _ _ _ n kF kN ?_ (fun q hq => hs _ (.head _) q hq)⟩
            · simp only [List.mem_cons, List.not_mem_nil, or_false] at hp ⊢
              rcases hp with rfl | rfl <;> simp
            · exact neN (by omega)
theorem same_spec {prog : Program} {w : World} {A : Around} {s : Shared} {h₀ : Heap} {L : Addr} {m : Str → Option Value} {rest : List (Addr × Obj)} {p : Program} {loose : List Str} {mean : ExcName → Option Value} {mg mb : Str → Option Value} {d : Nat} {Q : Value → Shared → Prop} {E : Value → Shared → Prop} {a b : Addr} {vs : List Value} {n n2 : Nat}
    (C : At (hd09.heap_39 w.params) p loose mean mg mb A h₀ L (d + 2)) (F : Fr h₀ L s.heap m) (N : News h₀ L s.heap ((a, listOf vs.toArray n) :: (b, listOf vs.toArray n2) :: rest)) (hab : a ≠ b) (hsa : ∀ q ∈ rest, q.1 ≠ a) (hsb : ∀ q ∈ rest, q.1 ≠ b) (hlen : vs.length < 900) (hpl : ∀ v ∈ vs, IsPlain v)
    (hQ : ∀ h' tk, Fr h₀ L h' m → News h₀ L h' ((a, listOf vs.toArray n) :: (b, listOf vs.toArray n2) :: rest) → Q (.bool true) { s with heap := h', toks := tk }) :
    wpAny (model prog w) A (call (.ref 131) [.ref a, .ref b]) Q E s := by
  obtain ⟨hnd, dp, fr0, gd0, un0⟩ := A
  obtain rfl : hnd = none := C.hh
  obtain ⟨A₁, base₁, outer₁, env₁, B₁, hA₁, hf₁, hk₁⟩ := C.ex
  obtain rfl : fr0 = _ := hA₁
  w_top off
  refine' call_atC (own := [(a, listOf vs.toArray n), (b, listOf vs.toArray n2)]) (rest := rest) (binds := [(Str.ofString "one", .ref a), (Str.ofString "other", .ref b)]) C F N (fun p hp q hq e => ?hs) ?ho ?hcd ?hb ?hl ?hn ?_ ?h1 ?h2 ?h3
  case ho => k_is
  case hcd => k_is
  case hb => exact BindsTo.of_eq rfl
  case hl => exact rfl
  case hn => decide +kernel
  case h1 => rfl
  case h2 => rfl
  case h3 => rfl
  case hs =>
    simp only [List.mem_cons, List.not_mem_nil, or_false] at hp
    rcases hp with rfl | rfl
    · exact hsa q hq e.symm
    · exact hsb q hq e.symm
  intro g L' h₁ tk cells C' F' N' Y hr hst hlo
  have haL := ltN (a := a) (b := L') (hlo _ (.head _))
  have hbL := ltN (a := b) (b := L') (hlo _ (.tail _ (.head _)))
  k_cells Y
  simp only [List.cons_append, List.nil_append] at N'
  clear hsa hsb F N hr hst hlo
  have C1 := C'
  obtain ⟨⟨A₀, base, outer, env, B', hA', hf', hk'⟩, X', T', hd', hu', hh'⟩ := C1
  rename_i oC oC2 hoC hoC2
  have hoC' : oC.data = .cell (some (.ref b)) := hoC
  have hoC2' : oC2.data = .cell (some (.ref a)) := hoC2
  clear hoC hoC2
  repeat' (first | walk1 | (dsimp only; walk1))
  · exfalso; omega
  · unfold Stop
    refine LCt.ListComp_T (F₀ := F') rfl (by decide) rfl (by decide) rfl ?_
    repeat' (first | walk1 | (dsimp only; walk1))
    unfold Stop
    rename IsRange _ _ _ _ _ _ _ _ => hR
    rename Fr g L' _ _ => F3
    rename News g L' _ _ => N3
    refine LCt.CompSrcT.range (n := vs.length) rfl F3 N3 hR (small_one (by omega) (by omega) (by omega) (by omega)) (by rw [rangeSize_nat]; congr 1) (by simp only [sizeLine]; omega) ?_
    intro g6
    refine comp_restT (fun i ys news => news = [(L' + 1 + 1, oC), (L' + 1, oC2), (a, listOf vs.toArray n), (b, listOf vs.toArray n2)] ∧ ys = []) ⟨rfl, rfl⟩ ?_ ?_
    · rintro i v I oI C oC' D m₂ ys news h7 tk7 E' hi ⟨t7, rfl⟩ ⟨rfl, rfl⟩ hC hx7 F7 N7 off ne
      have e0 : (0 : Int) + (i : Int) = (i : Int) := by omega
      rw [e0] at hx7
      have hvp := hpl _ (getD_mem hi)
      clear F3 N3 hR
      repeat' (first | walk1 | (dsimp only; walk1))
      unfold Stop
      refine isnot_same hvp ?_
      repeat' (first | walk1 | (dsimp only; walk1))
      exact ⟨_, _, _, rfl, F7, N7, off, trivial, rfl, trivial⟩
    · rintro ys news ⟨rfl, rfl⟩ D h7 tk7 F7 N7 off
      clear F3 N3 hR
      dsimp only
      repeat' (first | walk1 | (dsimp only; walk1))
      unfold Stop
      rename Fr g L' _ _ => F9
      rename News g L' _ _ => N9
      refine eq_nil (vs := []) (PySem.IsL.isList (n := 0) (N9 (D, listOf ([] : List Value).toArray 0) (.tail _ (.head _))).1) (PySem.IsL.isList (n := 0) (N9 (_, listOf ([] : List Value).toArray 0) (.head _)).1) (by have := C'.hu; omega) ?_
      refine ⟨_, _, [(a, listOf vs.toArray n), (b, listOf vs.toArray n2)], F9, cb_drop N9 (fun p hp => ?_), fun kF kN _ => hQ _ _ kF kN⟩
      simp only [List.mem_cons, List.not_mem_nil, or_false] at hp ⊢
      rcases hp with rfl | rfl <;> simp
theorem heappop_raises {prog : Program} {w : World} {A : Around} {s : Shared} {h₀ : Heap} {L : Addr} {m : Str → Option Value} {rest : List (Addr × Obj)} {p : Program} {loose : List Str} {mean : ExcName → Option Value} {mg mb : Str → Option Value} {d : Nat} {Q : Value → Shared → Prop} {E : Value → Shared → Prop} {A₀ : Around} {base : Heap} {outer : List Env} {env : Env} {a : Addr} {n : Nat}
    (C : At (hd09.heap_39 w.params) p loose mean mg mb A h₀ L (d + 3)) (F : Fr h₀ L s.heap m) (B : Below A₀ base outer h₀) (hA : A.frames = some (env :: outer)) (hf : env.frame = some L) (hke : env.scope.kind = .function) (N : News h₀ L s.heap ((a, listOf ([] : List Value).toArray n) :: rest)) (hsep : ∀ q ∈ rest, q.1 ≠ a)
    (hE : ∀ G h' tk e, Fr h₀ L G m → (∀ q ∈ rest, G.get? q.1 = some q.2) → RaisedSN base G (env :: outer) e (.type "IndexError") [(a, listOf ([] : List Value).toArray n)] h' → G.UpToSlots h' → E (.ref e) { s with heap := h', toks := tk }) :
    wpAny (model prog w) A (call (.ref 28) [.ref a]) Q E s := by
  obtain ⟨hnd, dp, fr0, gd0, un0⟩ := A
  obtain rfl : hnd = none := C.hh
  obtain rfl : fr0 = _ := hA
  w_top off
  w_top off
  refine' call_atB (own := [(a, listOf ([] : List Value).toArray n)]) (rest := rest) (binds := [(Str.ofString "heap", .ref a)]) C B rfl hf hke F N (fun p hp q hq e => ?hs) ?ho ?hcd ?hb ?hl ?_ ?h1 ?h2 ?h3 ?h4
  case ho => k_is
  case hcd => k_is
  case hb => exact BindsTo.of_eq rfl
  case hl => exact locs rfl
  case h1 => rfl
  case h2 => rfl
  case h3 => rfl
  case h4 => decide
  case hs =>
    obtain rfl := List.mem_singleton.mp hp
    exact hsep q hq e.symm
  intro g L' h₁ C' FG BG F' N' hr hst
  clear hsep F N hst B
  have C1 := C'
  obtain ⟨⟨A₉, base₉, outer₉, env₉, B', hA', hf', hk'⟩, X', T', hd', hu', hh'⟩ := C1
  repeat' (first | walk1 | (dsimp only; walk1))
  unfold Stop
  refine pop_empty rfl (N' _ (.head _)).1 ?_
  intro h2 tk2 e hx
  refine leave_newS BG hx F' N' ?_
  intro h3 R _ hup
  exact hE g h3 _ e FG hr R hup
local macro_rules | `(tactic| walk_at "leaving ref") => `(tactic| refine Stop.mk ?_)
theorem heapreplace_raises {prog : Program} {w : World} {A : Around} {s : Shared} {h₀ : Heap} {L : Addr} {m : Str → Option Value} {rest : List (Addr × Obj)} {p : Program} {loose : List Str} {mean : ExcName → Option Value} {mg mb : Str → Option Value} {d : Nat} {Q : Value → Shared → Prop} {E : Value → Shared → Prop} {A₀ : Around} {base : Heap} {outer : List Env} {env : Env} {a : Addr} {n : Nat} {x : Value}
    (C : At (hd09.heap_39 w.params) p loose mean mg mb A h₀ L (d + 3)) (F : Fr h₀ L s.heap m) (B : Below A₀ base outer h₀) (hA : A.frames = some (env :: outer)) (hf : env.frame = some L) (hke : env.scope.kind = .function) (N : News h₀ L s.heap ((a, listOf ([] : List Value).toArray n) :: rest)) (hsep : ∀ q ∈ rest, q.1 ≠ a)
    (hE : ∀ G h' tk e, Fr h₀ L G m → (∀ q ∈ rest, G.get? q.1 = some q.2) → RaisedSN base G (env :: outer) e (.type "IndexError") [(a, listOf ([] : List Value).toArray n)] h' → G.UpToSlots h' → E (.ref e) { s with heap := h', toks := tk }) :
    wpAny (model prog w) A (call (.ref 35) [.ref a, x]) Q E s := by
  obtain ⟨hnd, dp, fr0, gd0, un0⟩ := A
  obtain rfl : hnd = none := C.hh
  obtain rfl : fr0 = _ := hA
  w_top off
  w_top off
  refine' call_atB (own := [(a, listOf ([] : List Value).toArray n)]) (rest := rest) (binds := [(Str.ofString "heap", .ref a), (Str.ofString "item", x)]) C B rfl hf hke F N (fun p hp q hq e => ?hs) ?ho ?hcd ?hb ?hl ?_ ?h1 ?h2 ?h3 ?h4
  case ho => k_is
  case hcd => k_is
  case hb => exact BindsTo.of_eq rfl
  case hl => exact locs rfl
  case h1 => rfl
  case h2 => rfl
  case h3 => rfl
  case h4 => decide
  case hs =>
    obtain rfl := List.mem_singleton.mp hp
    exact hsep q hq e.symm
  intro g L' h₁ C' FG BG F' N' hr hst
  clear hsep F N hst B
  have C1 := C'
  obtain ⟨⟨A₉, base₉, outer₉, env₉, B', hA', hf', hk'⟩, X', T', hd', hu', hh'⟩ := C1
  repeat' (first | walk1 | (dsimp only; walk1))
  unfold Stop
  rename Heap.NewExc _ _ _ _ => hx
  refine leave_newS BG hx F' N' ?_
  intro h3 R _ hup
  exact hE g h3 _ _ FG hr R hup
theorem told_spec {prog : Program} {w : World} {A : Around} {s : Shared} {h₀ : Heap} {L : Addr} {m : Str → Option Value} {rest : List (Addr × Obj)} {p : Program} {loose : List Str} {mean : ExcName → Option Value} {mg mb : Str → Option Value} {d : Nat} {Q : Value → Shared → Prop} {E : Value → Shared → Prop} {S : Value → Prop} {lt : Value → Value → Bool} {a : Addr} {vs : List Value} {n : Nat} {A₀ : Around} {base : Heap} {env : Env} {k : Nat} {tc : Tok} {x : Value}
    (C : At (hd09.heap_39 w.params) p loose mean mg mb A h₀ L (d + 12)) (F : Fr h₀ L s.heap m) (B : Below A₀ base [] h₀) (XB : Frag.In (hd09.heap_39 w.params) base) (TB : Top p loose mean mg mb base) (hA : A.frames = some [env]) (hf : env.frame = some L) (hke : env.scope.kind = .function) (N : News h₀ L s.heap ((a, listOf vs.toArray n) :: rest)) (hsep : ∀ q ∈ rest, q.1 ≠ a) (hlen : vs.length < 800) (hk : k < 5) (hS : ∀ v ∈ vs, S v) (hx : S x) (hcmp : ∀ g : Heap, (∀ q ∈ rest, g.get? q.1 = some q.2) → h₀.StaysIn g → Cmp prog w g S lt)
    (hQ : ∀ h' tk b n', Fr h₀ L h' m → News h₀ L h' ((b, listOf (toldR lt vs k x).1.toArray 0) :: (a, listOf (toldR lt vs k x).2.toArray n') :: rest) → b ≠ a → (∀ q ∈ rest, b ≠ q.1) → Q (.ref b) { s with heap := h', toks := tk }) :
    wpAny (model prog w) A (call (.ref 126) [.ref a, .int k tc, x]) Q E s := by
  obtain ⟨hnd, dp, fr0, gd0, un0⟩ := A
  obtain rfl : hnd = none := C.hh
  obtain rfl : fr0 = _ := hA
  w_top off
  w_top off
  refine' call_atT (own := [(a, listOf vs.toArray n)]) (rest := rest) (binds := [(Str.ofString "heap", .ref a), (Str.ofString "call", .int k tc), (Str.ofString "item", x)]) C B rfl hf hke F N (fun p hp q hq e => ?hs) ?ho ?hcd ?hb ?hl ?_ ?h1 ?h2 ?h3 ?h4
  case ho => k_is
  case hcd => k_is
  case hb => exact BindsTo.of_eq rfl
  case hl => exact locs rfl
  case h1 => rfl
  case h2 => rfl
  case h3 => rfl
  case h4 => decide
  case hs =>
    obtain rfl := List.mem_singleton.mp hp
    exact hsep q hq e.symm
  intro g L' h₁ C' BG D F' N' hr hst
  have hc := hcmp g hr hst
  clear hcmp hsep F N hst B
  have C1 := C'
  obtain ⟨⟨A₉, base₉, outer₉, env₉, B', hA', hf', hk'⟩, X', T', hd', hu', hh'⟩ := C1
  by_cases hk2 : k < 2
  · rw [toldR_push hk2] at hQ
    repeat' (first | walk1 | (dsimp only; walk1))
    unfold Stop
    refine heappush_spec (d := d) (S := S) (lt := lt) (a := a) (n := n) (rest := []) (vs := vs) (C'.less (by omega)) F' N' (fun q hq => nomatch hq) (by omega) hS hx (fun g' _ hs => hc.mono hs) ?_
    intro h2 tk2 F2 N2
    clear N'
    repeat' (first | walk1 | (dsimp only; walk1))
    rename News g L' _ _ => N10
    refine ⟨g, _, _, [(_, listOf [Value.none].toArray 0), (a, listOf (hpush lt vs x).toArray (n + 1))], KtsTurn.refl, by assumption, N10, fun kF kN hs => hQ _ _ _ (n + 1) kF kN ?_ (fun q hq => hs _ (.head _) q hq)⟩
    exact neN (by omega)
  · by_cases hv : vs = []
    · subst hv
      repeat' (first | walk1 | (dsimp only; walk1))
      · rw [toldR_pop0 (by omega) rfl] at hQ
        unfold Stop
        refine heappop_raises (d := d) (a := a) (n := n) (rest := []) (C'.less (by omega)) F' BG rfl rfl rfl N' (fun q hq => nomatch hq) ?_
        intro G h2 tk2 e FG _ R hup
        refine' caught_SN0 (T' := "IndexError") R FG BG hup XB TB D KtsTurn.refl ?ex PyProof.Rows.Boot.«IndexError» ?hn PySem.F.isExc_IndexError PySem.F.notTuple_IndexError ?hsb ?_
        case ex => k_is
        case hn => decide
        case hsb => kts_sub
        intro h3 g' T3 F3 N3 K3 X3 P3 D3
        clear N' F' D BG
        repeat' (first | walk1 | (dsimp only; walk1))
        rename News g' L' _ _ => N10
        refine ⟨g', _, _, [(_, listOf ([] : List Value).toArray 0), (a, listOf ([] : List Value).toArray n)], T3, by assumption, N10, fun kF kN hs => hQ _ _ _ n kF kN ?_ (fun q hq => hs _ (.head _) q hq)⟩
        exact neN (by omega)
      · have hk3' : k = 3 := by omega
        rw [toldR_pp hk3'] at hQ
        unfold Stop
        refine heappushpop_spec (d := d) (S := S) (lt := lt) (a := a) (n := n) (rest := []) (vs := ([] : List Value)) (C'.less (by omega)) F' N' (fun q hq => nomatch hq) (by simp) hS hx (fun g' _ hs => hc.mono hs) ?_
        intro h2 tk2 F2 N2
        clear N'
        repeat' (first | walk1 | (dsimp only; walk1))
        rename News g L' _ _ => N10
        refine ⟨g, _, _, [(_, listOf [(hppop lt ([] : List Value) x).1].toArray 0), (a, listOf (hppop lt ([] : List Value) x).2.toArray n)], KtsTurn.refl, by assumption, N10, fun kF kN hs => hQ _ _ _ n kF kN ?_ (fun q hq => hs _ (.head _) q hq)⟩
        exact neN (by omega)
      · rw [toldR_rep0 (by omega) rfl] at hQ
        unfold Stop
        refine heapreplace_raises (d := d) (a := a) (n := n) (rest := []) (C'.less (by omega)) F' BG rfl rfl rfl N' (fun q hq => nomatch hq) ?_
        intro G h2 tk2 e FG _ R hup
        refine' caught_SN0 (T' := "IndexError") R FG BG hup XB TB D KtsTurn.refl ?ex PyProof.Rows.Boot.«IndexError» ?hn PySem.F.isExc_IndexError PySem.F.notTuple_IndexError ?hsb ?_
        case ex => k_is
        case hn => decide
        case hsb => kts_sub
        intro h3 g' T3 F3 N3 K3 X3 P3 D3
        clear N' F' D BG
        repeat' (first | walk1 | (dsimp only; walk1))
        rename News g' L' _ _ => N10
        refine ⟨g', _, _, [(_, listOf ([] : List Value).toArray 0), (a, listOf ([] : List Value).toArray n)], T3, by assumption, N10, fun kF kN hs => hQ _ _ _ n kF kN ?_ (fun q hq => hs _ (.head _) q hq)⟩
        exact neN (by omega)
    · repeat' (first | walk1 | (dsimp only; walk1))
      · rw [toldR_pop (by omega) hv] at hQ
        unfold Stop
        refine heappop_spec (d := d) (S := S) (lt := lt) (a := a) (n := n) (rest := []) (vs := vs) (ws := vs.dropLast) (y := vs.getD (vs.length - 1) .none) (dropLast_last hv) (C'.less (by omega)) F' N' (fun q hq => nomatch hq) (by omega) hS (fun g' _ hs => hc.mono hs) ?_
        intro h2 tk2 F2 N2
        clear N'
        repeat' (first | walk1 | (dsimp only; walk1))
        rename News g L' _ _ => N10
        refine ⟨g, _, _, [(_, listOf [(hpop lt vs.dropLast (vs.getD (vs.length - 1) .none)).1].toArray 0), (a, listOf (hpop lt vs.dropLast (vs.getD (vs.length - 1) .none)).2.toArray (n + 1))], KtsTurn.refl, by assumption, N10, fun kF kN hs => hQ _ _ _ (n + 1) kF kN ?_ (fun q hq => hs _ (.head _) q hq)⟩
        exact neN (by omega)
      · have hk3' : k = 3 := by omega
        rw [toldR_pp hk3'] at hQ
        unfold Stop
        refine heappushpop_spec (d := d) (S := S) (lt := lt) (a := a) (n := n) (rest := []) (vs := vs) (C'.less (by omega)) F' N' (fun q hq => nomatch hq) (by omega) hS hx (fun g' _ hs => hc.mono hs) ?_
        intro h2 tk2 F2 N2
        clear N'
        repeat' (first | walk1 | (dsimp only; walk1))
        rename News g L' _ _ => N10
        refine ⟨g, _, _, [(_, listOf [(hppop lt vs x).1].toArray 0), (a, listOf (hppop lt vs x).2.toArray n)], KtsTurn.refl, by assumption, N10, fun kF kN hs => hQ _ _ _ n kF kN ?_ (fun q hq => hs _ (.head _) q hq)⟩
        exact neN (by omega)
      · rw [toldR_rep (by omega) hv] at hQ
        unfold Stop
        refine heapreplace_spec (d := d) (S := S) (lt := lt) (a := a) (n := n) (rest := []) (vs := vs) (C'.less (by omega)) F' N' (fun q hq => nomatch hq) (by omega) (List.length_pos_iff.mpr hv) hS hx (fun g' _ hs => hc.mono hs) ?_
        intro h2 tk2 F2 N2
        clear N'
        repeat' (first | walk1 | (dsimp only; walk1))
        rename News g L' _ _ => N10
        refine ⟨g, _, _, [(_, listOf [(hrep lt vs x).1].toArray 0), (a, listOf (hrep lt vs x).2.toArray n)], KtsTurn.refl, by assumption, N10, fun kF kN hs => hQ _ _ _ n kF kN ?_ (fun q hq => hs _ (.head _) q hq)⟩
        exact neN (by omega)
/-- an item's key, by the heap -/
def keyH (g : Heap) (v : Value) : Int :=
  match v with
  | .ref b => match g.get? b with
    | some o => match o.data with
      | .seq its _ => ival (its.getD 0 .none)
      | _ => 0
    | none => 0
  | _ => 0
def ltH (g : Heap) (x y : Value) : Bool := decide (keyH g x < keyH g y)
theorem wo_H (g : Heap) : WO (ltH g) := ⟨fun x y h => by simp only [ltH, decide_eq_true_eq, decide_eq_false_iff_not] at *; omega, fun x y z h1 h2 => by simp only [ltH, decide_eq_false_iff_not] at *; omega⟩
def IsIt (its : List (Addr × Obj)) (v : Value) : Prop := ∃ b i t, v = .ref b ∧ (b, listOf ([Value.int i t] : List Value).toArray 0) ∈ its
theorem IsIt.plain {its : List (Addr × Obj)} {v : Value} (h : IsIt its v) : IsPlain v := by
  obtain ⟨b, _, _, rfl, _⟩ := h; exact .inr ⟨b, rfl⟩
theorem key_it {h : Heap} {b : Addr} {i : Int} {t : Tok} (e : h.get? b = some (listOf ([Value.int i t] : List Value).toArray 0)) : keyH h (.ref b) = i := by
  simp only [keyH, e]; rfl
theorem cmp_it {prog : Program} {w : World} {h g : Heap} {its : List (Addr × Obj)} (h1 : ∀ q ∈ its, h.get? q.1 = some q.2) (h2 : ∀ q ∈ its, g.get? q.1 = some q.2) : Cmp prog w g (IsIt its) (ltH h) := by
  rintro _ _ ⟨a, i, t, rfl, ha⟩ ⟨b, j, u, rfl, hb⟩ A s Q E hu hk hq
  have e : ltH h (.ref a) (.ref b) = decide (i < j) := by rw [ltH, key_it (h1 _ ha), key_it (h1 _ hb)]
  rw [e] at hq
  exact lt_list1 (hk _ _ (h2 _ ha)) (hk _ _ (h2 _ hb)) hu (hq s.toks)
theorem eq_it {prog : Program} {w : World} {h g : Heap} {its : List (Addr × Obj)} (h1 : ∀ q ∈ its, h.get? q.1 = some q.2) (h2 : ∀ q ∈ its, g.get? q.1 = some q.2) : EqC prog w g (IsIt its) (ltH h) := by
  rintro _ _ ⟨a, i, t, rfl, ha⟩ ⟨b, j, u, rfl, hb⟩ A s Q E hu hk hq
  have e : (!ltH h (.ref a) (.ref b) && !ltH h (.ref b) (.ref a)) = decide ([i] = [j]) := by
    rw [ltH, ltH, key_it (h1 _ ha), key_it (h1 _ hb)]
    by_cases hij : i = j
    · subst hij; simp
    · simp [hij]; omega
  rw [e] at hq
  exact eq_intsK (PySem.IsL.isList (n := 0) (hk _ _ (h2 _ ha))) (.cons _ _ .nil) (PySem.IsL.isList (n := 0) (hk _ _ (h2 _ hb))) (.cons _ _ .nil) (by omega) (hq s.toks)
theorem toldR_row {lt : Value → Value → Bool} {vs : List Value} {k : Nat} {x : Value} : (toldR lt vs k x).2.length ≤ vs.length + 1 ∧ ∀ v ∈ (toldR lt vs k x).2, v = x ∨ v ∈ vs := by
  have nil : ([] : List Value).length ≤ vs.length + 1 ∧ ∀ v ∈ ([] : List Value), v = x ∨ v ∈ vs := ⟨by simp, fun v hv => nomatch hv⟩
  by_cases hk : k < 2
  · rw [toldR_push hk]
    exact ⟨by rw [hpush_perm.length_eq]; simp, fun v hv => List.mem_cons.mp (hpush_perm.mem_iff.mp hv)⟩
  by_cases h2 : k = 2
  · by_cases hv : vs = []
    · rw [toldR_pop0 h2 hv]; exact nil
    · rw [toldR_pop h2 hv]
      have hp := hpop_perm (lt := lt) (ws := vs.dropLast) (y := vs.getD (vs.length - 1) .none)
      rw [← dropLast_last hv] at hp
      refine ⟨?_, fun v hv => .inr (hp.mem_iff.mp (.tail _ hv))⟩
      have := hp.length_eq
      rw [List.length_cons] at this
      dsimp only
      omega
  by_cases h3 : k = 3
  · rw [toldR_pp h3]
    have hp := hppop_perm (lt := lt) (vs := vs) (x := x)
    refine ⟨?_, fun v hv => List.mem_cons.mp (hp.mem_iff.mp (.tail _ hv))⟩
    have := hp.length_eq
    simp only [List.length_cons] at this
    dsimp only
    omega
  by_cases hv : vs = []
  · rw [toldR_rep0 (by omega) hv]; exact nil
  · rw [toldR_rep (by omega) hv, hrep]
    have hl := List.length_pos_iff.mpr hv
    have hp := sup_perm (lt := lt) (pos := 0) (vs := vs.set 0 x) (by rw [List.length_set]; exact hl)
    refine ⟨by dsimp only; rw [hp.length_eq, List.length_set]; omega, fun v hv => ?_⟩
    rcases List.mem_or_eq_of_mem_set (hp.mem_iff.mp hv) with h | h
    · exact .inr h
    · exact .inl h
theorem toldR_told {lt : Value → Value → Bool} {vs : List Value} {k : Nat} {x : Value} : (toldR lt vs k x).1.length ≤ 1 ∧ ∀ v ∈ (toldR lt vs k x).1, v = .none ∨ v = x ∨ v ∈ vs := by
  have nil : ([] : List Value).length ≤ 1 ∧ ∀ v ∈ ([] : List Value), v = .none ∨ v = x ∨ v ∈ vs := ⟨by simp, fun v hv => nomatch hv⟩
  by_cases hk : k < 2
  · rw [toldR_push hk]
    exact ⟨Nat.le_refl _, fun v hv => .inl (List.mem_singleton.mp hv)⟩
  by_cases h2 : k = 2
  · by_cases hv : vs = []
    · rw [toldR_pop0 h2 hv]; exact nil
    · rw [toldR_pop h2 hv]
      have hp := hpop_perm (lt := lt) (ws := vs.dropLast) (y := vs.getD (vs.length - 1) .none)
      rw [← dropLast_last hv] at hp
      exact ⟨Nat.le_refl _, fun v hv => .inr (.inr (hp.mem_iff.mp ((List.mem_singleton.mp hv) ▸ .head _)))⟩
  by_cases h3 : k = 3
  · rw [toldR_pp h3]
    have hp := hppop_perm (lt := lt) (vs := vs) (x := x)
    exact ⟨Nat.le_refl _, fun v hv => .inr (List.mem_cons.mp (hp.mem_iff.mp ((List.mem_singleton.mp hv) ▸ .head _)))⟩
  by_cases hv : vs = []
  · rw [toldR_rep0 (by omega) hv]; exact nil
  · rw [toldR_rep (by omega) hv, hrep]
    exact ⟨Nat.le_refl _, fun v h => .inr (.inr ((List.mem_singleton.mp h) ▸ getD_mem (List.length_pos_iff.mpr hv)))⟩
theorem allLt_mem {D : Addr} : ∀ {its : List (Addr × Obj)}, AllLt D its → ∀ q ∈ its, @LT.lt Nat _ q.1 D
  | [], _, _, hq => nomatch hq
  | _ :: _, h, q, hq => by
    rcases List.mem_cons.mp hq with rfl | hq
    · exact h.1
    · exact allLt_mem h.2 q hq
theorem hfyFrom_perm {lt : Value → Value → Bool} : ∀ (k : Nat) (vs : List Value), k ≤ vs.length → (hfyFrom lt k vs).Perm vs
  | 0, _, _ => .refl _
  | k + 1, vs, h => by
    rw [hfyFrom]
    have e := sup_perm (lt := lt) (pos := k) (vs := vs) (by omega)
    exact (hfyFrom_perm k _ (by rw [e.length_eq]; omega)).trans e
theorem hfy_perm {lt : Value → Value → Bool} (vs : List Value) : (hfy lt vs).Perm vs := hfyFrom_perm _ _ (by omega)
theorem hfy_len {lt : Value → Value → Bool} (vs : List Value) : (hfy lt vs).length = vs.length := (hfy_perm vs).length_eq
theorem hfy_mem {lt : Value → Value → Bool} {S : Value → Prop} {vs : List Value} (h : ∀ v ∈ vs, S v) : ∀ v ∈ hfy lt vs, S v := fun v hv => h v ((hfy_perm vs).mem_iff.mp hv)
theorem layAt_mem {lt : Value → Value → Bool} {S : Value → Prop} {vs : List Value} {k : Nat} (h : ∀ v ∈ vs, S v) (hk : k < vs.length) : ∀ v ∈ layAt lt vs k (vs.getD k .none), S v := by
  have hx : S (vs.getD k .none) := h _ (getD_mem hk)
  refine lay_mem _ _ _ h (insR_mem (fun v hv => ?_) hx)
  rw [lineP] at hv
  obtain ⟨q, hq, rfl⟩ := List.mem_map.mp hv
  exact h _ (getD_mem (downP_lt (lt := lt) k hk q (List.mem_of_mem_tail hq)))
theorem law09 : PySem.Challenge.rw_dn0041_09.Holds := hd09 (by
  k_fill
  intro w s₀ s₁ mg mb G Y fa o pm cd doc dV kV ho hd hcd hD hmg hg args vals as hpre hlay hrd hwl hlo
  have KX := kIn_of Y
  k_behind G ho hd hcd hD hmg hpre hlay hrd hwl hlo cd
  rename Top _ _ _ _ _ _ => T
  rename_i ns0 hs0 hlay0 hL0 hr2 hl2 as3 as2 la vs0 as1 hLs ra w1 r0 hI hr3 hc1 hc2 K0 h₁ tk₁ F oc hoc N0 X0
  have K0' : Below callerA s₁.heap [] s₁.heap := K0
  have C0 := at_law (L := s₁.heap.objs.size) K0' KX T
  refine wpAny_execs_cons ?_
  refine wp_cut (fun f s' => Stop (IsNext f ∧ ∃ (h' : Heap) (tk : Nat) (u : Str → Option Value) (o' : Obj) (hdv : Int) (t : Tok), s' = { s₁ with heap := h', toks := tk } ∧
      Fr s₁.heap s₁.heap.objs.size h' (kstB u [(Str.ofString "script", .ref la)]) ∧ News s₁.heap s₁.heap.objs.size h' [(s₁.heap.objs.size + 1, o')] ∧ o'.data = .cell (some (.int hdv t)))) ?_ ?_
  · by_cases hne : ns0 = []
    · repeat' (first | walk1 | (dsimp only; walk1))
      · unfold Stop
        rename News _ _ _ _ => N1
        rename Fr _ _ _ _ => F1
        exact ⟨rfl, _, _, _, _, _, _, rfl, fr_kst F1 (by kst_all), cb_drop N1 (fun p hp => .tail _ hp), by assumption⟩
    · have hpos : 0 < ns0.length := List.length_pos_iff.mpr hne
      repeat' (first | walk1 | (dsimp only; walk1))
      unfold Stop
      rename News _ _ _ _ => N1
      rename Fr _ _ _ _ => F1
      exact ⟨rfl, _, _, _, _, _, _, rfl, fr_kst F1 (by kst_all), cb_drop N1 (fun p hp => .tail _ hp), by assumption⟩
  · rintro f s' ⟨rfl, h2, tk2, u, o2, hdv, t, rfl, F2, N2, ho2⟩
    dsimp only [kstB] at F2
    dsimp only
    all_goals try k_fold
    repeat' (first | walk1 | (dsimp only; walk1))
    unfold Stop
    refine LCg.Assign_ListComp_U (F₀ := F2) rfl (by with_unfolding_all rfl) rfl (by decide) rfl (by decide) rfl rfl rfl ?_
    repeat' (first | walk1 | (dsimp only; walk1))
    unfold Stop
    have hvl : vs0.length ≤ 63 := by have := hI.length; omega
    refine slice_gen (zs := vs0.drop 1) F2 N2 (F2.lst (by assumption)) (IsPart.int _ _) IsPart.none (pick_from vs0 1) ?_ (by with_unfolding_all rfl) (by simp; omega)
    intro D1 h4 F4 N4 l4
    have l4a := ltN (l4 _ (.head _))
    dsimp only at l4a
    clear l4
    refine LCg.CompSrc.ledger (k := 0) (its := (vs0.drop 1).toArray) rfl F4 N4 (.head _) (by simp [sizeLine]; omega) ?_
    intro g6
    refine comp_rest (fun i ys news => ∃ its : List (Addr × Obj), news = (D1, listOf (vs0.drop 1).toArray 0) :: (s₁.heap.objs.size + 1, o2) :: its ∧ (∀ v ∈ ys, IsIt its v) ∧ ys.length = i) ⟨[], rfl, (fun v hv => nomatch hv), rfl⟩ ?_ ?_
    · rintro i v I oI C oC D m₂ ys news h7 tk7 E' hi hv ⟨its, rfl, hys, hyl⟩ hC hx F7 N7 off ne
      have hv2 : (vs0.drop 1)[i]? = some v := by simpa using hv
      have hIv : IsInt v := isInt_of hI v (List.mem_of_mem_drop (List.mem_of_getElem? hv2))
      obtain ⟨c, tc, rfl⟩ := hIv
      repeat' (first | walk1 | (dsimp only; walk1))
      unfold Stop
      refine item_spec (d := 0) ((C0 _ rfl rfl).less (by omega)) F7 N7 (fmod_lo _ (by decide)) ?_
      intro h8 tk8 b bi bt F8 N8 hb
      have hbI := hb _ (.head _)
      have hbC := hb _ (.tail _ (.head _))
      have hbD := hb _ (.tail _ (.tail _ (.head _)))
      refine ⟨_, _, (D1, listOf (vs0.drop 1).toArray 0) :: (s₁.heap.objs.size + 1, o2) :: (b, listOf ([Value.int bi bt] : List Value).toArray 0) :: its, rfl, F8, cb_drop N8 (fun p hp => ?_), ⟨off.1, off.2.1, ⟨hbI, hbC, hbD⟩, off.2.2⟩, .inr ⟨_, .head _, rfl, _, rfl⟩, (b, listOf ([Value.int bi bt] : List Value).toArray 0) :: its, rfl, fun v hv => ?_, ?_⟩
      · simp only [List.mem_cons] at hp ⊢
        rcases hp with h | h | h | h | h | h | h <;> simp [h]
      · rcases List.mem_append.mp hv with hv | hv
        · obtain ⟨b', i', t', e, hm⟩ := hys v hv
          exact ⟨b', i', t', e, .tail _ hm⟩
        · exact ⟨b, bi, bt, List.mem_singleton.mp hv, .head _⟩
      · rw [List.length_append, hyl]; rfl
    · rintro ys news ⟨its, rfl, hys, hyl⟩ D h7 tk7 F7 N7 off
      dsimp only at F7
      repeat' (first | walk1 | (dsimp only; walk1))
      unfold Stop
      have hyl2 : ys.length ≤ 62 := by rw [hyl]; simp; omega
      have hmd0 := fmod_lo hdv (n := 64) (by decide)
      have hmd1 := fmod_hi hdv (n := 64) (by decide)
      obtain ⟨md, hmd⟩ : ∃ md : Nat, Int.fmod hdv 64 = (md : Int) := ⟨(Int.fmod hdv 64).toNat, by omega⟩
      rename Fr s₁.heap s₁.heap.objs.size _ _ => F8
      rename News s₁.heap s₁.heap.objs.size _ _ => N8
      clear N0 F N2 F2 N4 F4
      refine slice_gen (zs := ys.take md) F8 N8 (PySem.IsL.isList (n := ys.length) (N8 (D, listOf ys.toArray ys.length) (by simp [LCg.lst, W.listOf])).1) IsPart.none (IsPart.int _ _) (by rw [hmd]; exact pick_upto ys md) ?_ (by with_unfolding_all rfl) (by simp; omega)
      intro hpA h8 F9 N9 l9
      have l9b : ∀ q ∈ its, @LT.lt Nat _ q.1 hpA := fun q hq => l9 q (.tail _ (.tail _ (.tail _ hq)))
      have l9a := ltN (l9 _ (.head _))
      have l9c := ltN (l9 _ (.tail _ (.tail _ (.head _))))
      dsimp only at l9a l9c
      replace N9 : News s₁.heap s₁.heap.objs.size h8 ((hpA, listOf (ys.take md).toArray 0) :: (D, listOf ys.toArray ys.length) :: (s₁.heap.objs.size + 1, o2) :: its) := cb_drop N9 (fun p hp => by
        simp only [List.mem_cons] at hp ⊢
        rcases hp with h | h | h | h <;> simp [h, LCg.lst, W.listOf])
      clear N8 F8 l9 off
      repeat' (first | walk1 | (dsimp only; walk1))
      unfold Stop
      rename_i rwA cR hx9 l10 hx10 F10 N10
      have hrh := ltN l10.1
      have hrD := ltN l10.2.1
      have hrC := ltN l10.2.2.1
      have hrI := allLt_mem l10.2.2.2
      clear l10
      obtain ⟨hK, hKe⟩ : ∃ hK, hK = hx10 := ⟨_, rfl⟩
      have hkey : ∀ q ∈ its, hK.get? q.1 = some q.2 := fun q hq => hKe ▸ (N10 q (.tail _ (.tail _ (.tail _ (.tail _ hq))))).1
      have hcm : ∀ g : Heap, (∀ q ∈ its, g.get? q.1 = some q.2) → Cmp PySem.Challenge.rw_dn0041_09.row.prog w g (IsIt its) (ltH hK) := fun g hg => cmp_it hkey hg
      have hem : ∀ g : Heap, (∀ q ∈ its, g.get? q.1 = some q.2) → EqC PySem.Challenge.rw_dn0041_09.row.prog w g (IsIt its) (ltH hK) := fun g hg => eq_it hkey hg
      have oK := wo_H hK
      generalize ltH hK = lt at hcm hem oK
      clear hkey hKe
      have hS1 : ∀ v ∈ ys.take md, IsIt its v := fun v hv => hys v (List.mem_of_mem_take hv)
      have hl1 : (ys.take md).length ≤ 62 := by simp; omega
      have hhp := hfy_row oK (vs := ys.take md)
      have hhS := hfy_mem (lt := lt) hS1
      have hhl := hfy_len (lt := lt) (ys.take md)
      generalize ys.take md = zs at *
      refine heapify_spec (d := 0) (S := IsIt its) (lt := lt) (a := hpA) (vs := zs) (n := 0) (rest := (rwA, listOf zs.toArray cR) :: (D, listOf ys.toArray ys.length) :: (s₁.heap.objs.size + 1, o2) :: its) ((C0 _ rfl rfl).less (by omega)) F10 (cb_drop N10 (fun p hp => ?_)) (fun q hq => ?_) (by omega) hS1 (fun g' hr _ => hcm g' fun q hq => hr q (.tail _ (.tail _ (.tail _ hq)))) ?_
      · simp only [List.mem_cons] at hp ⊢
        rcases hp with h | h | h | h | h <;> simp [h]
      · simp only [List.mem_cons] at hq
        rcases hq with rfl | rfl | rfl | hq
        · exact neN (by dsimp only; omega)
        · exact neN (by dsimp only; omega)
        · exact neN (by dsimp only; omega)
        · have := l9b q hq; exact neN (by omega)
      intro h11 tk11 F11 N11
      clear N10 F10
      repeat' (first | walk1 | (dsimp only; walk1))
      unfold Stop
      refine For_invV s₁.heap rfl rfl ?_
      repeat' (first | walk1 | (dsimp only; walk1))
      unfold Stop
      rename IsRange _ _ _ _ _ _ _ _ => hR1
      rename Fr s₁.heap s₁.heap.objs.size _ _ => F12
      rename News s₁.heap s₁.heap.objs.size _ _ => N12
      refine iter_range_down zs.length (kept := (hpA, listOf (hfy lt zs).toArray 0) :: (D, listOf ys.toArray ys.length) :: (s₁.heap.objs.size + 1, o2) :: its) (news := [(rwA, listOf zs.toArray cR)]) rfl hR1 (by omega) (by omega) (by omega) (by omega) (by omega) F12 (cb_drop N12 (fun p hp => ?_)) ?_
        (fun i m₁ var => ∃ ws u, m₁ = kstB u [(Str.ofString "script", .ref la), (Str.ofString "items", .ref D), (Str.ofString "heap", .ref hpA), (Str.ofString "row", .ref rwA)] ∧ var = [(rwA, listOf ws.toArray cR)] ∧ ws.length = zs.length ∧ (∀ v ∈ ws, IsIt its v) ∧ rowFrom lt (zs.length - i) ws = hfy lt zs) ?_ ?_ ?_
      · simp only [List.cons_append, List.nil_append, List.mem_cons] at hp ⊢
        rcases hp with h | h | h | h | h <;> simp [h]
      · intro p hp q hq
        rw [List.mem_singleton.mp hq]
        simp only [List.mem_cons] at hp
        rcases hp with rfl | rfl | rfl | hp
        · exact neN (by dsimp only; omega)
        · exact neN (by dsimp only; omega)
        · exact neN (by dsimp only; omega)
        · have := hrI p hp; exact neN (by omega)
      · exact ⟨zs, _, kst_self (by kst_all), rfl, rfl, hS1, hhp.1⟩
      · rintro i t9 m₁ var h tk own hi ⟨ws, u, rfl, rfl, hwl, hwS, hwr⟩ hkp hso F₁ N₁
        have hok1 : ∀ p ∈ own, p.1 ≠ rwA := fun p hp => hso p hp (rwA, _) (.head _)
        have hits : ∀ q ∈ its, q ∈ own := fun q hq => hkp q (.tail _ (.tail _ (.tail _ hq)))
        replace N₁ := news_more N₁ hkp
        obtain ⟨pl, hpl⟩ : ∃ pl, zs.length - i = pl + 1 := ⟨zs.length - i - 1, by omega⟩
        have epl : (zs.length : Int) - 1 - (i : Int) = (pl : Int) := by omega
        rw [epl] at F₁
        rw [hpl, rowFrom] at hwr
        have hplw : pl < ws.length := by omega
        have hmw := layAt_mem (lt := lt) hwS hplw
        have hwx : IsIt its (ws.getD pl .none) := hwS _ (getD_mem hplw)
        dsimp only [kstB] at F₁
        simp only [List.cons_append, List.nil_append] at N₁
        change Fr s₁.heap s₁.heap.objs.size _ _ at F₁
        change News s₁.heap s₁.heap.objs.size _ _ at N₁
        clear N12 F12 hR1 hso
        repeat' (first | walk1 | (dsimp only; walk1))
        unfold Stop
        refine lay_at_spec (d := 0) (S := IsIt its) (lt := lt) (a := rwA) (vs := ws) (n := cR) (pl := pl) (x := ws.getD pl .none) (rest := (hpA, listOf (hfy lt zs).toArray 0) :: (D, listOf ys.toArray ys.length) :: (s₁.heap.objs.size + 1, o2) :: (its ++ own)) oK ((C0 _ rfl rfl).less (by omega)) F₁ N₁ (fun q hq => ?_) (by omega) hplw hwS hwx
          (fun g' hr _ => hcm g' fun q hq => hr q (.tail _ (.tail _ (.tail _ (List.mem_append_left _ hq))))) (fun g' hr _ => hem g' fun q hq => hr q (.tail _ (.tail _ (.tail _ (List.mem_append_left _ hq))))) ?_
        · simp only [List.mem_cons, List.mem_append] at hq
          rcases hq with rfl | rfl | rfl | hq | hq
          · exact neN (by dsimp only; omega)
          · exact neN (by dsimp only; omega)
          · exact neN (by dsimp only; omega)
          · exact hok1 q (hits q hq)
          · exact hok1 q hq
        intro h13 tk13 F13 N13
        clear N₁ F₁
        repeat' (first | walk1 | (dsimp only; walk1))
        exact ⟨_, _, _, [(rwA, listOf (layAt lt ws pl (ws.getD pl .none)).toArray cR)], rfl, F13, cb_drop N13 (fun p hp => by
          simp only [List.cons_append, List.nil_append, List.mem_cons, List.mem_append] at hp ⊢
          rcases hp with h | h <;> simp [h]), fun p hp q hq => (List.mem_singleton.mp hq) ▸ hok1 p hp, _, _, kst_self (by kst_all), rfl, by rw [layAt_len]; exact hwl, hmw, by rw [show zs.length - (i + 1) = pl by omega]; exact hwr⟩
      · rintro m₁ var h tk ⟨ws, u, rfl, rfl, hwl, hwS, hwr⟩ hso F₁ N₁
        rw [Nat.sub_self, rowFrom] at hwr
        subst hwr
        dsimp only [kstB] at F₁
        simp only [List.cons_append, List.nil_append] at N₁
        change Fr s₁.heap s₁.heap.objs.size _ _ at F₁
        change News s₁.heap s₁.heap.objs.size _ _ at N₁
        clear N12 F12 hR1 hso
        dsimp only
        repeat' (first | walk1 | (dsimp only; walk1))
        unfold Stop
        generalize hfy lt zs = zh at *
        refine same_spec (d := 0) (a := hpA) (b := rwA) (vs := zh) (n := 0) (n2 := cR) (rest := (D, listOf ys.toArray ys.length) :: (s₁.heap.objs.size + 1, o2) :: its) ((C0 _ rfl rfl).less (by omega)) F₁ (cb_drop N₁ (fun p hp => ?_)) (neN (by omega)) (fun q hq => ?_) (fun q hq => ?_) (by omega) (fun v hv => (hwS v hv).plain) ?_
        · simp only [List.mem_cons] at hp ⊢
          rcases hp with h | h | h | h | h <;> simp [h]
        · simp only [List.mem_cons] at hq
          rcases hq with rfl | rfl | hq
          · exact neN (by dsimp only; omega)
          · exact neN (by dsimp only; omega)
          · have := l9b q hq; exact neN (by omega)
        · simp only [List.mem_cons] at hq
          rcases hq with rfl | rfl | hq
          · exact neN (by dsimp only; omega)
          · exact neN (by dsimp only; omega)
          · have := hrI q hq; exact neN (by omega)
        intro h14 tk14 F14 N14
        clear N₁ F₁
        repeat' (first | walk1 | (dsimp only; walk1))
        unfold Stop
        refine For_invV s₁.heap rfl rfl ?_
        repeat' (first | walk1 | (dsimp only; walk1))
        unfold Stop
        rename IsRange _ _ _ _ _ _ _ _ => hR2
        rename Fr s₁.heap s₁.heap.objs.size _ _ => F15
        rename News s₁.heap s₁.heap.objs.size _ _ => N15
        refine iter_range_up (ys.length - md) (kept := (D, listOf ys.toArray ys.length) :: (s₁.heap.objs.size + 1, o2) :: its) (news := [(hpA, listOf zh.toArray 0), (rwA, listOf zh.toArray cR)]) rfl hR2 (by omega) (by omega) (by omega) (by omega) (by omega) F15 N15 ?_
          (fun i m₁ var => ∃ vs nh nr u, m₁ = kstB u [(Str.ofString "script", .ref la), (Str.ofString "items", .ref D), (Str.ofString "heap", .ref hpA), (Str.ofString "row", .ref rwA)] ∧ var = [(hpA, listOf vs.toArray nh), (rwA, listOf vs.toArray nr)] ∧ HeapAt lt 0 vs ∧ (∀ v ∈ vs, IsIt its v) ∧ vs.length ≤ 62 + i) ?_ ?_ ?_
        · intro p hp q hq
          simp only [List.mem_cons, List.not_mem_nil, or_false] at hp hq
          rcases hq with rfl | rfl
          · rcases hp with rfl | rfl | hp
            · exact neN (by dsimp only; omega)
            · exact neN (by dsimp only; omega)
            · have := l9b p hp; exact neN (by omega)
          · rcases hp with rfl | rfl | hp
            · exact neN (by dsimp only; omega)
            · exact neN (by dsimp only; omega)
            · have := hrI p hp; exact neN (by omega)
        · exact ⟨zh, _, _, _, kst_self (by kst_all), rfl, hhp.2, hwS, by omega⟩
        · rintro i t9 m₁ var h tk own hi ⟨vs, nh, nr, u, rfl, rfl, hHp, hvS, hvl9⟩ hkp hso F₁ N₁
          have hok1 : ∀ p ∈ own, p.1 ≠ hpA := fun p hp => hso p hp (hpA, _) (.head _)
          have hok2 : ∀ p ∈ own, p.1 ≠ rwA := fun p hp => hso p hp (rwA, _) (.tail _ (.head _))
          have hits : ∀ q ∈ its, q ∈ own := fun q hq => hkp q (.tail _ (.tail _ hq))
          replace N₁ := news_more N₁ hkp
          have epl : Int.fmod hdv 64 + (i : Int) = ((md + i : Nat) : Int) := by omega
          rw [epl] at F₁
          have hki : md + i < ys.length := by omega
          have hkx : IsIt its (ys.getD (md + i) .none) := hys _ (getD_mem hki)
          have hns : ns0.length = ys.length + 1 := by
            have h1 := hI.length
            have h2 := hyl
            simp only [List.size_toArray, List.length_drop] at h2
            omega
          generalize hkk : md + i = kk at *
          dsimp only [kstB] at F₁
          simp only [List.cons_append, List.nil_append] at N₁
          change Fr s₁.heap s₁.heap.objs.size _ _ at F₁
          change News s₁.heap s₁.heap.objs.size _ _ at N₁
          clear N15 F15 hR2 hso
          repeat' (first | walk1 | (dsimp only; walk1))
          unfold Stop
          rename Fr s₁.heap s₁.heap.objs.size _ _ => F16
          rename News s₁.heap s₁.heap.objs.size _ _ => N16
          obtain ⟨ck, hck5, hck⟩ : ∃ ck : Nat, ck < 5 ∧ (ns0.getD (kk + 1) 0).fmod 5 = (ck : Int) := by
            have h0 := fmod_lo (ns0.getD (kk + 1) 0) (n := 5) (by decide)
            have h1 := fmod_hi (ns0.getD (kk + 1) 0) (n := 5) (by decide)
            exact ⟨((ns0.getD (kk + 1) 0).fmod 5).toNat, by omega, by omega⟩
          rw [toNat_succ, hck] at F16
          rw [hck]
          obtain ⟨hdue, hHp'⟩ := told_due oK hHp ck (ys.getD kk .none)
          obtain ⟨htl, htS⟩ := toldR_row (lt := lt) (vs := vs) (k := ck) (x := ys.getD kk .none)
          obtain ⟨ht1, ht2⟩ := toldR_told (lt := lt) (vs := vs) (k := ck) (x := ys.getD kk .none)
          have hS' : ∀ v ∈ (toldR lt vs ck (ys.getD kk .none)).2, IsIt its v := fun v hv => by
            rcases htS v hv with rfl | h
            · exact hkx
            · exact hvS v h
          have hP1 : ∀ v ∈ (toldR lt vs ck (ys.getD kk .none)).1, IsPlain v := fun v hv => by
            rcases ht2 v hv with rfl | rfl | h
            · exact .inl rfl
            · exact hkx.plain
            · exact (hvS v h).plain
          clear htS ht2
          generalize hxx : ys.getD kk .none = xx at *
          refine told_spec (d := 0) (S := IsIt its) (lt := lt) (a := hpA) (vs := vs) (n := nh) (k := ck) (x := xx) (rest := (rwA, listOf vs.toArray nr) :: (D, listOf ys.toArray ys.length) :: (s₁.heap.objs.size + 1, o2) :: (its ++ own)) ((C0 _ rfl rfl).less (by omega)) F16 K0' KX T rfl rfl rfl N16 (fun q hq => ?_) (by omega) hck5 hvS hkx
            (fun g' hr _ => hcm g' fun q hq => hr q (.tail _ (.tail _ (.tail _ (List.mem_append_left _ hq))))) ?_
          · simp only [List.mem_cons, List.mem_append] at hq
            rcases hq with rfl | rfl | rfl | hq | hq
            · exact neN (by dsimp only; omega)
            · exact neN (by dsimp only; omega)
            · exact neN (by dsimp only; omega)
            · exact hok1 q (hits q hq)
            · exact hok1 q hq
          intro h17 tk17 tA n17 F17 N17 htA htr
          clear N16 F16
          have htr1 := htr _ (.head _)
          have htr2 := htr _ (.tail _ (.head _))
          have htr3 := htr _ (.tail _ (.tail _ (.head _)))
          have htr4 : ∀ q ∈ its ++ own, tA ≠ q.1 := fun q hq => htr _ (.tail _ (.tail _ (.tail _ hq)))
          dsimp only at htr1 htr2 htr3
          repeat' (first | walk1 | (dsimp only; walk1))
          unfold Stop
          rename Fr s₁.heap s₁.heap.objs.size _ _ => F18
          rename News s₁.heap s₁.heap.objs.size _ _ => N18
          rw [hxx]
          refine due_spec (d := 0) (S := IsIt its) (lt := lt) (a := rwA) (vs := vs) (n := nr) (k := ck) (x := xx) (rest := (tA, listOf (toldR lt vs ck xx).1.toArray 0) :: (hpA, listOf (toldR lt vs ck xx).2.toArray n17) :: (D, listOf ys.toArray ys.length) :: (s₁.heap.objs.size + 1, o2) :: (its ++ own)) oK ((C0 _ rfl rfl).less (by omega)) F18 (cb_drop N18 (fun p hp => ?_)) (fun q hq => ?_) (by omega) hck5 hvS hkx
            (fun g' hr _ => hcm g' fun q hq => hr q (.tail _ (.tail _ (.tail _ (.tail _ (List.mem_append_left _ hq)))))) (fun g' hr _ => hem g' fun q hq => hr q (.tail _ (.tail _ (.tail _ (.tail _ (List.mem_append_left _ hq)))))) ?_
          · simp only [List.mem_cons] at hp ⊢
            rcases hp with h | h | h | h | h | h <;> simp [h]
          · simp only [List.mem_cons, List.mem_append] at hq
            rcases hq with rfl | rfl | rfl | rfl | hq | hq
            · exact htr1
            · exact neN (by dsimp only; omega)
            · exact neN (by dsimp only; omega)
            · exact neN (by dsimp only; omega)
            · exact hok2 q (hits q hq)
            · exact hok2 q hq
          intro h19 tk19 dA n19 F19 N19 hdA hdr
          rw [hdue] at N19
          clear N18 F18
          have hdr1 := hdr _ (.head _)
          have hdr2 := hdr _ (.tail _ (.head _))
          have hdr3 := hdr _ (.tail _ (.tail _ (.head _)))
          have hdr4 := hdr _ (.tail _ (.tail _ (.tail _ (.head _))))
          have hdr5 : ∀ q ∈ its ++ own, dA ≠ q.1 := fun q hq => hdr _ (.tail _ (.tail _ (.tail _ (.tail _ hq))))
          dsimp only at hdr1 hdr2 hdr3 hdr4
          clear hdr htr
          generalize toldR lt vs ck xx = tr at *
          obtain ⟨tl, rw9⟩ := tr
          dsimp only at N19 hS' hP1 hHp' ht1 htl
          repeat' (first | walk1 | (dsimp only; walk1))
          unfold Stop
          refine same_spec (d := 0) (a := tA) (b := dA) (vs := tl) (n := 0) (n2 := 0) (rest := (hpA, listOf rw9.toArray n17) :: (rwA, listOf rw9.toArray n19) :: (D, listOf ys.toArray ys.length) :: (s₁.heap.objs.size + 1, o2) :: (its ++ own)) ((C0 _ rfl rfl).less (by omega)) F19 (cb_drop N19 (fun p hp => ?_)) hdr1.symm (fun q hq => ?_) (fun q hq => ?_) (by omega) hP1 ?_
          · simp only [List.mem_cons] at hp ⊢
            rcases hp with h | h | h | h | h | h | h <;> simp [h]
          · rcases List.mem_cons.mp hq with rfl | hq
            · exact htA.symm
            rcases List.mem_cons.mp hq with rfl | hq
            · exact htr1.symm
            rcases List.mem_cons.mp hq with rfl | hq
            · exact htr2.symm
            rcases List.mem_cons.mp hq with rfl | hq
            · exact htr3.symm
            · exact (htr4 q hq).symm
          · rcases List.mem_cons.mp hq with rfl | hq
            · exact hdr2.symm
            rcases List.mem_cons.mp hq with rfl | hq
            · exact hdA.symm
            rcases List.mem_cons.mp hq with rfl | hq
            · exact hdr3.symm
            rcases List.mem_cons.mp hq with rfl | hq
            · exact hdr4.symm
            · exact (hdr5 q hq).symm
          intro h20 tk20 F20 N20
          clear N19 F19
          repeat' (first | walk1 | (dsimp only; walk1))
          unfold Stop
          refine same_spec (d := 0) (a := hpA) (b := rwA) (vs := rw9) (n := n17) (n2 := n19) (rest := (D, listOf ys.toArray ys.length) :: (s₁.heap.objs.size + 1, o2) :: (its ++ own)) ((C0 _ rfl rfl).less (by omega)) F20 (cb_drop N20 (fun p hp => ?_)) (neN (by omega)) (fun q hq => ?_) (fun q hq => ?_) (by omega) (fun v hv => (hS' v hv).plain) ?_
          · simp only [List.mem_cons] at hp ⊢
            rcases hp with h | h | h | h | h <;> simp [h]
          · simp only [List.mem_cons, List.mem_append] at hq
            rcases hq with rfl | rfl | hq | hq
            · exact neN (by dsimp only; omega)
            · exact neN (by dsimp only; omega)
            · exact hok1 q (hits q hq)
            · exact hok1 q hq
          · simp only [List.mem_cons, List.mem_append] at hq
            rcases hq with rfl | rfl | hq | hq
            · exact neN (by dsimp only; omega)
            · exact neN (by dsimp only; omega)
            · exact hok2 q (hits q hq)
            · exact hok2 q hq
          intro h21 tk21 F21 N21
          clear N20 F20
          repeat' (first | walk1 | (dsimp only; walk1))
          rename Fr s₁.heap s₁.heap.objs.size _ _ => F22
          rename News s₁.heap s₁.heap.objs.size _ _ => N22
          refine ⟨_, _, _, [(hpA, listOf rw9.toArray n17), (rwA, listOf rw9.toArray n19)], rfl, F22, cb_drop N22 (fun p hp => ?_), fun p hp q hq => ?_, _, _, _, _, kst_self (by kst_all), rfl, hHp', hS', by omega⟩
          · simp only [List.cons_append, List.nil_append, List.mem_cons, List.mem_append] at hp ⊢
            rcases hp with h | h | h <;> simp [h]
          · simp only [List.mem_cons, List.not_mem_nil, or_false] at hq
            rcases hq with rfl | rfl
            · exact hok1 p hp
            · exact hok2 p hp
        · rintro m₁ var h tk ⟨vs, nh, nr, u, rfl, rfl, hHp, hvS, hvl9⟩ hso F₁ N₁
          dsimp only [kstB] at F₁
          simp only [List.cons_append, List.nil_append] at N₁
          change Fr s₁.heap s₁.heap.objs.size _ _ at F₁
          change News s₁.heap s₁.heap.objs.size _ _ at N₁
          clear N15 F15 hR2 hso
          dsimp only
          repeat' (first | walk1 | (dsimp only; walk1))
          k_steps)
end Mine

theorem PySem.Challenge.cw_dn0041_09_holds : PySem.Challenge.rw_dn0041_09.Holds := by
  exact Mine.law09
